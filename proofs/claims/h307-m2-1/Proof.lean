import JvmDerived
import JvmDerived.Pilot.@@N@@Statement
import JvmDerived.Pilot.@@N@@Code
set_option linter.unusedVariables false
set_option linter.unusedSimpArgs false
@@BLOCK:NumsL.lean.txt@@
namespace Jvm.RoadKit
open Sem ClassFile Op Lib Jvm.Stand Jvm.Free Jvm.LawKit
section New
variable {p : Program} {l : Launch} {e : Env} {R : Room} {s : State} {m : MethodId} {args : Array Value} {below : List Frame} {meth : Method} {c : Code} {T : State} {locs : List Loc} {cells slots : Nat}
theorem retI (X : Stand p l e R s m args below meth c T locs cells slots) (hx : p.tables.exec = Jvm.exec) {pc : Nat} {Ls : Array Slot} {z : Int32} {rest : List Value} (hret : meth.sig.returnType = some .int) (hd : decode c.code pc = .ok (.ireturn, 1)) {fs : List Frame}
    (hl : ∀ (f : JFrame) (acts : List Action), f.method = m → f.locked = none → f.entered = [] → (doReturn e (T.setTop f) acts (some (.int z))).1 = T.setFrames fs) : Steps p.tables e below (T.setTop (mkF m pc Ls (.int z :: rest))) (T.setFrames fs) := by
  have hm' : T.vm.method? m = some meth := X.method'
  have hn : narrow .int (.int z) = .int z := rfl
  show Steps p.tables e below (T.setTop { method := m, pc := pc, locals := Ls, stack := _ :: rest, locked := none }) _
  jvm_step X.here [X.here.top, hx, hd, hm', hret, hn]
  first | (intro acts; rw [hl _ acts rfl rfl rfl]) | rw [hl _ _ rfl rfl rfl]
  exact Steps.refl _
end New
theorem own_sta_keep {Z : State} {h h' : Heap} {C n d : String} {v : Value} {ws : List Addr} (F : Sta Z h C n d v) (K : Keep h h' ws) (q : ∀ x ∈ ws, ∀ cell : Cell, h[x]? = some cell → cell.vm.isStatics = false) : Sta Z h' C n d v := by
  obtain ⟨cf, i, k, f, st, cell, h1, h2, h3, h4, h5, h6, h7⟩ := F
  exact ⟨cf, i, k, f, st, cell, h1, h2, h3, h4, K.2.1 st cell h5 (fun hm => by rw [q st hm cell h5] at h6; cases h6), h6, h7⟩
/-- a class that is none of the interfaces -/
def NoFace (Z : State) (N : String) : Prop := ∃ (c : ClassId) (k : Class), Z.vm.findClass N = some c ∧ Z.vm.classes[c]? = some k ∧ k.isInterface = false
theorem own_noface {Z : State} {a0 : Array Value} {C : String} {y : MethodName} (w : (Cond.selects C y y).before a0 Z = true) : NoFace Z y.cls := by
  obtain ⟨c2, r2, m2, q1, q2, q3, q4, kP, hkP, hkPi⟩ := Cond.selects_spec w
  exact ⟨m2.cls, kP, findClass_of_methodNamed q3, hkP, hkPi⟩
theorem own_same {Z : State} {a0 : Array Value} {y : MethodName} (F : NoFace Z y.cls) (wi : (Cond.instanceMethod y).before a0 Z = true) (hy : y.cls ≠ "java/lang/invoke/MethodHandle" ∧ y.cls ≠ "java/lang/invoke/VarHandle") : (Cond.sameMethod y.cls y.cls y.name y.desc).before a0 Z = true := by
  obtain ⟨c, k, h1, h2, h3⟩ := F
  obtain ⟨mk, methM, hnamed, hmethM, -, -⟩ := Cond.instanceMethod_spec wi
  have hfound : Z.methodFound? y.cls y.name y.desc = some mk := State.methodFound?_of_named hnamed hy
  have hn : Z.methodNamed? ⟨y.cls, y.name, y.desc⟩ = some mk := hnamed
  simp only [Cond.before, Cond.holds, Cond.value, h1, hfound, hn, h2]
  simp; exact h3
theorem own_psel {Z : State} {a0 : Array Value} {y : MethodName} (F : NoFace Z y.cls) (wi : (Cond.instanceMethod y).before a0 Z = true) (wp : (Cond.privateMethod y).before a0 Z = true) (hy : y.cls ≠ "java/lang/invoke/MethodHandle" ∧ y.cls ≠ "java/lang/invoke/VarHandle") : (Cond.selects y.cls y y).before a0 Z = true := by
  obtain ⟨c, k, h1, h2, h3⟩ := F
  exact selects_self_of_private h1 h2 h3 (Cond.privateMethod_at wp) wi hy
/-- from A the run goes on as from B -/
def Rch (tb : Tables) (e : Env) (below : List Frame) (A B : State) : Prop := ∀ t, Steps tb e below B t → Steps tb e below A t
end Jvm.RoadKit
namespace Jvm.Pilot.@@N@@
open Jvm Jvm.ClassFile Sem Op Lib Jvm.Free Jvm.Stand Jvm.LawKit Jvm.RoadKit Bundle Jvm.Pilot.@@N@@.Jvm.D
/-- what grants answers for the strategy of number o -/
def gr (o g d t : Int32) : Int32 := if o = 0 then (if 0 < g then 1 else 0) else if o = 1 then (if d < g then 1 else if g = d then (if t = 0 then 0 else 1) else 0) else (if d = 0 then 1 else 0)
theorem d2_0 : decode jdk_37_method_2_code 0 = .ok (.aload_n 0, 1) := by decide +kernel
theorem d2_1 : decode jdk_37_method_2_code 1 = .ok (.getfield 7, 3) := by decide +kernel
theorem d2_4 : decode jdk_37_method_2_code 4 = .ok (.ireturn, 1) := by decide +kernel
theorem pn_0 : plainName "java/lang/Enum" = true := by first | (simp [plainName, overriddenIn]; done) | decide +kernel
theorem ef_2 (m : MethodId) (x0 : Addr) : entryFrame m #[(.ref x0)] 1 = mkF m 0 #[.val (.ref x0)] [] := by first | (simp [entryFrame, mkF, argsToLocals, Value.category]; done) | rfl
def Q2 (Z : State) (a : Addr) (o : Int32) (h0 : Heap) (n0 : Nat) (v : Option Value) (h : Heap) (L : List Loc) : Prop := v = some (.int o) ∧ Fr n0 L ∧ h = h0
set_option maxRecDepth 65536 in
set_option maxHeartbeats 40000000 in
theorem rm2 (l : Launch) (Z : State) (a0 : Array Value) (hw : ∀ d ∈ tables_1, d.before a0 Z = true) (ws : List Jvm.Cond) (a : Addr) (o : Int32) (h0 : Heap) (n0 : Nat) (Z0 : n0 ≤ h0.size) (F1 : Fld Z h0 a "java/lang/Enum" "ordinal" "I" (.int o)) :
    MetFree l (⟨"java/lang/Enum", "ordinal", "()I"⟩ : MethodName) (head1 (Jvm.Cond.code (⟨"java/lang/Enum", "ordinal", "()I"⟩ : MethodName) jdk_37_method_2_code 1 (some .int) :: ws) ({ frames := 0, cells := 0, slots := 0, locals := 0 } : Room)) (fun aA U => aA = #[(.ref a)] ∧ Z.Warmed39 U.vm ∧ U.heap = h0) (fun _ _ _ _ _ => True) (fun _ U oO U' => ∃ vV LL, oO = .returned vV ∧ Q2 Z a o h0 n0 vV U'.heap LL ∧ FrameEnd U oO U' LL ({ frames := 0, cells := 0, slots := 0, locals := 0 } : Room).cells ({ frames := 0, cells := 0, slots := 0, locals := 0 } : Room).slots) := by
  refine MetFree.of_bodySF (plainFor_of_name pn_0) hisR ?_
  intro p e s m args below meth c s₁ Bd hml0 hP hK
  obtain ⟨rfl, hZ, hh⟩ := hP
  have hx := Bd.exec
  have hby := Bd.bytes
  have hml : c.maxLocals = 1 := hml0
  have hown : s.vm.findClass "java/lang/Enum" = some m.cls := findClass_of_methodNamed Bd.named
  have hnm := (name_of_methodNamed Bd.named Bd.method).1
  have X0 : Stand p l e ({ frames := 0, cells := 0, slots := 0, locals := 0 } : Room) s m #[(.ref a)] below meth c s₁ [] 0 0 := Stand.of_body Bd
  have e0 : s₁.heap = h0 := by rw [← hh, Bd.state]; rfl
  have N0 := Fr.nil n0
  have K0 : Keep h0 h0 [] := Keep.refl _ _
  have pre0 : Rch p.tables e below (s₁.setTop (entryFrame m #[(.ref a)] 1)) (s₁.setTop (mkF m 0 #[.val (.ref a)] [])) := fun tgt ktg => castTop (ef_2 m a) ktg
  have pre1 : Rch p.tables e below (s₁.setTop (entryFrame m #[(.ref a)] 1)) (s₁.setTop (mkF m 1 #[.val (.ref a)] [(.ref a)])) := fun tgt ktg => pre0 tgt (by
    show Steps p.tables e below (s₁.setTop (mkF m 0 #[.val (.ref a)] [])) _
    refine XS.aloadN X0.here hx rfl (hb hby d2_0) rfl rfl ?_
    exact ktg)
  obtain ⟨T2, X2, e2, st2⟩ := getF X0 hx hZ hown (host := "") (Or.inl (hw _ (List.mem_of_getElem? (i := 16) rfl))) Via.refl e0 F1 (g := (mkF m 1 #[.val (.ref a)] [(.ref a)])) rfl rfl (hb hby d2_1)
  have pre2 : Rch p.tables e below (s₁.setTop (entryFrame m #[(.ref a)] 1)) (T2.setTop (mkF m 4 #[.val (.ref a)] [(.int o)])) := fun tgt ktg => pre1 tgt (st2 tgt ktg)
  obtain ⟨fs, hr, hrun, hended, hW, hsame⟩ := X2.leave (v := some (.int o)) (fun h => by rw [Bd.returns] at h; cases h)
  refine ⟨_, _, pre2 _ ?_, hrun, hended, _, _, rfl, ?_, ⟨_, rfl⟩, hW, hsame.mono (by decide) (by decide)⟩
  · show Steps p.tables e below (T2.setTop (mkF m 4 #[.val (.ref a)] [(.int o)])) _
    exact retI X2 hx Bd.returns (hb hby d2_4) hr
  · show Q2 Z a o h0 n0 _ T2.heap _
    rw [e2]
    exact ⟨rfl, N0, rfl⟩
theorem d1_0 : decode prog_9_method_4_code 0 = .ok (.aload_n 0, 1) := by decide +kernel
theorem d1_1 : decode prog_9_method_4_code 1 = .ok (.invokevirtual 32, 3) := by decide +kernel
theorem pd_0 : parseMethodDescriptor "()I" = some ⟨[], some .int⟩ := by decide +kernel
theorem d1_4 : decode prog_9_method_4_code 4 = .ok (.tableswitch 28 0 2 #[38, 50, 72], 28) := by decide +kernel
theorem d1_42 : decode prog_9_method_4_code 42 = .ok (.iload_n 1, 1) := by decide +kernel
theorem d1_43 : decode prog_9_method_4_code 43 = .ok (.ifCond .le 7, 3) := by decide +kernel
theorem d1_46 : decode prog_9_method_4_code 46 = .ok (.iconst 1, 1) := by decide +kernel
theorem d1_47 : decode prog_9_method_4_code 47 = .ok (.goto 38, 3) := by decide +kernel
theorem d1_85 : decode prog_9_method_4_code 85 = .ok (.ireturn, 1) := by decide +kernel
theorem d1_50 : decode prog_9_method_4_code 50 = .ok (.iconst 0, 1) := by decide +kernel
theorem d1_51 : decode prog_9_method_4_code 51 = .ok (.goto 34, 3) := by decide +kernel
theorem pn_1 : plainName "com/example/velvet_rope/velvetrope/DecisionStrategy" = true := by first | (simp [plainName, overriddenIn]; done) | decide +kernel
theorem ef_G0 (m : MethodId) (x0 : Addr) (x1 : Int32) (x2 : Int32) (x3 : Int32) : entryFrame m #[(.ref x0), (.int x1), (.int x2), (.int x3)] 4 = mkF m 0 #[.val (.ref x0), .val (.int x1), .val (.int x2), .val (.int x3)] [] := by first | (simp [entryFrame, mkF, argsToLocals, Value.category]; done) | rfl
def QG0 (Z : State) (a : Addr) (g : Int32) (d : Int32) (t : Int32) (h0 : Heap) (n0 : Nat) (v : Option Value) (h : Heap) (L : List Loc) : Prop := v = some (.int (gr 0 g d t)) ∧ Fr n0 L ∧ h = h0
set_option maxRecDepth 65536 in
set_option maxHeartbeats 40000000 in
theorem rmG0 (l : Launch) (Z : State) (a0 : Array Value) (hw : ∀ d ∈ tables_1, d.before a0 Z = true) (ws : List Jvm.Cond) (a : Addr) (g : Int32) (d : Int32) (t : Int32) (h0 : Heap) (n0 : Nat) (Z0 : n0 ≤ h0.size) (E1 : Exa Z h0 a "com/example/velvet_rope/velvetrope/DecisionStrategy") (F1 : Fld Z h0 a "java/lang/Enum" "ordinal" "I" (.int 0)) :
    MetFree l (⟨"com/example/velvet_rope/velvetrope/DecisionStrategy", "grants", "(IIZ)Z"⟩ : MethodName) (head1 (Jvm.Cond.code (⟨"com/example/velvet_rope/velvetrope/DecisionStrategy", "grants", "(IIZ)Z"⟩ : MethodName) prog_9_method_4_code 4 (some .boolean) :: ws) ({ frames := 1, cells := 0, slots := 0, locals := 12 } : Room)) (fun aA U => aA = #[(.ref a), (.int g), (.int d), (.int t)] ∧ Z.Warmed39 U.vm ∧ U.heap = h0) (fun _ _ _ _ _ => True) (fun _ U oO U' => ∃ vV LL, oO = .returned vV ∧ QG0 Z a g d t h0 n0 vV U'.heap LL ∧ FrameEnd U oO U' LL ({ frames := 1, cells := 0, slots := 0, locals := 12 } : Room).cells ({ frames := 1, cells := 0, slots := 0, locals := 12 } : Room).slots) := by
  refine MetFree.of_bodySF (plainFor_of_name pn_1) hisR ?_
  intro p e s m args below meth c s₁ Bd hml0 hP hK
  obtain ⟨rfl, hZ, hh⟩ := hP
  have hx := Bd.exec
  have hby := Bd.bytes
  have hml : c.maxLocals = 4 := hml0
  have hown : s.vm.findClass "com/example/velvet_rope/velvetrope/DecisionStrategy" = some m.cls := findClass_of_methodNamed Bd.named
  have hnm := (name_of_methodNamed Bd.named Bd.method).1
  have X0 : Stand p l e ({ frames := 1, cells := 0, slots := 0, locals := 12 } : Room) s m #[(.ref a), (.int g), (.int d), (.int t)] below meth c s₁ [] 0 0 := Stand.of_body Bd
  have e0 : s₁.heap = h0 := by rw [← hh, Bd.state]; rfl
  have N0 := Fr.nil n0
  have K0 : Keep h0 h0 [] := Keep.refl _ _
  have pre0 : Rch p.tables e below (s₁.setTop (entryFrame m #[(.ref a), (.int g), (.int d), (.int t)] 4)) (s₁.setTop (mkF m 0 #[.val (.ref a), .val (.int g), .val (.int d), .val (.int t)] [])) := fun tgt ktg => castTop (ef_G0 m a g d t) ktg
  have pre1 : Rch p.tables e below (s₁.setTop (entryFrame m #[(.ref a), (.int g), (.int d), (.int t)] 4)) (s₁.setTop (mkF m 1 #[.val (.ref a), .val (.int g), .val (.int d), .val (.int t)] [(.ref a)])) := fun tgt ktg => pre0 tgt (by
    show Steps p.tables e below (s₁.setTop (mkF m 0 #[.val (.ref a), .val (.int g), .val (.int d), .val (.int t)] [])) _
    refine XS.aloadN X0.here hx rfl (hb hby d1_0) rfl rfl ?_
    exact ktg)
  obtain ⟨cq2, kq2, q2a, q2b, q2c⟩ := isOf hZ e0 E1
  obtain ⟨_, _, ⟨T2, L2, k2, n2⟩, -, X2, ⟨Lc2, hQ2, l2, y2, z2⟩, st2⟩ := X0.virtualBackUp hx (x := (⟨"com/example/velvet_rope/velvetrope/DecisionStrategy", "ordinal", "()I"⟩ : MethodName)) (y := (⟨"java/lang/Enum", "ordinal", "()I"⟩ : MethodName)) hown (mvT hZ (hw _ (List.mem_of_getElem? (i := 9) rfl))) (mvT hZ (hw _ (List.mem_of_getElem? (i := 10) rfl))) (mvT hZ (hw _ (List.mem_of_getElem? (i := 11) rfl))) (by decide) (mvT hZ (hw _ (List.mem_of_getElem? (i := 13) rfl))) (mvT hZ (hw _ (List.mem_of_getElem? (i := 12) rfl))) (backOf (W := 0) (rm2 l Z a0 hw [] a (0 : Int32) h0 n0 Z0 F1) hZ (hw _ (List.mem_of_getElem? (i := 15) rfl)) (hw _ (List.mem_of_getElem? (i := 14) rfl)) (by decide) (by decide)) q2a q2c (g := (mkF m 1 #[.val (.ref a), .val (.int g), .val (.int d), .val (.int t)] [(.ref a)])) rfl (by rw [hml]; rfl) (Steps.refl _) (argsL := []) (rest := []) (lenOf pd_0 rfl) rfl (by show 2 * 0 + _ ≤ _; exact Nat.le_of_eq rfl) (hb hby d1_1) (fun _ _ => ⟨rfl, e0, (by decide : 0 + 0 ≤ _), (by decide : 0 + 0 ≤ _)⟩)
  dsimp only [Pt.U, Pt.locs, Pt.cells, Pt.slots] at X2 l2 y2 z2 st2 hQ2
  subst l2 y2 z2
  obtain ⟨rfl, Nq2, eh2⟩ := hQ2
  have N3 := Fr.app N0 Nq2
  have pre2 : Rch p.tables e below (s₁.setTop (entryFrame m #[(.ref a), (.int g), (.int d), (.int t)] 4)) (T2.setTop (mkF m 4 #[.val (.ref a), .val (.int g), .val (.int d), .val (.int t)] [(.int (0 : Int32))])) := fun tgt ktg => pre1 tgt (st2.trans ktg)
  have pre4 : Rch p.tables e below (s₁.setTop (entryFrame m #[(.ref a), (.int g), (.int d), (.int t)] 4)) (T2.setTop (mkF m 43 #[.val (.ref a), .val (.int g), .val (.int d), .val (.int t)] [(.int g)])) := fun tgt ktg => pre2 tgt (by
    show Steps p.tables e below (T2.setTop (mkF m 4 #[.val (.ref a), .val (.int g), .val (.int d), .val (.int t)] [(.int (0 : Int32))])) _
    refine XS.tswIn X2.here hx rfl (pc0 := 4) (pc' := 42) rfl (hb hby d1_4) rfl (by decide) (o := 38) (by decide) (by decide) (by decide) ?_
    show Steps p.tables e below (T2.setTop (mkF m 42 #[.val (.ref a), .val (.int g), .val (.int d), .val (.int t)] [])) _
    refine XS.iloadN X2.here hx rfl (hb hby d1_42) rfl ?_
    exact ktg)
  by_cases c5 : (0 : Int32) < g
  · skip
    have pre6 : Rch p.tables e below (s₁.setTop (entryFrame m #[(.ref a), (.int g), (.int d), (.int t)] 4)) (T2.setTop (mkF m 46 #[.val (.ref a), .val (.int g), .val (.int d), .val (.int t)] [])) := fun tgt ktg => pre4 tgt (by
      show Steps p.tables e below (T2.setTop (mkF m 43 #[.val (.ref a), .val (.int g), .val (.int d), .val (.int t)] [(.int g)])) _
      refine XS.ifNo X2.here hx rfl (hb hby d1_43) rfl ((if0 _ _).trans (tlt c5).2.2.2) ?_
      exact ktg)
    have pre7 : Rch p.tables e below (s₁.setTop (entryFrame m #[(.ref a), (.int g), (.int d), (.int t)] 4)) (T2.setTop (mkF m 85 #[.val (.ref a), .val (.int g), .val (.int d), .val (.int t)] [(.int (1 : Int32))])) := fun tgt ktg => pre6 tgt (by
      show Steps p.tables e below (T2.setTop (mkF m 46 #[.val (.ref a), .val (.int g), .val (.int d), .val (.int t)] [])) _
      refine XS.iconst X2.here hx rfl (hb hby d1_46) ?_
      show Steps p.tables e below (T2.setTop (mkF m 47 #[.val (.ref a), .val (.int g), .val (.int d), .val (.int t)] [(.int (1 : Int32))])) _
      refine XS.goto X2.here hx rfl (pc0 := 47) (pc' := 85) rfl (hb hby d1_47) (by decide) (by decide) ?_
      exact ktg)
    obtain ⟨fs, hr, hrun, hended, hW, hsame⟩ := X2.leave (v := some (.int (1 : Int32))) (fun h => by rw [Bd.returns] at h; cases h)
    refine ⟨_, _, pre7 _ ?_, hrun, hended, _, _, rfl, ?_, ⟨_, rfl⟩, hW, hsame.mono (by decide) (by decide)⟩
    · show Steps p.tables e below (T2.setTop (mkF m 85 #[.val (.ref a), .val (.int g), .val (.int d), .val (.int t)] [(.int (1 : Int32))])) _
      exact retN X2 hx (t := .boolean) Bd.returns (by simp) (hb hby d1_85) hr
    · show QG0 Z a g d t h0 n0 _ T2.heap _
      rw [eh2]
      exact ⟨by simp [gr, c5], N3, rfl⟩
  · skip
    have pre8 : Rch p.tables e below (s₁.setTop (entryFrame m #[(.ref a), (.int g), (.int d), (.int t)] 4)) (T2.setTop (mkF m 50 #[.val (.ref a), .val (.int g), .val (.int d), .val (.int t)] [])) := fun tgt ktg => pre4 tgt (by
      show Steps p.tables e below (T2.setTop (mkF m 43 #[.val (.ref a), .val (.int g), .val (.int d), .val (.int t)] [(.int g)])) _
      refine XS.ifYes X2.here hx rfl (pc0 := 43) (pc' := 50) rfl (hb hby d1_43) rfl ((if0 _ _).trans (flt c5).2.2.2) (by decide) (by decide) ?_
      exact ktg)
    have pre9 : Rch p.tables e below (s₁.setTop (entryFrame m #[(.ref a), (.int g), (.int d), (.int t)] 4)) (T2.setTop (mkF m 85 #[.val (.ref a), .val (.int g), .val (.int d), .val (.int t)] [(.int (0 : Int32))])) := fun tgt ktg => pre8 tgt (by
      show Steps p.tables e below (T2.setTop (mkF m 50 #[.val (.ref a), .val (.int g), .val (.int d), .val (.int t)] [])) _
      refine XS.iconst X2.here hx rfl (hb hby d1_50) ?_
      show Steps p.tables e below (T2.setTop (mkF m 51 #[.val (.ref a), .val (.int g), .val (.int d), .val (.int t)] [(.int (0 : Int32))])) _
      refine XS.goto X2.here hx rfl (pc0 := 51) (pc' := 85) rfl (hb hby d1_51) (by decide) (by decide) ?_
      exact ktg)
    obtain ⟨fs, hr, hrun, hended, hW, hsame⟩ := X2.leave (v := some (.int (0 : Int32))) (fun h => by rw [Bd.returns] at h; cases h)
    refine ⟨_, _, pre9 _ ?_, hrun, hended, _, _, rfl, ?_, ⟨_, rfl⟩, hW, hsame.mono (by decide) (by decide)⟩
    · show Steps p.tables e below (T2.setTop (mkF m 85 #[.val (.ref a), .val (.int g), .val (.int d), .val (.int t)] [(.int (0 : Int32))])) _
      exact retN X2 hx (t := .boolean) Bd.returns (by simp) (hb hby d1_85) hr
    · show QG0 Z a g d t h0 n0 _ T2.heap _
      rw [eh2]
      exact ⟨by simp [gr, c5], N3, rfl⟩
theorem d1_54 : decode prog_9_method_4_code 54 = .ok (.iload_n 1, 1) := by decide +kernel
theorem d1_55 : decode prog_9_method_4_code 55 = .ok (.iload_n 2, 1) := by decide +kernel
theorem d1_56 : decode prog_9_method_4_code 56 = .ok (.if_icmp .gt 12, 3) := by decide +kernel
theorem d1_68 : decode prog_9_method_4_code 68 = .ok (.iconst 1, 1) := by decide +kernel
theorem d1_69 : decode prog_9_method_4_code 69 = .ok (.goto 16, 3) := by decide +kernel
theorem d1_59 : decode prog_9_method_4_code 59 = .ok (.iload_n 1, 1) := by decide +kernel
theorem d1_60 : decode prog_9_method_4_code 60 = .ok (.iload_n 2, 1) := by decide +kernel
theorem d1_61 : decode prog_9_method_4_code 61 = .ok (.if_icmp .ne 11, 3) := by decide +kernel
theorem d1_64 : decode prog_9_method_4_code 64 = .ok (.iload_n 3, 1) := by decide +kernel
theorem d1_65 : decode prog_9_method_4_code 65 = .ok (.ifCond .eq 7, 3) := by decide +kernel
theorem d1_72 : decode prog_9_method_4_code 72 = .ok (.iconst 0, 1) := by decide +kernel
theorem d1_73 : decode prog_9_method_4_code 73 = .ok (.goto 12, 3) := by decide +kernel
theorem ef_G1 (m : MethodId) (x0 : Addr) (x1 : Int32) (x2 : Int32) (x3 : Int32) : entryFrame m #[(.ref x0), (.int x1), (.int x2), (.int x3)] 4 = mkF m 0 #[.val (.ref x0), .val (.int x1), .val (.int x2), .val (.int x3)] [] := by first | (simp [entryFrame, mkF, argsToLocals, Value.category]; done) | rfl
def QG1 (Z : State) (a : Addr) (g : Int32) (d : Int32) (t : Int32) (h0 : Heap) (n0 : Nat) (v : Option Value) (h : Heap) (L : List Loc) : Prop := v = some (.int (gr 1 g d t)) ∧ Fr n0 L ∧ h = h0
set_option maxRecDepth 65536 in
set_option maxHeartbeats 40000000 in
theorem rmG1 (l : Launch) (Z : State) (a0 : Array Value) (hw : ∀ d ∈ tables_1, d.before a0 Z = true) (ws : List Jvm.Cond) (a : Addr) (g : Int32) (d : Int32) (t : Int32) (h0 : Heap) (n0 : Nat) (Z0 : n0 ≤ h0.size) (E1 : Exa Z h0 a "com/example/velvet_rope/velvetrope/DecisionStrategy") (F1 : Fld Z h0 a "java/lang/Enum" "ordinal" "I" (.int 1)) :
    MetFree l (⟨"com/example/velvet_rope/velvetrope/DecisionStrategy", "grants", "(IIZ)Z"⟩ : MethodName) (head1 (Jvm.Cond.code (⟨"com/example/velvet_rope/velvetrope/DecisionStrategy", "grants", "(IIZ)Z"⟩ : MethodName) prog_9_method_4_code 4 (some .boolean) :: ws) ({ frames := 1, cells := 0, slots := 0, locals := 12 } : Room)) (fun aA U => aA = #[(.ref a), (.int g), (.int d), (.int t)] ∧ Z.Warmed39 U.vm ∧ U.heap = h0) (fun _ _ _ _ _ => True) (fun _ U oO U' => ∃ vV LL, oO = .returned vV ∧ QG1 Z a g d t h0 n0 vV U'.heap LL ∧ FrameEnd U oO U' LL ({ frames := 1, cells := 0, slots := 0, locals := 12 } : Room).cells ({ frames := 1, cells := 0, slots := 0, locals := 12 } : Room).slots) := by
  refine MetFree.of_bodySF (plainFor_of_name pn_1) hisR ?_
  intro p e s m args below meth c s₁ Bd hml0 hP hK
  obtain ⟨rfl, hZ, hh⟩ := hP
  have hx := Bd.exec
  have hby := Bd.bytes
  have hml : c.maxLocals = 4 := hml0
  have hown : s.vm.findClass "com/example/velvet_rope/velvetrope/DecisionStrategy" = some m.cls := findClass_of_methodNamed Bd.named
  have hnm := (name_of_methodNamed Bd.named Bd.method).1
  have X0 : Stand p l e ({ frames := 1, cells := 0, slots := 0, locals := 12 } : Room) s m #[(.ref a), (.int g), (.int d), (.int t)] below meth c s₁ [] 0 0 := Stand.of_body Bd
  have e0 : s₁.heap = h0 := by rw [← hh, Bd.state]; rfl
  have N0 := Fr.nil n0
  have K0 : Keep h0 h0 [] := Keep.refl _ _
  have pre0 : Rch p.tables e below (s₁.setTop (entryFrame m #[(.ref a), (.int g), (.int d), (.int t)] 4)) (s₁.setTop (mkF m 0 #[.val (.ref a), .val (.int g), .val (.int d), .val (.int t)] [])) := fun tgt ktg => castTop (ef_G1 m a g d t) ktg
  have pre1 : Rch p.tables e below (s₁.setTop (entryFrame m #[(.ref a), (.int g), (.int d), (.int t)] 4)) (s₁.setTop (mkF m 1 #[.val (.ref a), .val (.int g), .val (.int d), .val (.int t)] [(.ref a)])) := fun tgt ktg => pre0 tgt (by
    show Steps p.tables e below (s₁.setTop (mkF m 0 #[.val (.ref a), .val (.int g), .val (.int d), .val (.int t)] [])) _
    refine XS.aloadN X0.here hx rfl (hb hby d1_0) rfl rfl ?_
    exact ktg)
  obtain ⟨cq2, kq2, q2a, q2b, q2c⟩ := isOf hZ e0 E1
  obtain ⟨_, _, ⟨T2, L2, k2, n2⟩, -, X2, ⟨Lc2, hQ2, l2, y2, z2⟩, st2⟩ := X0.virtualBackUp hx (x := (⟨"com/example/velvet_rope/velvetrope/DecisionStrategy", "ordinal", "()I"⟩ : MethodName)) (y := (⟨"java/lang/Enum", "ordinal", "()I"⟩ : MethodName)) hown (mvT hZ (hw _ (List.mem_of_getElem? (i := 9) rfl))) (mvT hZ (hw _ (List.mem_of_getElem? (i := 10) rfl))) (mvT hZ (hw _ (List.mem_of_getElem? (i := 11) rfl))) (by decide) (mvT hZ (hw _ (List.mem_of_getElem? (i := 13) rfl))) (mvT hZ (hw _ (List.mem_of_getElem? (i := 12) rfl))) (backOf (W := 0) (rm2 l Z a0 hw [] a (1 : Int32) h0 n0 Z0 F1) hZ (hw _ (List.mem_of_getElem? (i := 15) rfl)) (hw _ (List.mem_of_getElem? (i := 14) rfl)) (by decide) (by decide)) q2a q2c (g := (mkF m 1 #[.val (.ref a), .val (.int g), .val (.int d), .val (.int t)] [(.ref a)])) rfl (by rw [hml]; rfl) (Steps.refl _) (argsL := []) (rest := []) (lenOf pd_0 rfl) rfl (by show 2 * 0 + _ ≤ _; exact Nat.le_of_eq rfl) (hb hby d1_1) (fun _ _ => ⟨rfl, e0, (by decide : 0 + 0 ≤ _), (by decide : 0 + 0 ≤ _)⟩)
  dsimp only [Pt.U, Pt.locs, Pt.cells, Pt.slots] at X2 l2 y2 z2 st2 hQ2
  subst l2 y2 z2
  obtain ⟨rfl, Nq2, eh2⟩ := hQ2
  have N3 := Fr.app N0 Nq2
  have pre2 : Rch p.tables e below (s₁.setTop (entryFrame m #[(.ref a), (.int g), (.int d), (.int t)] 4)) (T2.setTop (mkF m 4 #[.val (.ref a), .val (.int g), .val (.int d), .val (.int t)] [(.int (1 : Int32))])) := fun tgt ktg => pre1 tgt (st2.trans ktg)
  have pre4 : Rch p.tables e below (s₁.setTop (entryFrame m #[(.ref a), (.int g), (.int d), (.int t)] 4)) (T2.setTop (mkF m 56 #[.val (.ref a), .val (.int g), .val (.int d), .val (.int t)] [(.int d), (.int g)])) := fun tgt ktg => pre2 tgt (by
    show Steps p.tables e below (T2.setTop (mkF m 4 #[.val (.ref a), .val (.int g), .val (.int d), .val (.int t)] [(.int (1 : Int32))])) _
    refine XS.tswIn X2.here hx rfl (pc0 := 4) (pc' := 54) rfl (hb hby d1_4) rfl (by decide) (o := 50) (by decide) (by decide) (by decide) ?_
    show Steps p.tables e below (T2.setTop (mkF m 54 #[.val (.ref a), .val (.int g), .val (.int d), .val (.int t)] [])) _
    refine XS.iloadN X2.here hx rfl (hb hby d1_54) rfl ?_
    show Steps p.tables e below (T2.setTop (mkF m 55 #[.val (.ref a), .val (.int g), .val (.int d), .val (.int t)] [(.int g)])) _
    refine XS.iloadN X2.here hx rfl (hb hby d1_55) rfl ?_
    exact ktg)
  by_cases c5 : d < g
  · skip
    have pre6 : Rch p.tables e below (s₁.setTop (entryFrame m #[(.ref a), (.int g), (.int d), (.int t)] 4)) (T2.setTop (mkF m 68 #[.val (.ref a), .val (.int g), .val (.int d), .val (.int t)] [])) := fun tgt ktg => pre4 tgt (by
      show Steps p.tables e below (T2.setTop (mkF m 56 #[.val (.ref a), .val (.int g), .val (.int d), .val (.int t)] [(.int d), (.int g)])) _
      refine XS.icmpYes X2.here hx rfl (pc0 := 56) (pc' := 68) rfl (hb hby d1_56) rfl (tlt c5).2.2.1 (by decide) (by decide) ?_
      exact ktg)
    have pre7 : Rch p.tables e below (s₁.setTop (entryFrame m #[(.ref a), (.int g), (.int d), (.int t)] 4)) (T2.setTop (mkF m 85 #[.val (.ref a), .val (.int g), .val (.int d), .val (.int t)] [(.int (1 : Int32))])) := fun tgt ktg => pre6 tgt (by
      show Steps p.tables e below (T2.setTop (mkF m 68 #[.val (.ref a), .val (.int g), .val (.int d), .val (.int t)] [])) _
      refine XS.iconst X2.here hx rfl (hb hby d1_68) ?_
      show Steps p.tables e below (T2.setTop (mkF m 69 #[.val (.ref a), .val (.int g), .val (.int d), .val (.int t)] [(.int (1 : Int32))])) _
      refine XS.goto X2.here hx rfl (pc0 := 69) (pc' := 85) rfl (hb hby d1_69) (by decide) (by decide) ?_
      exact ktg)
    obtain ⟨fs, hr, hrun, hended, hW, hsame⟩ := X2.leave (v := some (.int (1 : Int32))) (fun h => by rw [Bd.returns] at h; cases h)
    refine ⟨_, _, pre7 _ ?_, hrun, hended, _, _, rfl, ?_, ⟨_, rfl⟩, hW, hsame.mono (by decide) (by decide)⟩
    · show Steps p.tables e below (T2.setTop (mkF m 85 #[.val (.ref a), .val (.int g), .val (.int d), .val (.int t)] [(.int (1 : Int32))])) _
      exact retN X2 hx (t := .boolean) Bd.returns (by simp) (hb hby d1_85) hr
    · show QG1 Z a g d t h0 n0 _ T2.heap _
      rw [eh2]
      exact ⟨by simp [gr, c5], N3, rfl⟩
  · skip
    have pre8 : Rch p.tables e below (s₁.setTop (entryFrame m #[(.ref a), (.int g), (.int d), (.int t)] 4)) (T2.setTop (mkF m 59 #[.val (.ref a), .val (.int g), .val (.int d), .val (.int t)] [])) := fun tgt ktg => pre4 tgt (by
      show Steps p.tables e below (T2.setTop (mkF m 56 #[.val (.ref a), .val (.int g), .val (.int d), .val (.int t)] [(.int d), (.int g)])) _
      refine XS.icmpNo X2.here hx rfl (hb hby d1_56) rfl (flt c5).2.2.1 ?_
      exact ktg)
    have pre9 : Rch p.tables e below (s₁.setTop (entryFrame m #[(.ref a), (.int g), (.int d), (.int t)] 4)) (T2.setTop (mkF m 61 #[.val (.ref a), .val (.int g), .val (.int d), .val (.int t)] [(.int d), (.int g)])) := fun tgt ktg => pre8 tgt (by
      show Steps p.tables e below (T2.setTop (mkF m 59 #[.val (.ref a), .val (.int g), .val (.int d), .val (.int t)] [])) _
      refine XS.iloadN X2.here hx rfl (hb hby d1_59) rfl ?_
      show Steps p.tables e below (T2.setTop (mkF m 60 #[.val (.ref a), .val (.int g), .val (.int d), .val (.int t)] [(.int g)])) _
      refine XS.iloadN X2.here hx rfl (hb hby d1_60) rfl ?_
      exact ktg)
    by_cases c10 : g = d
    · skip
      have pre11 : Rch p.tables e below (s₁.setTop (entryFrame m #[(.ref a), (.int g), (.int d), (.int t)] 4)) (T2.setTop (mkF m 64 #[.val (.ref a), .val (.int g), .val (.int d), .val (.int t)] [])) := fun tgt ktg => pre9 tgt (by
        show Steps p.tables e below (T2.setTop (mkF m 61 #[.val (.ref a), .val (.int g), .val (.int d), .val (.int t)] [(.int d), (.int g)])) _
        refine XS.icmpNo X2.here hx rfl (hb hby d1_61) rfl (teq c10).2 ?_
        exact ktg)
      have pre12 : Rch p.tables e below (s₁.setTop (entryFrame m #[(.ref a), (.int g), (.int d), (.int t)] 4)) (T2.setTop (mkF m 65 #[.val (.ref a), .val (.int g), .val (.int d), .val (.int t)] [(.int t)])) := fun tgt ktg => pre11 tgt (by
        show Steps p.tables e below (T2.setTop (mkF m 64 #[.val (.ref a), .val (.int g), .val (.int d), .val (.int t)] [])) _
        refine XS.iloadN X2.here hx rfl (hb hby d1_64) rfl ?_
        exact ktg)
      by_cases c13 : t = (0 : Int32)
      · skip
        have pre14 : Rch p.tables e below (s₁.setTop (entryFrame m #[(.ref a), (.int g), (.int d), (.int t)] 4)) (T2.setTop (mkF m 72 #[.val (.ref a), .val (.int g), .val (.int d), .val (.int t)] [])) := fun tgt ktg => pre12 tgt (by
          show Steps p.tables e below (T2.setTop (mkF m 65 #[.val (.ref a), .val (.int g), .val (.int d), .val (.int t)] [(.int t)])) _
          refine XS.ifYes X2.here hx rfl (pc0 := 65) (pc' := 72) rfl (hb hby d1_65) rfl ((if0 _ _).trans (teq c13).1) (by decide) (by decide) ?_
          exact ktg)
        have pre15 : Rch p.tables e below (s₁.setTop (entryFrame m #[(.ref a), (.int g), (.int d), (.int t)] 4)) (T2.setTop (mkF m 85 #[.val (.ref a), .val (.int g), .val (.int d), .val (.int t)] [(.int (0 : Int32))])) := fun tgt ktg => pre14 tgt (by
          show Steps p.tables e below (T2.setTop (mkF m 72 #[.val (.ref a), .val (.int g), .val (.int d), .val (.int t)] [])) _
          refine XS.iconst X2.here hx rfl (hb hby d1_72) ?_
          show Steps p.tables e below (T2.setTop (mkF m 73 #[.val (.ref a), .val (.int g), .val (.int d), .val (.int t)] [(.int (0 : Int32))])) _
          refine XS.goto X2.here hx rfl (pc0 := 73) (pc' := 85) rfl (hb hby d1_73) (by decide) (by decide) ?_
          exact ktg)
        obtain ⟨fs, hr, hrun, hended, hW, hsame⟩ := X2.leave (v := some (.int (0 : Int32))) (fun h => by rw [Bd.returns] at h; cases h)
        refine ⟨_, _, pre15 _ ?_, hrun, hended, _, _, rfl, ?_, ⟨_, rfl⟩, hW, hsame.mono (by decide) (by decide)⟩
        · show Steps p.tables e below (T2.setTop (mkF m 85 #[.val (.ref a), .val (.int g), .val (.int d), .val (.int t)] [(.int (0 : Int32))])) _
          exact retN X2 hx (t := .boolean) Bd.returns (by simp) (hb hby d1_85) hr
        · show QG1 Z a g d t h0 n0 _ T2.heap _
          rw [eh2]
          exact ⟨by simp [gr, c5, c10, c13], N3, rfl⟩
      · skip
        have pre16 : Rch p.tables e below (s₁.setTop (entryFrame m #[(.ref a), (.int g), (.int d), (.int t)] 4)) (T2.setTop (mkF m 68 #[.val (.ref a), .val (.int g), .val (.int d), .val (.int t)] [])) := fun tgt ktg => pre12 tgt (by
          show Steps p.tables e below (T2.setTop (mkF m 65 #[.val (.ref a), .val (.int g), .val (.int d), .val (.int t)] [(.int t)])) _
          refine XS.ifNo X2.here hx rfl (hb hby d1_65) rfl ((if0 _ _).trans (feq c13).1) ?_
          exact ktg)
        have pre17 : Rch p.tables e below (s₁.setTop (entryFrame m #[(.ref a), (.int g), (.int d), (.int t)] 4)) (T2.setTop (mkF m 85 #[.val (.ref a), .val (.int g), .val (.int d), .val (.int t)] [(.int (1 : Int32))])) := fun tgt ktg => pre16 tgt (by
          show Steps p.tables e below (T2.setTop (mkF m 68 #[.val (.ref a), .val (.int g), .val (.int d), .val (.int t)] [])) _
          refine XS.iconst X2.here hx rfl (hb hby d1_68) ?_
          show Steps p.tables e below (T2.setTop (mkF m 69 #[.val (.ref a), .val (.int g), .val (.int d), .val (.int t)] [(.int (1 : Int32))])) _
          refine XS.goto X2.here hx rfl (pc0 := 69) (pc' := 85) rfl (hb hby d1_69) (by decide) (by decide) ?_
          exact ktg)
        obtain ⟨fs, hr, hrun, hended, hW, hsame⟩ := X2.leave (v := some (.int (1 : Int32))) (fun h => by rw [Bd.returns] at h; cases h)
        refine ⟨_, _, pre17 _ ?_, hrun, hended, _, _, rfl, ?_, ⟨_, rfl⟩, hW, hsame.mono (by decide) (by decide)⟩
        · show Steps p.tables e below (T2.setTop (mkF m 85 #[.val (.ref a), .val (.int g), .val (.int d), .val (.int t)] [(.int (1 : Int32))])) _
          exact retN X2 hx (t := .boolean) Bd.returns (by simp) (hb hby d1_85) hr
        · show QG1 Z a g d t h0 n0 _ T2.heap _
          rw [eh2]
          exact ⟨by simp [gr, c5, c10, c13], N3, rfl⟩
    · skip
      have pre18 : Rch p.tables e below (s₁.setTop (entryFrame m #[(.ref a), (.int g), (.int d), (.int t)] 4)) (T2.setTop (mkF m 72 #[.val (.ref a), .val (.int g), .val (.int d), .val (.int t)] [])) := fun tgt ktg => pre9 tgt (by
        show Steps p.tables e below (T2.setTop (mkF m 61 #[.val (.ref a), .val (.int g), .val (.int d), .val (.int t)] [(.int d), (.int g)])) _
        refine XS.icmpYes X2.here hx rfl (pc0 := 61) (pc' := 72) rfl (hb hby d1_61) rfl (feq c10).2 (by decide) (by decide) ?_
        exact ktg)
      have pre19 : Rch p.tables e below (s₁.setTop (entryFrame m #[(.ref a), (.int g), (.int d), (.int t)] 4)) (T2.setTop (mkF m 85 #[.val (.ref a), .val (.int g), .val (.int d), .val (.int t)] [(.int (0 : Int32))])) := fun tgt ktg => pre18 tgt (by
        show Steps p.tables e below (T2.setTop (mkF m 72 #[.val (.ref a), .val (.int g), .val (.int d), .val (.int t)] [])) _
        refine XS.iconst X2.here hx rfl (hb hby d1_72) ?_
        show Steps p.tables e below (T2.setTop (mkF m 73 #[.val (.ref a), .val (.int g), .val (.int d), .val (.int t)] [(.int (0 : Int32))])) _
        refine XS.goto X2.here hx rfl (pc0 := 73) (pc' := 85) rfl (hb hby d1_73) (by decide) (by decide) ?_
        exact ktg)
      obtain ⟨fs, hr, hrun, hended, hW, hsame⟩ := X2.leave (v := some (.int (0 : Int32))) (fun h => by rw [Bd.returns] at h; cases h)
      refine ⟨_, _, pre19 _ ?_, hrun, hended, _, _, rfl, ?_, ⟨_, rfl⟩, hW, hsame.mono (by decide) (by decide)⟩
      · show Steps p.tables e below (T2.setTop (mkF m 85 #[.val (.ref a), .val (.int g), .val (.int d), .val (.int t)] [(.int (0 : Int32))])) _
        exact retN X2 hx (t := .boolean) Bd.returns (by simp) (hb hby d1_85) hr
      · show QG1 Z a g d t h0 n0 _ T2.heap _
        rw [eh2]
        exact ⟨by simp [gr, c5, c10], N3, rfl⟩
theorem d1_76 : decode prog_9_method_4_code 76 = .ok (.iload_n 2, 1) := by decide +kernel
theorem d1_77 : decode prog_9_method_4_code 77 = .ok (.ifCond .ne 7, 3) := by decide +kernel
theorem d1_80 : decode prog_9_method_4_code 80 = .ok (.iconst 1, 1) := by decide +kernel
theorem d1_81 : decode prog_9_method_4_code 81 = .ok (.goto 4, 3) := by decide +kernel
theorem d1_84 : decode prog_9_method_4_code 84 = .ok (.iconst 0, 1) := by decide +kernel
theorem ef_G2 (m : MethodId) (x0 : Addr) (x1 : Int32) (x2 : Int32) (x3 : Int32) : entryFrame m #[(.ref x0), (.int x1), (.int x2), (.int x3)] 4 = mkF m 0 #[.val (.ref x0), .val (.int x1), .val (.int x2), .val (.int x3)] [] := by first | (simp [entryFrame, mkF, argsToLocals, Value.category]; done) | rfl
def QG2 (Z : State) (a : Addr) (g : Int32) (d : Int32) (t : Int32) (h0 : Heap) (n0 : Nat) (v : Option Value) (h : Heap) (L : List Loc) : Prop := v = some (.int (gr 2 g d t)) ∧ Fr n0 L ∧ h = h0
set_option maxRecDepth 65536 in
set_option maxHeartbeats 40000000 in
theorem rmG2 (l : Launch) (Z : State) (a0 : Array Value) (hw : ∀ d ∈ tables_1, d.before a0 Z = true) (ws : List Jvm.Cond) (a : Addr) (g : Int32) (d : Int32) (t : Int32) (h0 : Heap) (n0 : Nat) (Z0 : n0 ≤ h0.size) (E1 : Exa Z h0 a "com/example/velvet_rope/velvetrope/DecisionStrategy") (F1 : Fld Z h0 a "java/lang/Enum" "ordinal" "I" (.int 2)) :
    MetFree l (⟨"com/example/velvet_rope/velvetrope/DecisionStrategy", "grants", "(IIZ)Z"⟩ : MethodName) (head1 (Jvm.Cond.code (⟨"com/example/velvet_rope/velvetrope/DecisionStrategy", "grants", "(IIZ)Z"⟩ : MethodName) prog_9_method_4_code 4 (some .boolean) :: ws) ({ frames := 1, cells := 0, slots := 0, locals := 12 } : Room)) (fun aA U => aA = #[(.ref a), (.int g), (.int d), (.int t)] ∧ Z.Warmed39 U.vm ∧ U.heap = h0) (fun _ _ _ _ _ => True) (fun _ U oO U' => ∃ vV LL, oO = .returned vV ∧ QG2 Z a g d t h0 n0 vV U'.heap LL ∧ FrameEnd U oO U' LL ({ frames := 1, cells := 0, slots := 0, locals := 12 } : Room).cells ({ frames := 1, cells := 0, slots := 0, locals := 12 } : Room).slots) := by
  refine MetFree.of_bodySF (plainFor_of_name pn_1) hisR ?_
  intro p e s m args below meth c s₁ Bd hml0 hP hK
  obtain ⟨rfl, hZ, hh⟩ := hP
  have hx := Bd.exec
  have hby := Bd.bytes
  have hml : c.maxLocals = 4 := hml0
  have hown : s.vm.findClass "com/example/velvet_rope/velvetrope/DecisionStrategy" = some m.cls := findClass_of_methodNamed Bd.named
  have hnm := (name_of_methodNamed Bd.named Bd.method).1
  have X0 : Stand p l e ({ frames := 1, cells := 0, slots := 0, locals := 12 } : Room) s m #[(.ref a), (.int g), (.int d), (.int t)] below meth c s₁ [] 0 0 := Stand.of_body Bd
  have e0 : s₁.heap = h0 := by rw [← hh, Bd.state]; rfl
  have N0 := Fr.nil n0
  have K0 : Keep h0 h0 [] := Keep.refl _ _
  have pre0 : Rch p.tables e below (s₁.setTop (entryFrame m #[(.ref a), (.int g), (.int d), (.int t)] 4)) (s₁.setTop (mkF m 0 #[.val (.ref a), .val (.int g), .val (.int d), .val (.int t)] [])) := fun tgt ktg => castTop (ef_G2 m a g d t) ktg
  have pre1 : Rch p.tables e below (s₁.setTop (entryFrame m #[(.ref a), (.int g), (.int d), (.int t)] 4)) (s₁.setTop (mkF m 1 #[.val (.ref a), .val (.int g), .val (.int d), .val (.int t)] [(.ref a)])) := fun tgt ktg => pre0 tgt (by
    show Steps p.tables e below (s₁.setTop (mkF m 0 #[.val (.ref a), .val (.int g), .val (.int d), .val (.int t)] [])) _
    refine XS.aloadN X0.here hx rfl (hb hby d1_0) rfl rfl ?_
    exact ktg)
  obtain ⟨cq2, kq2, q2a, q2b, q2c⟩ := isOf hZ e0 E1
  obtain ⟨_, _, ⟨T2, L2, k2, n2⟩, -, X2, ⟨Lc2, hQ2, l2, y2, z2⟩, st2⟩ := X0.virtualBackUp hx (x := (⟨"com/example/velvet_rope/velvetrope/DecisionStrategy", "ordinal", "()I"⟩ : MethodName)) (y := (⟨"java/lang/Enum", "ordinal", "()I"⟩ : MethodName)) hown (mvT hZ (hw _ (List.mem_of_getElem? (i := 9) rfl))) (mvT hZ (hw _ (List.mem_of_getElem? (i := 10) rfl))) (mvT hZ (hw _ (List.mem_of_getElem? (i := 11) rfl))) (by decide) (mvT hZ (hw _ (List.mem_of_getElem? (i := 13) rfl))) (mvT hZ (hw _ (List.mem_of_getElem? (i := 12) rfl))) (backOf (W := 0) (rm2 l Z a0 hw [] a (2 : Int32) h0 n0 Z0 F1) hZ (hw _ (List.mem_of_getElem? (i := 15) rfl)) (hw _ (List.mem_of_getElem? (i := 14) rfl)) (by decide) (by decide)) q2a q2c (g := (mkF m 1 #[.val (.ref a), .val (.int g), .val (.int d), .val (.int t)] [(.ref a)])) rfl (by rw [hml]; rfl) (Steps.refl _) (argsL := []) (rest := []) (lenOf pd_0 rfl) rfl (by show 2 * 0 + _ ≤ _; exact Nat.le_of_eq rfl) (hb hby d1_1) (fun _ _ => ⟨rfl, e0, (by decide : 0 + 0 ≤ _), (by decide : 0 + 0 ≤ _)⟩)
  dsimp only [Pt.U, Pt.locs, Pt.cells, Pt.slots] at X2 l2 y2 z2 st2 hQ2
  subst l2 y2 z2
  obtain ⟨rfl, Nq2, eh2⟩ := hQ2
  have N3 := Fr.app N0 Nq2
  have pre2 : Rch p.tables e below (s₁.setTop (entryFrame m #[(.ref a), (.int g), (.int d), (.int t)] 4)) (T2.setTop (mkF m 4 #[.val (.ref a), .val (.int g), .val (.int d), .val (.int t)] [(.int (2 : Int32))])) := fun tgt ktg => pre1 tgt (st2.trans ktg)
  have pre4 : Rch p.tables e below (s₁.setTop (entryFrame m #[(.ref a), (.int g), (.int d), (.int t)] 4)) (T2.setTop (mkF m 77 #[.val (.ref a), .val (.int g), .val (.int d), .val (.int t)] [(.int d)])) := fun tgt ktg => pre2 tgt (by
    show Steps p.tables e below (T2.setTop (mkF m 4 #[.val (.ref a), .val (.int g), .val (.int d), .val (.int t)] [(.int (2 : Int32))])) _
    refine XS.tswIn X2.here hx rfl (pc0 := 4) (pc' := 76) rfl (hb hby d1_4) rfl (by decide) (o := 72) (by decide) (by decide) (by decide) ?_
    show Steps p.tables e below (T2.setTop (mkF m 76 #[.val (.ref a), .val (.int g), .val (.int d), .val (.int t)] [])) _
    refine XS.iloadN X2.here hx rfl (hb hby d1_76) rfl ?_
    exact ktg)
  by_cases c5 : d = (0 : Int32)
  · skip
    have pre6 : Rch p.tables e below (s₁.setTop (entryFrame m #[(.ref a), (.int g), (.int d), (.int t)] 4)) (T2.setTop (mkF m 80 #[.val (.ref a), .val (.int g), .val (.int d), .val (.int t)] [])) := fun tgt ktg => pre4 tgt (by
      show Steps p.tables e below (T2.setTop (mkF m 77 #[.val (.ref a), .val (.int g), .val (.int d), .val (.int t)] [(.int d)])) _
      refine XS.ifNo X2.here hx rfl (hb hby d1_77) rfl ((if0 _ _).trans (teq c5).2) ?_
      exact ktg)
    have pre7 : Rch p.tables e below (s₁.setTop (entryFrame m #[(.ref a), (.int g), (.int d), (.int t)] 4)) (T2.setTop (mkF m 85 #[.val (.ref a), .val (.int g), .val (.int d), .val (.int t)] [(.int (1 : Int32))])) := fun tgt ktg => pre6 tgt (by
      show Steps p.tables e below (T2.setTop (mkF m 80 #[.val (.ref a), .val (.int g), .val (.int d), .val (.int t)] [])) _
      refine XS.iconst X2.here hx rfl (hb hby d1_80) ?_
      show Steps p.tables e below (T2.setTop (mkF m 81 #[.val (.ref a), .val (.int g), .val (.int d), .val (.int t)] [(.int (1 : Int32))])) _
      refine XS.goto X2.here hx rfl (pc0 := 81) (pc' := 85) rfl (hb hby d1_81) (by decide) (by decide) ?_
      exact ktg)
    obtain ⟨fs, hr, hrun, hended, hW, hsame⟩ := X2.leave (v := some (.int (1 : Int32))) (fun h => by rw [Bd.returns] at h; cases h)
    refine ⟨_, _, pre7 _ ?_, hrun, hended, _, _, rfl, ?_, ⟨_, rfl⟩, hW, hsame.mono (by decide) (by decide)⟩
    · show Steps p.tables e below (T2.setTop (mkF m 85 #[.val (.ref a), .val (.int g), .val (.int d), .val (.int t)] [(.int (1 : Int32))])) _
      exact retN X2 hx (t := .boolean) Bd.returns (by simp) (hb hby d1_85) hr
    · show QG2 Z a g d t h0 n0 _ T2.heap _
      rw [eh2]
      exact ⟨by simp [gr, c5], N3, rfl⟩
  · skip
    have pre8 : Rch p.tables e below (s₁.setTop (entryFrame m #[(.ref a), (.int g), (.int d), (.int t)] 4)) (T2.setTop (mkF m 84 #[.val (.ref a), .val (.int g), .val (.int d), .val (.int t)] [])) := fun tgt ktg => pre4 tgt (by
      show Steps p.tables e below (T2.setTop (mkF m 77 #[.val (.ref a), .val (.int g), .val (.int d), .val (.int t)] [(.int d)])) _
      refine XS.ifYes X2.here hx rfl (pc0 := 77) (pc' := 84) rfl (hb hby d1_77) rfl ((if0 _ _).trans (feq c5).2) (by decide) (by decide) ?_
      exact ktg)
    have pre9 : Rch p.tables e below (s₁.setTop (entryFrame m #[(.ref a), (.int g), (.int d), (.int t)] 4)) (T2.setTop (mkF m 85 #[.val (.ref a), .val (.int g), .val (.int d), .val (.int t)] [(.int (0 : Int32))])) := fun tgt ktg => pre8 tgt (by
      show Steps p.tables e below (T2.setTop (mkF m 84 #[.val (.ref a), .val (.int g), .val (.int d), .val (.int t)] [])) _
      refine XS.iconst X2.here hx rfl (hb hby d1_84) ?_
      exact ktg)
    obtain ⟨fs, hr, hrun, hended, hW, hsame⟩ := X2.leave (v := some (.int (0 : Int32))) (fun h => by rw [Bd.returns] at h; cases h)
    refine ⟨_, _, pre9 _ ?_, hrun, hended, _, _, rfl, ?_, ⟨_, rfl⟩, hW, hsame.mono (by decide) (by decide)⟩
    · show Steps p.tables e below (T2.setTop (mkF m 85 #[.val (.ref a), .val (.int g), .val (.int d), .val (.int t)] [(.int (0 : Int32))])) _
      exact retN X2 hx (t := .boolean) Bd.returns (by simp) (hb hby d1_85) hr
    · show QG2 Z a g d t h0 n0 _ T2.heap _
      rw [eh2]
      exact ⟨by simp [gr, c5], N3, rfl⟩
theorem own_a (g d t : Int32) (af : Int32) (h : af = (if g < (1 : Int32) then (0 : Int32) else (1 : Int32))) : gr 0 g d t = af := by
  subst h
  have e1 : (1 : Int32).toInt = 1 := by decide
  have e0 : (0 : Int32).toInt = 0 := by decide
  by_cases q : g < 1
  · have : ¬ 0 < g := by rw [Int32.lt_iff_toInt_lt] at *; omega
    simp [gr, q, this]
  · have : 0 < g := by rw [Int32.lt_iff_toInt_lt] at *; omega
    simp [gr, q, this]
theorem own_u (g d t un : Int32) (hd : ¬ d < 0) (h : un = (if d < (1 : Int32) then (1 : Int32) else (0 : Int32))) : gr 2 g d t = un := by
  subst h
  have e1 : (1 : Int32).toInt = 1 := by decide
  have e0 : (0 : Int32).toInt = 0 := by decide
  by_cases q : d = 0
  · subst q; simp [gr]
  · have : ¬ d < 1 := by
      have q' : d.toInt ≠ (0 : Int32).toInt := fun h => q (Int32.toInt_inj.mp h)
      rw [Int32.lt_iff_toInt_lt] at *; omega
    simp [gr, q, this]
theorem own_nn {x d : Int32} (h : d = (x &&& (2147483647 : Int32))) : ¬ d < 0 := by
  subst h
  have e := Jvm.Kit.i32_mask x 2147483647 (k := 31) (by decide) (by decide)
  have e0 : (0 : Int32).toInt = 0 := by decide
  rw [Int32.lt_iff_toInt_lt]; omega
theorem own_c (g d t : Int32) (df : Int64) (co : Int32) (hd : df = (g.toInt64 - d.toInt64))
    (h : co = (if (0 : Int32) < (XT.cmpL df (0 : Int64)) then (1 : Int32) else (if (XT.cmpL df (0 : Int64)) = (0 : Int32) then (if t = (0 : Int32) then (0 : Int32) else (1 : Int32)) else (0 : Int32)))) : gr 1 g d t = co := by
  have e : df.toInt = g.toInt - d.toInt := by
    subst hd
    rw [Int64.toInt_sub, Int32.toInt_toInt64, Int32.toInt_toInt64]
    have h1 := rng32 g; have h2 := rng32 d; have h3 := bm64 (g.toInt - d.toInt)
    have h4 := rng64 (g.toInt64 - d.toInt64)
    rw [Int64.toInt_sub, Int32.toInt_toInt64, Int32.toInt_toInt64] at h4
    omega
  have e0 : (0 : Int64).toInt = 0 := by decide
  have q1 : (0 : Int64) < df ↔ d < g := by rw [Int64.lt_iff_toInt_lt, Int32.lt_iff_toInt_lt]; omega
  have q2 : df = (0 : Int64) ↔ g = d := by rw [← Int64.toInt_inj, ← Int32.toInt_inj]; omega
  subst h
  simp only [gr, XT.cmpL]
  by_cases a : d < g
  · have a' := q1.mpr a
    simp [a, a']
  · have a' : ¬ (0 : Int64) < df := fun h => a (q1.mp h)
    by_cases b : g = d
    · have b' := q2.mpr b
      simp [a, a', b, b']
    · have b' : ¬ df = (0 : Int64) := fun h => b (q2.mp h)
      simp [a, a', b, b']
theorem own_eqi {args : Array Value} {s f : State} {o : Option Outcome} {idx : List Nat} {a : Term} {v : Int32} (h : (Jvm.Cond.eq a (.int v)).value args f o s idx = some true) : a.eval args f o idx s = some (.int v) := by
  simp only [Cond.value, Term.int_eval] at h
  cases ha : a.eval args f o idx s with
  | none => simp [ha] at h
  | some x => cases x <;> simp [ha] at h; rw [h]
theorem pd_1 : parseMethodDescriptor "(IIZ)Z" = some ⟨[.int, .int, .boolean], some .boolean⟩ := by decide +kernel
theorem pn_2 : plainName "com/example/velvet_rope/velvetrope/DecisionStrategyGrantsPinLaw" = true := by first | (simp [plainName, overriddenIn]; done) | decide +kernel
theorem ef_0 (m : MethodId) (x0 : Int32) (x1 : Int32) (x2 : Int32) : entryFrame m #[(.int x0), (.int x1), (.int x2)] maxLocals = mkF m 0 #[.val (.int x0), .val (.int x1), .val (.int x2), .unset, .unset, .unset, .unset, .unset, .unset, .unset, .unset, .unset, .unset, .unset] [] := by first | (simp [entryFrame, mkF, argsToLocals, Value.category, maxLocals]; done) | rfl
def Q0 (Z : State) (p0 : Int32) (p1 : Int32) (p2 : Int32) (h0 : Heap) (n0 : Nat) (v : Option Value) (h : Heap) (L : List Loc) : Prop := v = some (.int 1) ∧ Fr n0 L
set_option maxRecDepth 65536 in
set_option maxHeartbeats 40000000 in
theorem rm0 (l : Launch) (Z : State) (a0 : Array Value) (hw : ∀ d ∈ tables_1, d.before a0 Z = true) (ws : List Jvm.Cond) (p0 : Int32) (p1 : Int32) (p2 : Int32) (h0 : Heap) (n0 : Nat) (Z0 : n0 ≤ h0.size) (w0 : Addr) (S0 : Sta Z h0 "com/example/velvet_rope/velvetrope/DecisionStrategy" "AFFIRMATIVE" "Lcom/example/velvet_rope/velvetrope/DecisionStrategy;" (.ref w0)) (E0 : Exa Z h0 w0 "com/example/velvet_rope/velvetrope/DecisionStrategy") (F0 : Fld Z h0 w0 "java/lang/Enum" "ordinal" "I" (.int 0)) (w1 : Addr) (S1 : Sta Z h0 "com/example/velvet_rope/velvetrope/DecisionStrategy" "CONSENSUS" "Lcom/example/velvet_rope/velvetrope/DecisionStrategy;" (.ref w1)) (E1 : Exa Z h0 w1 "com/example/velvet_rope/velvetrope/DecisionStrategy") (F1 : Fld Z h0 w1 "java/lang/Enum" "ordinal" "I" (.int 1)) (w2 : Addr) (S2 : Sta Z h0 "com/example/velvet_rope/velvetrope/DecisionStrategy" "UNANIMOUS" "Lcom/example/velvet_rope/velvetrope/DecisionStrategy;" (.ref w2)) (E2 : Exa Z h0 w2 "com/example/velvet_rope/velvetrope/DecisionStrategy") (F2 : Fld Z h0 w2 "java/lang/Enum" "ordinal" "I" (.int 2)) :
    MetFree l x (head1 (Jvm.Cond.code x code maxLocals ret :: ws) room_1) (fun aA U => aA = #[(.int p0), (.int p1), (.int p2)] ∧ Z.Warmed39 U.vm ∧ U.heap = h0) (fun _ _ _ _ _ => True) (fun _ U oO U' => ∃ vV LL, oO = .returned vV ∧ Q0 Z p0 p1 p2 h0 n0 vV U'.heap LL ∧ FrameEnd U oO U' LL room_1.cells room_1.slots) := by
  refine MetFree.of_bodySF (plainFor_of_name pn_2) hisR ?_
  intro p e s m args below meth c s₁ Bd hml0 hP hK
  obtain ⟨rfl, hZ, hh⟩ := hP
  have hx := Bd.exec
  have hby := Bd.bytes
  have hml : c.maxLocals = 14 := hml0
  have hown : s.vm.findClass "com/example/velvet_rope/velvetrope/DecisionStrategyGrantsPinLaw" = some m.cls := findClass_of_methodNamed Bd.named
  have hnm := (name_of_methodNamed Bd.named Bd.method).1
  have X0 : Stand p l e room_1 s m #[(.int p0), (.int p1), (.int p2)] below meth c s₁ [] 0 0 := Stand.of_body Bd
  have e0 : s₁.heap = h0 := by rw [← hh, Bd.state]; rfl
  have N0 := Fr.nil n0
  have K0 : Keep h0 h0 [] := Keep.refl _ _
  have pre0 : Rch p.tables e below (s₁.setTop (entryFrame m #[(.int p0), (.int p1), (.int p2)] maxLocals)) (s₁.setTop (mkF m 0 #[.val (.int p0), .val (.int p1), .val (.int p2), .unset, .unset, .unset, .unset, .unset, .unset, .unset, .unset, .unset, .unset, .unset] [])) := fun tgt ktg => castTop (ef_0 m p0 p1 p2) ktg
  have pre1 : Rch p.tables e below (s₁.setTop (entryFrame m #[(.int p0), (.int p1), (.int p2)] maxLocals)) (s₁.setTop (mkF m 4 #[.val (.int p0), .val (.int p1), .val (.int p2), .unset, .unset, .unset, .unset, .unset, .unset, .unset, .unset, .unset, .unset, .unset] [(.int (p0 &&& (2147483647 : Int32)))])) := fun tgt ktg => pre0 tgt (by
    show Steps p.tables e below (s₁.setTop (mkF m 0 #[.val (.int p0), .val (.int p1), .val (.int p2), .unset, .unset, .unset, .unset, .unset, .unset, .unset, .unset, .unset, .unset, .unset] [])) _
    refine XS.iloadN X0.here hx rfl (hb hby at_0) rfl ?_
    show Steps p.tables e below (s₁.setTop (mkF m 1 #[.val (.int p0), .val (.int p1), .val (.int p2), .unset, .unset, .unset, .unset, .unset, .unset, .unset, .unset, .unset, .unset, .unset] [(.int p0)])) _
    refine X0.ldcInt hx hown (mvT hZ (hw _ (List.mem_of_getElem? (i := 0) rfl))) (g := (mkF m 1 #[.val (.int p0), .val (.int p1), .val (.int p2), .unset, .unset, .unset, .unset, .unset, .unset, .unset, .unset, .unset, .unset, .unset] [(.int p0)])) rfl (hb hby at_1) _ ?_
    show Steps p.tables e below (s₁.setTop (mkF m 3 #[.val (.int p0), .val (.int p1), .val (.int p2), .unset, .unset, .unset, .unset, .unset, .unset, .unset, .unset, .unset, .unset, .unset] [(.int (2147483647 : Int32)), (.int p0)])) _
    refine XS.iand X0.here hx rfl (hb hby at_3) rfl ?_
    exact ktg)
  obtain ⟨g, hv_g⟩ : ∃ nm_ : Int32, nm_ = (p0 &&& (2147483647 : Int32)) := ⟨_, rfl⟩
  have pre2 : Rch p.tables e below (s₁.setTop (entryFrame m #[(.int p0), (.int p1), (.int p2)] maxLocals)) (s₁.setTop (mkF m 4 #[.val (.int p0), .val (.int p1), .val (.int p2), .unset, .unset, .unset, .unset, .unset, .unset, .unset, .unset, .unset, .unset, .unset] [(.int g)])) := fun tgt ktg => pre1 tgt (by rw [hv_g] at ktg; exact ktg)
  have pre3 : Rch p.tables e below (s₁.setTop (entryFrame m #[(.int p0), (.int p1), (.int p2)] maxLocals)) (s₁.setTop (mkF m 9 #[.val (.int p0), .val (.int p1), .val (.int p2), .val (.int g), .unset, .unset, .unset, .unset, .unset, .unset, .unset, .unset, .unset, .unset] [(.int (p1 &&& (2147483647 : Int32)))])) := fun tgt ktg => pre2 tgt (by
    show Steps p.tables e below (s₁.setTop (mkF m 4 #[.val (.int p0), .val (.int p1), .val (.int p2), .unset, .unset, .unset, .unset, .unset, .unset, .unset, .unset, .unset, .unset, .unset] [(.int g)])) _
    refine XS.istoreN X0.here hx rfl (hb hby at_4) rfl (l' := #[.val (.int p0), .val (.int p1), .val (.int p2), .val (.int g), .unset, .unset, .unset, .unset, .unset, .unset, .unset, .unset, .unset, .unset]) rfl ?_
    show Steps p.tables e below (s₁.setTop (mkF m 5 #[.val (.int p0), .val (.int p1), .val (.int p2), .val (.int g), .unset, .unset, .unset, .unset, .unset, .unset, .unset, .unset, .unset, .unset] [])) _
    refine XS.iloadN X0.here hx rfl (hb hby at_5) rfl ?_
    show Steps p.tables e below (s₁.setTop (mkF m 6 #[.val (.int p0), .val (.int p1), .val (.int p2), .val (.int g), .unset, .unset, .unset, .unset, .unset, .unset, .unset, .unset, .unset, .unset] [(.int p1)])) _
    refine X0.ldcInt hx hown (mvT hZ (hw _ (List.mem_of_getElem? (i := 0) rfl))) (g := (mkF m 6 #[.val (.int p0), .val (.int p1), .val (.int p2), .val (.int g), .unset, .unset, .unset, .unset, .unset, .unset, .unset, .unset, .unset, .unset] [(.int p1)])) rfl (hb hby at_6) _ ?_
    show Steps p.tables e below (s₁.setTop (mkF m 8 #[.val (.int p0), .val (.int p1), .val (.int p2), .val (.int g), .unset, .unset, .unset, .unset, .unset, .unset, .unset, .unset, .unset, .unset] [(.int (2147483647 : Int32)), (.int p1)])) _
    refine XS.iand X0.here hx rfl (hb hby at_8) rfl ?_
    exact ktg)
  obtain ⟨d, hv_d⟩ : ∃ nm_ : Int32, nm_ = (p1 &&& (2147483647 : Int32)) := ⟨_, rfl⟩
  have pre4 : Rch p.tables e below (s₁.setTop (entryFrame m #[(.int p0), (.int p1), (.int p2)] maxLocals)) (s₁.setTop (mkF m 9 #[.val (.int p0), .val (.int p1), .val (.int p2), .val (.int g), .unset, .unset, .unset, .unset, .unset, .unset, .unset, .unset, .unset, .unset] [(.int d)])) := fun tgt ktg => pre3 tgt (by rw [hv_d] at ktg; exact ktg)
  have pre5 : Rch p.tables e below (s₁.setTop (entryFrame m #[(.int p0), (.int p1), (.int p2)] maxLocals)) (s₁.setTop (mkF m 12 #[.val (.int p0), .val (.int p1), .val (.int p2), .val (.int g), .val (.int d), .unset, .unset, .unset, .unset, .unset, .unset, .unset, .unset, .unset] [(.int g)])) := fun tgt ktg => pre4 tgt (by
    show Steps p.tables e below (s₁.setTop (mkF m 9 #[.val (.int p0), .val (.int p1), .val (.int p2), .val (.int g), .unset, .unset, .unset, .unset, .unset, .unset, .unset, .unset, .unset, .unset] [(.int d)])) _
    refine XS.istore X0.here hx rfl (hb hby at_9) rfl (l' := #[.val (.int p0), .val (.int p1), .val (.int p2), .val (.int g), .val (.int d), .unset, .unset, .unset, .unset, .unset, .unset, .unset, .unset, .unset]) rfl ?_
    show Steps p.tables e below (s₁.setTop (mkF m 11 #[.val (.int p0), .val (.int p1), .val (.int p2), .val (.int g), .val (.int d), .unset, .unset, .unset, .unset, .unset, .unset, .unset, .unset, .unset] [])) _
    refine XS.iloadN X0.here hx rfl (hb hby at_11) rfl ?_
    exact ktg)
  by_cases c6 : g = (0 : Int32)
  · skip
    have pre7 : Rch p.tables e below (s₁.setTop (entryFrame m #[(.int p0), (.int p1), (.int p2)] maxLocals)) (s₁.setTop (mkF m 15 #[.val (.int p0), .val (.int p1), .val (.int p2), .val (.int g), .val (.int d), .unset, .unset, .unset, .unset, .unset, .unset, .unset, .unset, .unset] [])) := fun tgt ktg => pre5 tgt (by
      show Steps p.tables e below (s₁.setTop (mkF m 12 #[.val (.int p0), .val (.int p1), .val (.int p2), .val (.int g), .val (.int d), .unset, .unset, .unset, .unset, .unset, .unset, .unset, .unset, .unset] [(.int g)])) _
      refine XS.ifNo X0.here hx rfl (hb hby at_12) rfl ((if0 _ _).trans (teq c6).2) ?_
      exact ktg)
    have pre8 : Rch p.tables e below (s₁.setTop (entryFrame m #[(.int p0), (.int p1), (.int p2)] maxLocals)) (s₁.setTop (mkF m 17 #[.val (.int p0), .val (.int p1), .val (.int p2), .val (.int g), .val (.int d), .unset, .unset, .unset, .unset, .unset, .unset, .unset, .unset, .unset] [(.int d)])) := fun tgt ktg => pre7 tgt (by
      show Steps p.tables e below (s₁.setTop (mkF m 15 #[.val (.int p0), .val (.int p1), .val (.int p2), .val (.int g), .val (.int d), .unset, .unset, .unset, .unset, .unset, .unset, .unset, .unset, .unset] [])) _
      refine XS.iload X0.here hx rfl (hb hby at_15) rfl ?_
      exact ktg)
    by_cases c9 : d = (0 : Int32)
    · skip
      have pre10 : Rch p.tables e below (s₁.setTop (entryFrame m #[(.int p0), (.int p1), (.int p2)] maxLocals)) (s₁.setTop (mkF m 20 #[.val (.int p0), .val (.int p1), .val (.int p2), .val (.int g), .val (.int d), .unset, .unset, .unset, .unset, .unset, .unset, .unset, .unset, .unset] [])) := fun tgt ktg => pre8 tgt (by
        show Steps p.tables e below (s₁.setTop (mkF m 17 #[.val (.int p0), .val (.int p1), .val (.int p2), .val (.int g), .val (.int d), .unset, .unset, .unset, .unset, .unset, .unset, .unset, .unset, .unset] [(.int d)])) _
        refine XS.ifNo X0.here hx rfl (hb hby at_17) rfl ((if0 _ _).trans (teq c9).2) ?_
        exact ktg)
      have pre11 : Rch p.tables e below (s₁.setTop (entryFrame m #[(.int p0), (.int p1), (.int p2)] maxLocals)) (s₁.setTop (mkF m 21 #[.val (.int p0), .val (.int p1), .val (.int p2), .val (.int g), .val (.int d), .unset, .unset, .unset, .unset, .unset, .unset, .unset, .unset, .unset] [(.int (1 : Int32))])) := fun tgt ktg => pre10 tgt (by
        show Steps p.tables e below (s₁.setTop (mkF m 20 #[.val (.int p0), .val (.int p1), .val (.int p2), .val (.int g), .val (.int d), .unset, .unset, .unset, .unset, .unset, .unset, .unset, .unset, .unset] [])) _
        refine XS.iconst X0.here hx rfl (hb hby at_20) ?_
        exact ktg)
      obtain ⟨fs, hr, hrun, hended, hW, hsame⟩ := X0.leave (v := some (.int (1 : Int32))) (fun h => by rw [Bd.returns] at h; cases h)
      refine ⟨_, _, pre11 _ ?_, hrun, hended, _, _, rfl, ?_, ⟨_, rfl⟩, hW, hsame.mono (by decide) (by decide)⟩
      · show Steps p.tables e below (s₁.setTop (mkF m 21 #[.val (.int p0), .val (.int p1), .val (.int p2), .val (.int g), .val (.int d), .unset, .unset, .unset, .unset, .unset, .unset, .unset, .unset, .unset] [(.int (1 : Int32))])) _
        exact retN X0 hx (t := .boolean) Bd.returns (by simp) (hb hby at_21) hr
      · show Q0 Z p0 p1 p2 h0 n0 _ s₁.heap _
        rw [e0]
        exact ⟨rfl, N0⟩
    · skip
      have pre12 : Rch p.tables e below (s₁.setTop (entryFrame m #[(.int p0), (.int p1), (.int p2)] maxLocals)) (s₁.setTop (mkF m 22 #[.val (.int p0), .val (.int p1), .val (.int p2), .val (.int g), .val (.int d), .unset, .unset, .unset, .unset, .unset, .unset, .unset, .unset, .unset] [])) := fun tgt ktg => pre8 tgt (by
        show Steps p.tables e below (s₁.setTop (mkF m 17 #[.val (.int p0), .val (.int p1), .val (.int p2), .val (.int g), .val (.int d), .unset, .unset, .unset, .unset, .unset, .unset, .unset, .unset, .unset] [(.int d)])) _
        refine XS.ifYes X0.here hx rfl (pc0 := 17) (pc' := 22) rfl (hb hby at_17) rfl ((if0 _ _).trans (feq c9).2) (by decide) (by decide) ?_
        exact ktg)
      obtain ⟨ties, hv_ties⟩ : ∃ nm_ : Int32, nm_ = (if (p2 &&& (1 : Int32)) = (0 : Int32) then (0 : Int32) else (1 : Int32)) := ⟨_, rfl⟩
      have pre14 : Rch p.tables e below (s₁.setTop (entryFrame m #[(.int p0), (.int p1), (.int p2)] maxLocals)) (s₁.setTop (mkF m 33 #[.val (.int p0), .val (.int p1), .val (.int p2), .val (.int g), .val (.int d), .unset, .unset, .unset, .unset, .unset, .unset, .unset, .unset, .unset] [(.int ties)])) := fun tgt ktg => pre12 tgt (by
        show Steps p.tables e below (s₁.setTop (mkF m 22 #[.val (.int p0), .val (.int p1), .val (.int p2), .val (.int g), .val (.int d), .unset, .unset, .unset, .unset, .unset, .unset, .unset, .unset, .unset] [])) _
        refine XS.iloadN X0.here hx rfl (hb hby at_22) rfl ?_
        show Steps p.tables e below (s₁.setTop (mkF m 23 #[.val (.int p0), .val (.int p1), .val (.int p2), .val (.int g), .val (.int d), .unset, .unset, .unset, .unset, .unset, .unset, .unset, .unset, .unset] [(.int p2)])) _
        refine XS.iconst X0.here hx rfl (hb hby at_23) ?_
        show Steps p.tables e below (s₁.setTop (mkF m 24 #[.val (.int p0), .val (.int p1), .val (.int p2), .val (.int g), .val (.int d), .unset, .unset, .unset, .unset, .unset, .unset, .unset, .unset, .unset] [(.int (1 : Int32)), (.int p2)])) _
        refine XS.iand X0.here hx rfl (hb hby at_24) rfl ?_
        by_cases q13 : (p2 &&& (1 : Int32)) = (0 : Int32)
        · skip
          show Steps p.tables e below (s₁.setTop (mkF m 25 #[.val (.int p0), .val (.int p1), .val (.int p2), .val (.int g), .val (.int d), .unset, .unset, .unset, .unset, .unset, .unset, .unset, .unset, .unset] [(.int (p2 &&& (1 : Int32)))])) _
          refine XS.ifYes X0.here hx rfl (pc0 := 25) (pc' := 32) rfl (hb hby at_25) rfl ((if0 _ _).trans (teq q13).1) (by decide) (by decide) ?_
          show Steps p.tables e below (s₁.setTop (mkF m 32 #[.val (.int p0), .val (.int p1), .val (.int p2), .val (.int g), .val (.int d), .unset, .unset, .unset, .unset, .unset, .unset, .unset, .unset, .unset] [])) _
          refine XS.iconst X0.here hx rfl (hb hby at_32) ?_
          have ev_ties : ties = (0 : Int32) := by rw [hv_ties, if_pos q13]
          rw [ev_ties] at ktg
          exact ktg
        · skip
          show Steps p.tables e below (s₁.setTop (mkF m 25 #[.val (.int p0), .val (.int p1), .val (.int p2), .val (.int g), .val (.int d), .unset, .unset, .unset, .unset, .unset, .unset, .unset, .unset, .unset] [(.int (p2 &&& (1 : Int32)))])) _
          refine XS.ifNo X0.here hx rfl (hb hby at_25) rfl ((if0 _ _).trans (feq q13).1) ?_
          show Steps p.tables e below (s₁.setTop (mkF m 28 #[.val (.int p0), .val (.int p1), .val (.int p2), .val (.int g), .val (.int d), .unset, .unset, .unset, .unset, .unset, .unset, .unset, .unset, .unset] [])) _
          refine XS.iconst X0.here hx rfl (hb hby at_28) ?_
          show Steps p.tables e below (s₁.setTop (mkF m 29 #[.val (.int p0), .val (.int p1), .val (.int p2), .val (.int g), .val (.int d), .unset, .unset, .unset, .unset, .unset, .unset, .unset, .unset, .unset] [(.int (1 : Int32))])) _
          refine XS.goto X0.here hx rfl (pc0 := 29) (pc' := 33) rfl (hb hby at_29) (by decide) (by decide) ?_
          have ev_ties : ties = (1 : Int32) := by rw [hv_ties, if_neg q13]
          rw [ev_ties] at ktg
          exact ktg
        done)
      have pre15 : Rch p.tables e below (s₁.setTop (entryFrame m #[(.int p0), (.int p1), (.int p2)] maxLocals)) (s₁.setTop (mkF m 41 #[.val (.int p0), .val (.int p1), .val (.int p2), .val (.int g), .val (.int d), .val (.int ties), .unset, .unset, .unset, .unset, .unset, .unset, .unset, .unset] [(.long ((g.toInt64) - (d.toInt64)))])) := fun tgt ktg => pre14 tgt (by
        show Steps p.tables e below (s₁.setTop (mkF m 33 #[.val (.int p0), .val (.int p1), .val (.int p2), .val (.int g), .val (.int d), .unset, .unset, .unset, .unset, .unset, .unset, .unset, .unset, .unset] [(.int ties)])) _
        refine XS.istore X0.here hx rfl (hb hby at_33) rfl (l' := #[.val (.int p0), .val (.int p1), .val (.int p2), .val (.int g), .val (.int d), .val (.int ties), .unset, .unset, .unset, .unset, .unset, .unset, .unset, .unset]) rfl ?_
        show Steps p.tables e below (s₁.setTop (mkF m 35 #[.val (.int p0), .val (.int p1), .val (.int p2), .val (.int g), .val (.int d), .val (.int ties), .unset, .unset, .unset, .unset, .unset, .unset, .unset, .unset] [])) _
        refine XS.iloadN X0.here hx rfl (hb hby at_35) rfl ?_
        show Steps p.tables e below (s₁.setTop (mkF m 36 #[.val (.int p0), .val (.int p1), .val (.int p2), .val (.int g), .val (.int d), .val (.int ties), .unset, .unset, .unset, .unset, .unset, .unset, .unset, .unset] [(.int g)])) _
        refine XT.i2l X0.here hx rfl (hb hby at_36) rfl ?_
        show Steps p.tables e below (s₁.setTop (mkF m 37 #[.val (.int p0), .val (.int p1), .val (.int p2), .val (.int g), .val (.int d), .val (.int ties), .unset, .unset, .unset, .unset, .unset, .unset, .unset, .unset] [(.long (g.toInt64))])) _
        refine XS.iload X0.here hx rfl (hb hby at_37) rfl ?_
        show Steps p.tables e below (s₁.setTop (mkF m 39 #[.val (.int p0), .val (.int p1), .val (.int p2), .val (.int g), .val (.int d), .val (.int ties), .unset, .unset, .unset, .unset, .unset, .unset, .unset, .unset] [(.int d), (.long (g.toInt64))])) _
        refine XT.i2l X0.here hx rfl (hb hby at_39) rfl ?_
        show Steps p.tables e below (s₁.setTop (mkF m 40 #[.val (.int p0), .val (.int p1), .val (.int p2), .val (.int g), .val (.int d), .val (.int ties), .unset, .unset, .unset, .unset, .unset, .unset, .unset, .unset] [(.long (d.toInt64)), (.long (g.toInt64))])) _
        refine XT.lsub X0.here hx rfl (hb hby at_40) rfl ?_
        exact ktg)
      obtain ⟨df, hv_df⟩ : ∃ nm_ : Int64, nm_ = ((g.toInt64) - (d.toInt64)) := ⟨_, rfl⟩
      have pre16 : Rch p.tables e below (s₁.setTop (entryFrame m #[(.int p0), (.int p1), (.int p2)] maxLocals)) (s₁.setTop (mkF m 41 #[.val (.int p0), .val (.int p1), .val (.int p2), .val (.int g), .val (.int d), .val (.int ties), .unset, .unset, .unset, .unset, .unset, .unset, .unset, .unset] [(.long df)])) := fun tgt ktg => pre15 tgt (by rw [hv_df] at ktg; exact ktg)
      have pre17 : Rch p.tables e below (s₁.setTop (entryFrame m #[(.int p0), (.int p1), (.int p2)] maxLocals)) (s₁.setTop (mkF m 43 #[.val (.int p0), .val (.int p1), .val (.int p2), .val (.int g), .val (.int d), .val (.int ties), .val (.long df), .second, .unset, .unset, .unset, .unset, .unset, .unset] [])) := fun tgt ktg => pre16 tgt (by
        show Steps p.tables e below (s₁.setTop (mkF m 41 #[.val (.int p0), .val (.int p1), .val (.int p2), .val (.int g), .val (.int d), .val (.int ties), .unset, .unset, .unset, .unset, .unset, .unset, .unset, .unset] [(.long df)])) _
        refine XT.lstore X0.here hx rfl (hb hby at_41) rfl (l' := #[.val (.int p0), .val (.int p1), .val (.int p2), .val (.int g), .val (.int d), .val (.int ties), .val (.long df), .second, .unset, .unset, .unset, .unset, .unset, .unset]) rfl ?_
        exact ktg)
      obtain ⟨af, hv_af⟩ : ∃ nm_ : Int32, nm_ = (if g < (1 : Int32) then (0 : Int32) else (1 : Int32)) := ⟨_, rfl⟩
      have pre19 : Rch p.tables e below (s₁.setTop (entryFrame m #[(.int p0), (.int p1), (.int p2)] maxLocals)) (s₁.setTop (mkF m 53 #[.val (.int p0), .val (.int p1), .val (.int p2), .val (.int g), .val (.int d), .val (.int ties), .val (.long df), .second, .unset, .unset, .unset, .unset, .unset, .unset] [(.int af)])) := fun tgt ktg => pre17 tgt (by
        show Steps p.tables e below (s₁.setTop (mkF m 43 #[.val (.int p0), .val (.int p1), .val (.int p2), .val (.int g), .val (.int d), .val (.int ties), .val (.long df), .second, .unset, .unset, .unset, .unset, .unset, .unset] [])) _
        refine XS.iloadN X0.here hx rfl (hb hby at_43) rfl ?_
        show Steps p.tables e below (s₁.setTop (mkF m 44 #[.val (.int p0), .val (.int p1), .val (.int p2), .val (.int g), .val (.int d), .val (.int ties), .val (.long df), .second, .unset, .unset, .unset, .unset, .unset, .unset] [(.int g)])) _
        refine XS.iconst X0.here hx rfl (hb hby at_44) ?_
        by_cases q18 : g < (1 : Int32)
        · skip
          show Steps p.tables e below (s₁.setTop (mkF m 45 #[.val (.int p0), .val (.int p1), .val (.int p2), .val (.int g), .val (.int d), .val (.int ties), .val (.long df), .second, .unset, .unset, .unset, .unset, .unset, .unset] [(.int (1 : Int32)), (.int g)])) _
          refine XS.icmpYes X0.here hx rfl (pc0 := 45) (pc' := 52) rfl (hb hby at_45) rfl (tlt q18).1 (by decide) (by decide) ?_
          show Steps p.tables e below (s₁.setTop (mkF m 52 #[.val (.int p0), .val (.int p1), .val (.int p2), .val (.int g), .val (.int d), .val (.int ties), .val (.long df), .second, .unset, .unset, .unset, .unset, .unset, .unset] [])) _
          refine XS.iconst X0.here hx rfl (hb hby at_52) ?_
          have ev_af : af = (0 : Int32) := by rw [hv_af, if_pos q18]
          rw [ev_af] at ktg
          exact ktg
        · skip
          show Steps p.tables e below (s₁.setTop (mkF m 45 #[.val (.int p0), .val (.int p1), .val (.int p2), .val (.int g), .val (.int d), .val (.int ties), .val (.long df), .second, .unset, .unset, .unset, .unset, .unset, .unset] [(.int (1 : Int32)), (.int g)])) _
          refine XS.icmpNo X0.here hx rfl (hb hby at_45) rfl (flt q18).1 ?_
          show Steps p.tables e below (s₁.setTop (mkF m 48 #[.val (.int p0), .val (.int p1), .val (.int p2), .val (.int g), .val (.int d), .val (.int ties), .val (.long df), .second, .unset, .unset, .unset, .unset, .unset, .unset] [])) _
          refine XS.iconst X0.here hx rfl (hb hby at_48) ?_
          show Steps p.tables e below (s₁.setTop (mkF m 49 #[.val (.int p0), .val (.int p1), .val (.int p2), .val (.int g), .val (.int d), .val (.int ties), .val (.long df), .second, .unset, .unset, .unset, .unset, .unset, .unset] [(.int (1 : Int32))])) _
          refine XS.goto X0.here hx rfl (pc0 := 49) (pc' := 53) rfl (hb hby at_49) (by decide) (by decide) ?_
          have ev_af : af = (1 : Int32) := by rw [hv_af, if_neg q18]
          rw [ev_af] at ktg
          exact ktg
        done)
      have pre20 : Rch p.tables e below (s₁.setTop (entryFrame m #[(.int p0), (.int p1), (.int p2)] maxLocals)) (s₁.setTop (mkF m 55 #[.val (.int p0), .val (.int p1), .val (.int p2), .val (.int g), .val (.int d), .val (.int ties), .val (.long df), .second, .val (.int af), .unset, .unset, .unset, .unset, .unset] [])) := fun tgt ktg => pre19 tgt (by
        show Steps p.tables e below (s₁.setTop (mkF m 53 #[.val (.int p0), .val (.int p1), .val (.int p2), .val (.int g), .val (.int d), .val (.int ties), .val (.long df), .second, .unset, .unset, .unset, .unset, .unset, .unset] [(.int af)])) _
        refine XS.istore X0.here hx rfl (hb hby at_53) rfl (l' := #[.val (.int p0), .val (.int p1), .val (.int p2), .val (.int g), .val (.int d), .val (.int ties), .val (.long df), .second, .val (.int af), .unset, .unset, .unset, .unset, .unset]) rfl ?_
        exact ktg)
      obtain ⟨co, hv_co⟩ : ∃ nm_ : Int32, nm_ = (if (0 : Int32) < (XT.cmpL df (0 : Int64)) then (1 : Int32) else (if (XT.cmpL df (0 : Int64)) = (0 : Int32) then (if ties = (0 : Int32) then (0 : Int32) else (1 : Int32)) else (0 : Int32))) := ⟨_, rfl⟩
      have pre24 : Rch p.tables e below (s₁.setTop (entryFrame m #[(.int p0), (.int p1), (.int p2)] maxLocals)) (s₁.setTop (mkF m 79 #[.val (.int p0), .val (.int p1), .val (.int p2), .val (.int g), .val (.int d), .val (.int ties), .val (.long df), .second, .val (.int af), .unset, .unset, .unset, .unset, .unset] [(.int co)])) := fun tgt ktg => pre20 tgt (by
        show Steps p.tables e below (s₁.setTop (mkF m 55 #[.val (.int p0), .val (.int p1), .val (.int p2), .val (.int g), .val (.int d), .val (.int ties), .val (.long df), .second, .val (.int af), .unset, .unset, .unset, .unset, .unset] [])) _
        refine XT.lload X0.here hx rfl (hb hby at_55) rfl ?_
        show Steps p.tables e below (s₁.setTop (mkF m 57 #[.val (.int p0), .val (.int p1), .val (.int p2), .val (.int g), .val (.int d), .val (.int ties), .val (.long df), .second, .val (.int af), .unset, .unset, .unset, .unset, .unset] [(.long df)])) _
        refine XT.lconst X0.here hx rfl (hb hby at_57) ?_
        show Steps p.tables e below (s₁.setTop (mkF m 58 #[.val (.int p0), .val (.int p1), .val (.int p2), .val (.int g), .val (.int d), .val (.int ties), .val (.long df), .second, .val (.int af), .unset, .unset, .unset, .unset, .unset] [(.long (0 : Int64)), (.long df)])) _
        refine XT.lcmp X0.here hx rfl (hb hby at_58) rfl ?_
        by_cases q21 : (0 : Int32) < (XT.cmpL df (0 : Int64))
        · skip
          show Steps p.tables e below (s₁.setTop (mkF m 59 #[.val (.int p0), .val (.int p1), .val (.int p2), .val (.int g), .val (.int d), .val (.int ties), .val (.long df), .second, .val (.int af), .unset, .unset, .unset, .unset, .unset] [(.int (XT.cmpL df (0 : Int64)))])) _
          refine XS.ifYes X0.here hx rfl (pc0 := 59) (pc' := 74) rfl (hb hby at_59) rfl ((if0 _ _).trans (tlt q21).2.2.1) (by decide) (by decide) ?_
          show Steps p.tables e below (s₁.setTop (mkF m 74 #[.val (.int p0), .val (.int p1), .val (.int p2), .val (.int g), .val (.int d), .val (.int ties), .val (.long df), .second, .val (.int af), .unset, .unset, .unset, .unset, .unset] [])) _
          refine XS.iconst X0.here hx rfl (hb hby at_74) ?_
          show Steps p.tables e below (s₁.setTop (mkF m 75 #[.val (.int p0), .val (.int p1), .val (.int p2), .val (.int g), .val (.int d), .val (.int ties), .val (.long df), .second, .val (.int af), .unset, .unset, .unset, .unset, .unset] [(.int (1 : Int32))])) _
          refine XS.goto X0.here hx rfl (pc0 := 75) (pc' := 79) rfl (hb hby at_75) (by decide) (by decide) ?_
          have ev_co : co = (1 : Int32) := by rw [hv_co, if_pos q21]
          rw [ev_co] at ktg
          exact ktg
        · skip
          show Steps p.tables e below (s₁.setTop (mkF m 59 #[.val (.int p0), .val (.int p1), .val (.int p2), .val (.int g), .val (.int d), .val (.int ties), .val (.long df), .second, .val (.int af), .unset, .unset, .unset, .unset, .unset] [(.int (XT.cmpL df (0 : Int64)))])) _
          refine XS.ifNo X0.here hx rfl (hb hby at_59) rfl ((if0 _ _).trans (flt q21).2.2.1) ?_
          show Steps p.tables e below (s₁.setTop (mkF m 62 #[.val (.int p0), .val (.int p1), .val (.int p2), .val (.int g), .val (.int d), .val (.int ties), .val (.long df), .second, .val (.int af), .unset, .unset, .unset, .unset, .unset] [])) _
          refine XT.lload X0.here hx rfl (hb hby at_62) rfl ?_
          show Steps p.tables e below (s₁.setTop (mkF m 64 #[.val (.int p0), .val (.int p1), .val (.int p2), .val (.int g), .val (.int d), .val (.int ties), .val (.long df), .second, .val (.int af), .unset, .unset, .unset, .unset, .unset] [(.long df)])) _
          refine XT.lconst X0.here hx rfl (hb hby at_64) ?_
          show Steps p.tables e below (s₁.setTop (mkF m 65 #[.val (.int p0), .val (.int p1), .val (.int p2), .val (.int g), .val (.int d), .val (.int ties), .val (.long df), .second, .val (.int af), .unset, .unset, .unset, .unset, .unset] [(.long (0 : Int64)), (.long df)])) _
          refine XT.lcmp X0.here hx rfl (hb hby at_65) rfl ?_
          by_cases q22 : (XT.cmpL df (0 : Int64)) = (0 : Int32)
          · skip
            show Steps p.tables e below (s₁.setTop (mkF m 66 #[.val (.int p0), .val (.int p1), .val (.int p2), .val (.int g), .val (.int d), .val (.int ties), .val (.long df), .second, .val (.int af), .unset, .unset, .unset, .unset, .unset] [(.int (XT.cmpL df (0 : Int64)))])) _
            refine XS.ifNo X0.here hx rfl (hb hby at_66) rfl ((if0 _ _).trans (teq q22).2) ?_
            show Steps p.tables e below (s₁.setTop (mkF m 69 #[.val (.int p0), .val (.int p1), .val (.int p2), .val (.int g), .val (.int d), .val (.int ties), .val (.long df), .second, .val (.int af), .unset, .unset, .unset, .unset, .unset] [])) _
            refine XS.iload X0.here hx rfl (hb hby at_69) rfl ?_
            by_cases q23 : ties = (0 : Int32)
            · skip
              show Steps p.tables e below (s₁.setTop (mkF m 71 #[.val (.int p0), .val (.int p1), .val (.int p2), .val (.int g), .val (.int d), .val (.int ties), .val (.long df), .second, .val (.int af), .unset, .unset, .unset, .unset, .unset] [(.int ties)])) _
              refine XS.ifYes X0.here hx rfl (pc0 := 71) (pc' := 78) rfl (hb hby at_71) rfl ((if0 _ _).trans (teq q23).1) (by decide) (by decide) ?_
              show Steps p.tables e below (s₁.setTop (mkF m 78 #[.val (.int p0), .val (.int p1), .val (.int p2), .val (.int g), .val (.int d), .val (.int ties), .val (.long df), .second, .val (.int af), .unset, .unset, .unset, .unset, .unset] [])) _
              refine XS.iconst X0.here hx rfl (hb hby at_78) ?_
              have ev_co : co = (0 : Int32) := by rw [hv_co, if_neg q21, if_pos q22, if_pos q23]
              rw [ev_co] at ktg
              exact ktg
            · skip
              show Steps p.tables e below (s₁.setTop (mkF m 71 #[.val (.int p0), .val (.int p1), .val (.int p2), .val (.int g), .val (.int d), .val (.int ties), .val (.long df), .second, .val (.int af), .unset, .unset, .unset, .unset, .unset] [(.int ties)])) _
              refine XS.ifNo X0.here hx rfl (hb hby at_71) rfl ((if0 _ _).trans (feq q23).1) ?_
              show Steps p.tables e below (s₁.setTop (mkF m 74 #[.val (.int p0), .val (.int p1), .val (.int p2), .val (.int g), .val (.int d), .val (.int ties), .val (.long df), .second, .val (.int af), .unset, .unset, .unset, .unset, .unset] [])) _
              refine XS.iconst X0.here hx rfl (hb hby at_74) ?_
              show Steps p.tables e below (s₁.setTop (mkF m 75 #[.val (.int p0), .val (.int p1), .val (.int p2), .val (.int g), .val (.int d), .val (.int ties), .val (.long df), .second, .val (.int af), .unset, .unset, .unset, .unset, .unset] [(.int (1 : Int32))])) _
              refine XS.goto X0.here hx rfl (pc0 := 75) (pc' := 79) rfl (hb hby at_75) (by decide) (by decide) ?_
              have ev_co : co = (1 : Int32) := by rw [hv_co, if_neg q21, if_pos q22, if_neg q23]
              rw [ev_co] at ktg
              exact ktg
          · skip
            show Steps p.tables e below (s₁.setTop (mkF m 66 #[.val (.int p0), .val (.int p1), .val (.int p2), .val (.int g), .val (.int d), .val (.int ties), .val (.long df), .second, .val (.int af), .unset, .unset, .unset, .unset, .unset] [(.int (XT.cmpL df (0 : Int64)))])) _
            refine XS.ifYes X0.here hx rfl (pc0 := 66) (pc' := 78) rfl (hb hby at_66) rfl ((if0 _ _).trans (feq q22).2) (by decide) (by decide) ?_
            show Steps p.tables e below (s₁.setTop (mkF m 78 #[.val (.int p0), .val (.int p1), .val (.int p2), .val (.int g), .val (.int d), .val (.int ties), .val (.long df), .second, .val (.int af), .unset, .unset, .unset, .unset, .unset] [])) _
            refine XS.iconst X0.here hx rfl (hb hby at_78) ?_
            have ev_co : co = (0 : Int32) := by rw [hv_co, if_neg q21, if_neg q22]
            rw [ev_co] at ktg
            exact ktg
        done)
      have pre25 : Rch p.tables e below (s₁.setTop (entryFrame m #[(.int p0), (.int p1), (.int p2)] maxLocals)) (s₁.setTop (mkF m 81 #[.val (.int p0), .val (.int p1), .val (.int p2), .val (.int g), .val (.int d), .val (.int ties), .val (.long df), .second, .val (.int af), .val (.int co), .unset, .unset, .unset, .unset] [])) := fun tgt ktg => pre24 tgt (by
        show Steps p.tables e below (s₁.setTop (mkF m 79 #[.val (.int p0), .val (.int p1), .val (.int p2), .val (.int g), .val (.int d), .val (.int ties), .val (.long df), .second, .val (.int af), .unset, .unset, .unset, .unset, .unset] [(.int co)])) _
        refine XS.istore X0.here hx rfl (hb hby at_79) rfl (l' := #[.val (.int p0), .val (.int p1), .val (.int p2), .val (.int g), .val (.int d), .val (.int ties), .val (.long df), .second, .val (.int af), .val (.int co), .unset, .unset, .unset, .unset]) rfl ?_
        exact ktg)
      obtain ⟨un, hv_un⟩ : ∃ nm_ : Int32, nm_ = (if d < (1 : Int32) then (1 : Int32) else (0 : Int32)) := ⟨_, rfl⟩
      have pre27 : Rch p.tables e below (s₁.setTop (entryFrame m #[(.int p0), (.int p1), (.int p2)] maxLocals)) (s₁.setTop (mkF m 92 #[.val (.int p0), .val (.int p1), .val (.int p2), .val (.int g), .val (.int d), .val (.int ties), .val (.long df), .second, .val (.int af), .val (.int co), .unset, .unset, .unset, .unset] [(.int un)])) := fun tgt ktg => pre25 tgt (by
        show Steps p.tables e below (s₁.setTop (mkF m 81 #[.val (.int p0), .val (.int p1), .val (.int p2), .val (.int g), .val (.int d), .val (.int ties), .val (.long df), .second, .val (.int af), .val (.int co), .unset, .unset, .unset, .unset] [])) _
        refine XS.iload X0.here hx rfl (hb hby at_81) rfl ?_
        show Steps p.tables e below (s₁.setTop (mkF m 83 #[.val (.int p0), .val (.int p1), .val (.int p2), .val (.int g), .val (.int d), .val (.int ties), .val (.long df), .second, .val (.int af), .val (.int co), .unset, .unset, .unset, .unset] [(.int d)])) _
        refine XS.iconst X0.here hx rfl (hb hby at_83) ?_
        by_cases q26 : d < (1 : Int32)
        · skip
          show Steps p.tables e below (s₁.setTop (mkF m 84 #[.val (.int p0), .val (.int p1), .val (.int p2), .val (.int g), .val (.int d), .val (.int ties), .val (.long df), .second, .val (.int af), .val (.int co), .unset, .unset, .unset, .unset] [(.int (1 : Int32)), (.int d)])) _
          refine XS.icmpNo X0.here hx rfl (hb hby at_84) rfl (tlt q26).2.1 ?_
          show Steps p.tables e below (s₁.setTop (mkF m 87 #[.val (.int p0), .val (.int p1), .val (.int p2), .val (.int g), .val (.int d), .val (.int ties), .val (.long df), .second, .val (.int af), .val (.int co), .unset, .unset, .unset, .unset] [])) _
          refine XS.iconst X0.here hx rfl (hb hby at_87) ?_
          show Steps p.tables e below (s₁.setTop (mkF m 88 #[.val (.int p0), .val (.int p1), .val (.int p2), .val (.int g), .val (.int d), .val (.int ties), .val (.long df), .second, .val (.int af), .val (.int co), .unset, .unset, .unset, .unset] [(.int (1 : Int32))])) _
          refine XS.goto X0.here hx rfl (pc0 := 88) (pc' := 92) rfl (hb hby at_88) (by decide) (by decide) ?_
          have ev_un : un = (1 : Int32) := by rw [hv_un, if_pos q26]
          rw [ev_un] at ktg
          exact ktg
        · skip
          show Steps p.tables e below (s₁.setTop (mkF m 84 #[.val (.int p0), .val (.int p1), .val (.int p2), .val (.int g), .val (.int d), .val (.int ties), .val (.long df), .second, .val (.int af), .val (.int co), .unset, .unset, .unset, .unset] [(.int (1 : Int32)), (.int d)])) _
          refine XS.icmpYes X0.here hx rfl (pc0 := 84) (pc' := 91) rfl (hb hby at_84) rfl (flt q26).2.1 (by decide) (by decide) ?_
          show Steps p.tables e below (s₁.setTop (mkF m 91 #[.val (.int p0), .val (.int p1), .val (.int p2), .val (.int g), .val (.int d), .val (.int ties), .val (.long df), .second, .val (.int af), .val (.int co), .unset, .unset, .unset, .unset] [])) _
          refine XS.iconst X0.here hx rfl (hb hby at_91) ?_
          have ev_un : un = (0 : Int32) := by rw [hv_un, if_neg q26]
          rw [ev_un] at ktg
          exact ktg
        done)
      have pre28 : Rch p.tables e below (s₁.setTop (entryFrame m #[(.int p0), (.int p1), (.int p2)] maxLocals)) (s₁.setTop (mkF m 94 #[.val (.int p0), .val (.int p1), .val (.int p2), .val (.int g), .val (.int d), .val (.int ties), .val (.long df), .second, .val (.int af), .val (.int co), .val (.int un), .unset, .unset, .unset] [])) := fun tgt ktg => pre27 tgt (by
        show Steps p.tables e below (s₁.setTop (mkF m 92 #[.val (.int p0), .val (.int p1), .val (.int p2), .val (.int g), .val (.int d), .val (.int ties), .val (.long df), .second, .val (.int af), .val (.int co), .unset, .unset, .unset, .unset] [(.int un)])) _
        refine XS.istore X0.here hx rfl (hb hby at_92) rfl (l' := #[.val (.int p0), .val (.int p1), .val (.int p2), .val (.int g), .val (.int d), .val (.int ties), .val (.long df), .second, .val (.int af), .val (.int co), .val (.int un), .unset, .unset, .unset]) rfl ?_
        exact ktg)
      obtain ⟨T29, X29, e29, st29⟩ := getS2 X0 hx hZ hown (host := "") (Or.inl (hw _ (List.mem_of_getElem? (i := 1) rfl))) Via.refl e0 S0 (g := (mkF m 94 #[.val (.int p0), .val (.int p1), .val (.int p2), .val (.int g), .val (.int d), .val (.int ties), .val (.long df), .second, .val (.int af), .val (.int co), .val (.int un), .unset, .unset, .unset] [])) rfl (hb hby at_94)
      have pre29 : Rch p.tables e below (s₁.setTop (entryFrame m #[(.int p0), (.int p1), (.int p2)] maxLocals)) (T29.setTop (mkF m 97 #[.val (.int p0), .val (.int p1), .val (.int p2), .val (.int g), .val (.int d), .val (.int ties), .val (.long df), .second, .val (.int af), .val (.int co), .val (.int un), .unset, .unset, .unset] [(.ref w0)])) := fun tgt ktg => pre28 tgt (st29 tgt ktg)
      have pre30 : Rch p.tables e below (s₁.setTop (entryFrame m #[(.int p0), (.int p1), (.int p2)] maxLocals)) (T29.setTop (mkF m 102 #[.val (.int p0), .val (.int p1), .val (.int p2), .val (.int g), .val (.int d), .val (.int ties), .val (.long df), .second, .val (.int af), .val (.int co), .val (.int un), .unset, .unset, .unset] [(.int ties), (.int d), (.int g), (.ref w0)])) := fun tgt ktg => pre29 tgt (by
        show Steps p.tables e below (T29.setTop (mkF m 97 #[.val (.int p0), .val (.int p1), .val (.int p2), .val (.int g), .val (.int d), .val (.int ties), .val (.long df), .second, .val (.int af), .val (.int co), .val (.int un), .unset, .unset, .unset] [(.ref w0)])) _
        refine XS.iloadN X29.here hx rfl (hb hby at_97) rfl ?_
        show Steps p.tables e below (T29.setTop (mkF m 98 #[.val (.int p0), .val (.int p1), .val (.int p2), .val (.int g), .val (.int d), .val (.int ties), .val (.long df), .second, .val (.int af), .val (.int co), .val (.int un), .unset, .unset, .unset] [(.int g), (.ref w0)])) _
        refine XS.iload X29.here hx rfl (hb hby at_98) rfl ?_
        show Steps p.tables e below (T29.setTop (mkF m 100 #[.val (.int p0), .val (.int p1), .val (.int p2), .val (.int g), .val (.int d), .val (.int ties), .val (.long df), .second, .val (.int af), .val (.int co), .val (.int un), .unset, .unset, .unset] [(.int d), (.int g), (.ref w0)])) _
        refine XS.iload X29.here hx rfl (hb hby at_100) rfl ?_
        exact ktg)
      obtain ⟨cq31, kq31, q31a, q31b, q31c⟩ := isOf hZ e29 E0
      obtain ⟨_, _, ⟨T31, L31, k31, n31⟩, -, X31, ⟨Lc31, hQ31, l31, y31, z31⟩, st31⟩ := X29.virtualBack hx (y := (⟨"com/example/velvet_rope/velvetrope/DecisionStrategy", "grants", "(IIZ)Z"⟩ : MethodName)) (z := (⟨"com/example/velvet_rope/velvetrope/DecisionStrategy", "grants", "(IIZ)Z"⟩ : MethodName)) hown (mvT hZ (hw _ (List.mem_of_getElem? (i := 4) rfl))) (mvT hZ (hw _ (List.mem_of_getElem? (i := 5) rfl))) (notFace_of_selects (args := #[]) (mvT hZ (hw _ (List.mem_of_getElem? (i := 7) rfl)))) (mvT hZ (hw _ (List.mem_of_getElem? (i := 7) rfl))) (mvT hZ (hw _ (List.mem_of_getElem? (i := 6) rfl))) (by decide) (backOf (W := 0) (rmG0 l Z a0 hw [] w0 g d ties h0 n0 Z0 E0 F0) hZ (hw _ (List.mem_of_getElem? (i := 8) rfl)) (hw _ (List.mem_of_getElem? (i := 2) rfl)) (by decide) (by decide)) q31a q31c (g := (mkF m 102 #[.val (.int p0), .val (.int p1), .val (.int p2), .val (.int g), .val (.int d), .val (.int ties), .val (.long df), .second, .val (.int af), .val (.int co), .val (.int un), .unset, .unset, .unset] [(.int ties), (.int d), (.int g), (.ref w0)])) rfl (by rw [hml]; rfl) (Steps.refl _) (argsL := [(.int g), (.int d), (.int ties)]) (rest := []) (lenOf pd_1 rfl) rfl (by show 2 * 0 + _ ≤ _; exact Nat.le_of_eq rfl) (hb hby at_102) (fun _ _ => ⟨rfl, e29, (by decide : 0 + 0 ≤ _), (by decide : 0 + 0 ≤ _)⟩)
      dsimp only [Pt.U, Pt.locs, Pt.cells, Pt.slots] at X31 l31 y31 z31 st31 hQ31
      subst l31 y31 z31
      obtain ⟨rfl, Nq31, eh31⟩ := hQ31
      have N32 := Fr.app N0 Nq31
      have pre31 : Rch p.tables e below (s₁.setTop (entryFrame m #[(.int p0), (.int p1), (.int p2)] maxLocals)) (T31.setTop (mkF m 105 #[.val (.int p0), .val (.int p1), .val (.int p2), .val (.int g), .val (.int d), .val (.int ties), .val (.long df), .second, .val (.int af), .val (.int co), .val (.int un), .unset, .unset, .unset] [(.int (gr 0 g d ties))])) := fun tgt ktg => pre30 tgt (st31.trans ktg)
      have pre33 : Rch p.tables e below (s₁.setTop (entryFrame m #[(.int p0), (.int p1), (.int p2)] maxLocals)) (T31.setTop (mkF m 107 #[.val (.int p0), .val (.int p1), .val (.int p2), .val (.int g), .val (.int d), .val (.int ties), .val (.long df), .second, .val (.int af), .val (.int co), .val (.int un), .val (.int (gr 0 g d ties)), .unset, .unset] [])) := fun tgt ktg => pre31 tgt (by
        show Steps p.tables e below (T31.setTop (mkF m 105 #[.val (.int p0), .val (.int p1), .val (.int p2), .val (.int g), .val (.int d), .val (.int ties), .val (.long df), .second, .val (.int af), .val (.int co), .val (.int un), .unset, .unset, .unset] [(.int (gr 0 g d ties))])) _
        refine XS.istore X31.here hx rfl (hb hby at_105) rfl (l' := #[.val (.int p0), .val (.int p1), .val (.int p2), .val (.int g), .val (.int d), .val (.int ties), .val (.long df), .second, .val (.int af), .val (.int co), .val (.int un), .val (.int (gr 0 g d ties)), .unset, .unset]) rfl ?_
        exact ktg)
      obtain ⟨T34, X34, e34, st34⟩ := getS2 X31 hx hZ hown (host := "") (Or.inl (hw _ (List.mem_of_getElem? (i := 18) rfl))) Via.refl eh31 S1 (g := (mkF m 107 #[.val (.int p0), .val (.int p1), .val (.int p2), .val (.int g), .val (.int d), .val (.int ties), .val (.long df), .second, .val (.int af), .val (.int co), .val (.int un), .val (.int (gr 0 g d ties)), .unset, .unset] [])) rfl (hb hby at_107)
      have pre34 : Rch p.tables e below (s₁.setTop (entryFrame m #[(.int p0), (.int p1), (.int p2)] maxLocals)) (T34.setTop (mkF m 110 #[.val (.int p0), .val (.int p1), .val (.int p2), .val (.int g), .val (.int d), .val (.int ties), .val (.long df), .second, .val (.int af), .val (.int co), .val (.int un), .val (.int (gr 0 g d ties)), .unset, .unset] [(.ref w1)])) := fun tgt ktg => pre33 tgt (st34 tgt ktg)
      have pre35 : Rch p.tables e below (s₁.setTop (entryFrame m #[(.int p0), (.int p1), (.int p2)] maxLocals)) (T34.setTop (mkF m 115 #[.val (.int p0), .val (.int p1), .val (.int p2), .val (.int g), .val (.int d), .val (.int ties), .val (.long df), .second, .val (.int af), .val (.int co), .val (.int un), .val (.int (gr 0 g d ties)), .unset, .unset] [(.int ties), (.int d), (.int g), (.ref w1)])) := fun tgt ktg => pre34 tgt (by
        show Steps p.tables e below (T34.setTop (mkF m 110 #[.val (.int p0), .val (.int p1), .val (.int p2), .val (.int g), .val (.int d), .val (.int ties), .val (.long df), .second, .val (.int af), .val (.int co), .val (.int un), .val (.int (gr 0 g d ties)), .unset, .unset] [(.ref w1)])) _
        refine XS.iloadN X34.here hx rfl (hb hby at_110) rfl ?_
        show Steps p.tables e below (T34.setTop (mkF m 111 #[.val (.int p0), .val (.int p1), .val (.int p2), .val (.int g), .val (.int d), .val (.int ties), .val (.long df), .second, .val (.int af), .val (.int co), .val (.int un), .val (.int (gr 0 g d ties)), .unset, .unset] [(.int g), (.ref w1)])) _
        refine XS.iload X34.here hx rfl (hb hby at_111) rfl ?_
        show Steps p.tables e below (T34.setTop (mkF m 113 #[.val (.int p0), .val (.int p1), .val (.int p2), .val (.int g), .val (.int d), .val (.int ties), .val (.long df), .second, .val (.int af), .val (.int co), .val (.int un), .val (.int (gr 0 g d ties)), .unset, .unset] [(.int d), (.int g), (.ref w1)])) _
        refine XS.iload X34.here hx rfl (hb hby at_113) rfl ?_
        exact ktg)
      obtain ⟨cq36, kq36, q36a, q36b, q36c⟩ := isOf hZ e34 E1
      obtain ⟨_, _, ⟨T36, L36, k36, n36⟩, -, X36, ⟨Lc36, hQ36, l36, y36, z36⟩, st36⟩ := X34.virtualBack hx (y := (⟨"com/example/velvet_rope/velvetrope/DecisionStrategy", "grants", "(IIZ)Z"⟩ : MethodName)) (z := (⟨"com/example/velvet_rope/velvetrope/DecisionStrategy", "grants", "(IIZ)Z"⟩ : MethodName)) hown (mvT hZ (hw _ (List.mem_of_getElem? (i := 4) rfl))) (mvT hZ (hw _ (List.mem_of_getElem? (i := 5) rfl))) (notFace_of_selects (args := #[]) (mvT hZ (hw _ (List.mem_of_getElem? (i := 7) rfl)))) (mvT hZ (hw _ (List.mem_of_getElem? (i := 7) rfl))) (mvT hZ (hw _ (List.mem_of_getElem? (i := 6) rfl))) (by decide) (backOf (W := 0) (rmG1 l Z a0 hw [] w1 g d ties h0 n0 Z0 E1 F1) hZ (hw _ (List.mem_of_getElem? (i := 8) rfl)) (hw _ (List.mem_of_getElem? (i := 2) rfl)) (by decide) (by decide)) q36a q36c (g := (mkF m 115 #[.val (.int p0), .val (.int p1), .val (.int p2), .val (.int g), .val (.int d), .val (.int ties), .val (.long df), .second, .val (.int af), .val (.int co), .val (.int un), .val (.int (gr 0 g d ties)), .unset, .unset] [(.int ties), (.int d), (.int g), (.ref w1)])) rfl (by rw [hml]; rfl) (Steps.refl _) (argsL := [(.int g), (.int d), (.int ties)]) (rest := []) (lenOf pd_1 rfl) rfl (by show 2 * 0 + _ ≤ _; exact Nat.le_of_eq rfl) (hb hby at_115) (fun _ _ => ⟨rfl, e34, (by decide : 0 + 0 ≤ _), (by decide : 0 + 0 ≤ _)⟩)
      dsimp only [Pt.U, Pt.locs, Pt.cells, Pt.slots] at X36 l36 y36 z36 st36 hQ36
      subst l36 y36 z36
      obtain ⟨rfl, Nq36, eh36⟩ := hQ36
      have N37 := Fr.app N32 Nq36
      have pre36 : Rch p.tables e below (s₁.setTop (entryFrame m #[(.int p0), (.int p1), (.int p2)] maxLocals)) (T36.setTop (mkF m 118 #[.val (.int p0), .val (.int p1), .val (.int p2), .val (.int g), .val (.int d), .val (.int ties), .val (.long df), .second, .val (.int af), .val (.int co), .val (.int un), .val (.int (gr 0 g d ties)), .unset, .unset] [(.int (gr 1 g d ties))])) := fun tgt ktg => pre35 tgt (st36.trans ktg)
      have pre38 : Rch p.tables e below (s₁.setTop (entryFrame m #[(.int p0), (.int p1), (.int p2)] maxLocals)) (T36.setTop (mkF m 120 #[.val (.int p0), .val (.int p1), .val (.int p2), .val (.int g), .val (.int d), .val (.int ties), .val (.long df), .second, .val (.int af), .val (.int co), .val (.int un), .val (.int (gr 0 g d ties)), .val (.int (gr 1 g d ties)), .unset] [])) := fun tgt ktg => pre36 tgt (by
        show Steps p.tables e below (T36.setTop (mkF m 118 #[.val (.int p0), .val (.int p1), .val (.int p2), .val (.int g), .val (.int d), .val (.int ties), .val (.long df), .second, .val (.int af), .val (.int co), .val (.int un), .val (.int (gr 0 g d ties)), .unset, .unset] [(.int (gr 1 g d ties))])) _
        refine XS.istore X36.here hx rfl (hb hby at_118) rfl (l' := #[.val (.int p0), .val (.int p1), .val (.int p2), .val (.int g), .val (.int d), .val (.int ties), .val (.long df), .second, .val (.int af), .val (.int co), .val (.int un), .val (.int (gr 0 g d ties)), .val (.int (gr 1 g d ties)), .unset]) rfl ?_
        exact ktg)
      obtain ⟨T39, X39, e39, st39⟩ := getS2 X36 hx hZ hown (host := "") (Or.inl (hw _ (List.mem_of_getElem? (i := 20) rfl))) Via.refl eh36 S2 (g := (mkF m 120 #[.val (.int p0), .val (.int p1), .val (.int p2), .val (.int g), .val (.int d), .val (.int ties), .val (.long df), .second, .val (.int af), .val (.int co), .val (.int un), .val (.int (gr 0 g d ties)), .val (.int (gr 1 g d ties)), .unset] [])) rfl (hb hby at_120)
      have pre39 : Rch p.tables e below (s₁.setTop (entryFrame m #[(.int p0), (.int p1), (.int p2)] maxLocals)) (T39.setTop (mkF m 123 #[.val (.int p0), .val (.int p1), .val (.int p2), .val (.int g), .val (.int d), .val (.int ties), .val (.long df), .second, .val (.int af), .val (.int co), .val (.int un), .val (.int (gr 0 g d ties)), .val (.int (gr 1 g d ties)), .unset] [(.ref w2)])) := fun tgt ktg => pre38 tgt (st39 tgt ktg)
      have pre40 : Rch p.tables e below (s₁.setTop (entryFrame m #[(.int p0), (.int p1), (.int p2)] maxLocals)) (T39.setTop (mkF m 128 #[.val (.int p0), .val (.int p1), .val (.int p2), .val (.int g), .val (.int d), .val (.int ties), .val (.long df), .second, .val (.int af), .val (.int co), .val (.int un), .val (.int (gr 0 g d ties)), .val (.int (gr 1 g d ties)), .unset] [(.int ties), (.int d), (.int g), (.ref w2)])) := fun tgt ktg => pre39 tgt (by
        show Steps p.tables e below (T39.setTop (mkF m 123 #[.val (.int p0), .val (.int p1), .val (.int p2), .val (.int g), .val (.int d), .val (.int ties), .val (.long df), .second, .val (.int af), .val (.int co), .val (.int un), .val (.int (gr 0 g d ties)), .val (.int (gr 1 g d ties)), .unset] [(.ref w2)])) _
        refine XS.iloadN X39.here hx rfl (hb hby at_123) rfl ?_
        show Steps p.tables e below (T39.setTop (mkF m 124 #[.val (.int p0), .val (.int p1), .val (.int p2), .val (.int g), .val (.int d), .val (.int ties), .val (.long df), .second, .val (.int af), .val (.int co), .val (.int un), .val (.int (gr 0 g d ties)), .val (.int (gr 1 g d ties)), .unset] [(.int g), (.ref w2)])) _
        refine XS.iload X39.here hx rfl (hb hby at_124) rfl ?_
        show Steps p.tables e below (T39.setTop (mkF m 126 #[.val (.int p0), .val (.int p1), .val (.int p2), .val (.int g), .val (.int d), .val (.int ties), .val (.long df), .second, .val (.int af), .val (.int co), .val (.int un), .val (.int (gr 0 g d ties)), .val (.int (gr 1 g d ties)), .unset] [(.int d), (.int g), (.ref w2)])) _
        refine XS.iload X39.here hx rfl (hb hby at_126) rfl ?_
        exact ktg)
      obtain ⟨cq41, kq41, q41a, q41b, q41c⟩ := isOf hZ e39 E2
      obtain ⟨_, _, ⟨T41, L41, k41, n41⟩, -, X41, ⟨Lc41, hQ41, l41, y41, z41⟩, st41⟩ := X39.virtualBack hx (y := (⟨"com/example/velvet_rope/velvetrope/DecisionStrategy", "grants", "(IIZ)Z"⟩ : MethodName)) (z := (⟨"com/example/velvet_rope/velvetrope/DecisionStrategy", "grants", "(IIZ)Z"⟩ : MethodName)) hown (mvT hZ (hw _ (List.mem_of_getElem? (i := 4) rfl))) (mvT hZ (hw _ (List.mem_of_getElem? (i := 5) rfl))) (notFace_of_selects (args := #[]) (mvT hZ (hw _ (List.mem_of_getElem? (i := 7) rfl)))) (mvT hZ (hw _ (List.mem_of_getElem? (i := 7) rfl))) (mvT hZ (hw _ (List.mem_of_getElem? (i := 6) rfl))) (by decide) (backOf (W := 0) (rmG2 l Z a0 hw [] w2 g d ties h0 n0 Z0 E2 F2) hZ (hw _ (List.mem_of_getElem? (i := 8) rfl)) (hw _ (List.mem_of_getElem? (i := 2) rfl)) (by decide) (by decide)) q41a q41c (g := (mkF m 128 #[.val (.int p0), .val (.int p1), .val (.int p2), .val (.int g), .val (.int d), .val (.int ties), .val (.long df), .second, .val (.int af), .val (.int co), .val (.int un), .val (.int (gr 0 g d ties)), .val (.int (gr 1 g d ties)), .unset] [(.int ties), (.int d), (.int g), (.ref w2)])) rfl (by rw [hml]; rfl) (Steps.refl _) (argsL := [(.int g), (.int d), (.int ties)]) (rest := []) (lenOf pd_1 rfl) rfl (by show 2 * 0 + _ ≤ _; exact Nat.le_of_eq rfl) (hb hby at_128) (fun _ _ => ⟨rfl, e39, (by decide : 0 + 0 ≤ _), (by decide : 0 + 0 ≤ _)⟩)
      dsimp only [Pt.U, Pt.locs, Pt.cells, Pt.slots] at X41 l41 y41 z41 st41 hQ41
      subst l41 y41 z41
      obtain ⟨rfl, Nq41, eh41⟩ := hQ41
      have N42 := Fr.app N37 Nq41
      have pre41 : Rch p.tables e below (s₁.setTop (entryFrame m #[(.int p0), (.int p1), (.int p2)] maxLocals)) (T41.setTop (mkF m 131 #[.val (.int p0), .val (.int p1), .val (.int p2), .val (.int g), .val (.int d), .val (.int ties), .val (.long df), .second, .val (.int af), .val (.int co), .val (.int un), .val (.int (gr 0 g d ties)), .val (.int (gr 1 g d ties)), .unset] [(.int (gr 2 g d ties))])) := fun tgt ktg => pre40 tgt (st41.trans ktg)
      have pre43 : Rch p.tables e below (s₁.setTop (entryFrame m #[(.int p0), (.int p1), (.int p2)] maxLocals)) (T41.setTop (mkF m 159 #[.val (.int p0), .val (.int p1), .val (.int p2), .val (.int g), .val (.int d), .val (.int ties), .val (.long df), .second, .val (.int af), .val (.int co), .val (.int un), .val (.int (gr 0 g d ties)), .val (.int (gr 1 g d ties)), .val (.int (gr 2 g d ties))] [(.int (1 : Int32))])) := fun tgt ktg => pre41 tgt (by
        show Steps p.tables e below (T41.setTop (mkF m 131 #[.val (.int p0), .val (.int p1), .val (.int p2), .val (.int g), .val (.int d), .val (.int ties), .val (.long df), .second, .val (.int af), .val (.int co), .val (.int un), .val (.int (gr 0 g d ties)), .val (.int (gr 1 g d ties)), .unset] [(.int (gr 2 g d ties))])) _
        refine XS.istore X41.here hx rfl (hb hby at_131) rfl (l' := #[.val (.int p0), .val (.int p1), .val (.int p2), .val (.int g), .val (.int d), .val (.int ties), .val (.long df), .second, .val (.int af), .val (.int co), .val (.int un), .val (.int (gr 0 g d ties)), .val (.int (gr 1 g d ties)), .val (.int (gr 2 g d ties))]) rfl ?_
        show Steps p.tables e below (T41.setTop (mkF m 133 #[.val (.int p0), .val (.int p1), .val (.int p2), .val (.int g), .val (.int d), .val (.int ties), .val (.long df), .second, .val (.int af), .val (.int co), .val (.int un), .val (.int (gr 0 g d ties)), .val (.int (gr 1 g d ties)), .val (.int (gr 2 g d ties))] [])) _
        refine XS.iload X41.here hx rfl (hb hby at_133) rfl ?_
        show Steps p.tables e below (T41.setTop (mkF m 135 #[.val (.int p0), .val (.int p1), .val (.int p2), .val (.int g), .val (.int d), .val (.int ties), .val (.long df), .second, .val (.int af), .val (.int co), .val (.int un), .val (.int (gr 0 g d ties)), .val (.int (gr 1 g d ties)), .val (.int (gr 2 g d ties))] [(.int (gr 0 g d ties))])) _
        refine XS.iload X41.here hx rfl (hb hby at_135) rfl ?_
        show Steps p.tables e below (T41.setTop (mkF m 137 #[.val (.int p0), .val (.int p1), .val (.int p2), .val (.int g), .val (.int d), .val (.int ties), .val (.long df), .second, .val (.int af), .val (.int co), .val (.int un), .val (.int (gr 0 g d ties)), .val (.int (gr 1 g d ties)), .val (.int (gr 2 g d ties))] [(.int af), (.int (gr 0 g d ties))])) _
        refine XS.icmpNo X41.here hx rfl (hb hby at_137) rfl (teq (own_a g d ties af hv_af)).2 ?_
        show Steps p.tables e below (T41.setTop (mkF m 140 #[.val (.int p0), .val (.int p1), .val (.int p2), .val (.int g), .val (.int d), .val (.int ties), .val (.long df), .second, .val (.int af), .val (.int co), .val (.int un), .val (.int (gr 0 g d ties)), .val (.int (gr 1 g d ties)), .val (.int (gr 2 g d ties))] [])) _
        refine XS.iload X41.here hx rfl (hb hby at_140) rfl ?_
        show Steps p.tables e below (T41.setTop (mkF m 142 #[.val (.int p0), .val (.int p1), .val (.int p2), .val (.int g), .val (.int d), .val (.int ties), .val (.long df), .second, .val (.int af), .val (.int co), .val (.int un), .val (.int (gr 0 g d ties)), .val (.int (gr 1 g d ties)), .val (.int (gr 2 g d ties))] [(.int (gr 1 g d ties))])) _
        refine XS.iload X41.here hx rfl (hb hby at_142) rfl ?_
        show Steps p.tables e below (T41.setTop (mkF m 144 #[.val (.int p0), .val (.int p1), .val (.int p2), .val (.int g), .val (.int d), .val (.int ties), .val (.long df), .second, .val (.int af), .val (.int co), .val (.int un), .val (.int (gr 0 g d ties)), .val (.int (gr 1 g d ties)), .val (.int (gr 2 g d ties))] [(.int co), (.int (gr 1 g d ties))])) _
        refine XS.icmpNo X41.here hx rfl (hb hby at_144) rfl (teq (own_c g d ties df co hv_df hv_co)).2 ?_
        show Steps p.tables e below (T41.setTop (mkF m 147 #[.val (.int p0), .val (.int p1), .val (.int p2), .val (.int g), .val (.int d), .val (.int ties), .val (.long df), .second, .val (.int af), .val (.int co), .val (.int un), .val (.int (gr 0 g d ties)), .val (.int (gr 1 g d ties)), .val (.int (gr 2 g d ties))] [])) _
        refine XS.iload X41.here hx rfl (hb hby at_147) rfl ?_
        show Steps p.tables e below (T41.setTop (mkF m 149 #[.val (.int p0), .val (.int p1), .val (.int p2), .val (.int g), .val (.int d), .val (.int ties), .val (.long df), .second, .val (.int af), .val (.int co), .val (.int un), .val (.int (gr 0 g d ties)), .val (.int (gr 1 g d ties)), .val (.int (gr 2 g d ties))] [(.int (gr 2 g d ties))])) _
        refine XS.iload X41.here hx rfl (hb hby at_149) rfl ?_
        show Steps p.tables e below (T41.setTop (mkF m 151 #[.val (.int p0), .val (.int p1), .val (.int p2), .val (.int g), .val (.int d), .val (.int ties), .val (.long df), .second, .val (.int af), .val (.int co), .val (.int un), .val (.int (gr 0 g d ties)), .val (.int (gr 1 g d ties)), .val (.int (gr 2 g d ties))] [(.int un), (.int (gr 2 g d ties))])) _
        refine XS.icmpNo X41.here hx rfl (hb hby at_151) rfl (teq (own_u g d ties un (own_nn hv_d) hv_un)).2 ?_
        show Steps p.tables e below (T41.setTop (mkF m 154 #[.val (.int p0), .val (.int p1), .val (.int p2), .val (.int g), .val (.int d), .val (.int ties), .val (.long df), .second, .val (.int af), .val (.int co), .val (.int un), .val (.int (gr 0 g d ties)), .val (.int (gr 1 g d ties)), .val (.int (gr 2 g d ties))] [])) _
        refine XS.iconst X41.here hx rfl (hb hby at_154) ?_
        show Steps p.tables e below (T41.setTop (mkF m 155 #[.val (.int p0), .val (.int p1), .val (.int p2), .val (.int g), .val (.int d), .val (.int ties), .val (.long df), .second, .val (.int af), .val (.int co), .val (.int un), .val (.int (gr 0 g d ties)), .val (.int (gr 1 g d ties)), .val (.int (gr 2 g d ties))] [(.int (1 : Int32))])) _
        refine XS.goto X41.here hx rfl (pc0 := 155) (pc' := 159) rfl (hb hby at_155) (by decide) (by decide) ?_
        exact ktg)
      obtain ⟨fs, hr, hrun, hended, hW, hsame⟩ := X41.leave (v := some (.int (1 : Int32))) (fun h => by rw [Bd.returns] at h; cases h)
      refine ⟨_, _, pre43 _ ?_, hrun, hended, _, _, rfl, ?_, ⟨_, rfl⟩, hW, hsame.mono (by decide) (by decide)⟩
      · show Steps p.tables e below (T41.setTop (mkF m 159 #[.val (.int p0), .val (.int p1), .val (.int p2), .val (.int g), .val (.int d), .val (.int ties), .val (.long df), .second, .val (.int af), .val (.int co), .val (.int un), .val (.int (gr 0 g d ties)), .val (.int (gr 1 g d ties)), .val (.int (gr 2 g d ties))] [(.int (1 : Int32))])) _
        exact retN X41 hx (t := .boolean) Bd.returns (by simp) (hb hby at_159) hr
      · show Q0 Z p0 p1 p2 h0 n0 _ T41.heap _
        rw [eh41]
        exact ⟨rfl, N42⟩
  · skip
    have pre44 : Rch p.tables e below (s₁.setTop (entryFrame m #[(.int p0), (.int p1), (.int p2)] maxLocals)) (s₁.setTop (mkF m 22 #[.val (.int p0), .val (.int p1), .val (.int p2), .val (.int g), .val (.int d), .unset, .unset, .unset, .unset, .unset, .unset, .unset, .unset, .unset] [])) := fun tgt ktg => pre5 tgt (by
      show Steps p.tables e below (s₁.setTop (mkF m 12 #[.val (.int p0), .val (.int p1), .val (.int p2), .val (.int g), .val (.int d), .unset, .unset, .unset, .unset, .unset, .unset, .unset, .unset, .unset] [(.int g)])) _
      refine XS.ifYes X0.here hx rfl (pc0 := 12) (pc' := 22) rfl (hb hby at_12) rfl ((if0 _ _).trans (feq c6).2) (by decide) (by decide) ?_
      exact ktg)
    obtain ⟨ties, hv_ties⟩ : ∃ nm_ : Int32, nm_ = (if (p2 &&& (1 : Int32)) = (0 : Int32) then (0 : Int32) else (1 : Int32)) := ⟨_, rfl⟩
    have pre46 : Rch p.tables e below (s₁.setTop (entryFrame m #[(.int p0), (.int p1), (.int p2)] maxLocals)) (s₁.setTop (mkF m 33 #[.val (.int p0), .val (.int p1), .val (.int p2), .val (.int g), .val (.int d), .unset, .unset, .unset, .unset, .unset, .unset, .unset, .unset, .unset] [(.int ties)])) := fun tgt ktg => pre44 tgt (by
      show Steps p.tables e below (s₁.setTop (mkF m 22 #[.val (.int p0), .val (.int p1), .val (.int p2), .val (.int g), .val (.int d), .unset, .unset, .unset, .unset, .unset, .unset, .unset, .unset, .unset] [])) _
      refine XS.iloadN X0.here hx rfl (hb hby at_22) rfl ?_
      show Steps p.tables e below (s₁.setTop (mkF m 23 #[.val (.int p0), .val (.int p1), .val (.int p2), .val (.int g), .val (.int d), .unset, .unset, .unset, .unset, .unset, .unset, .unset, .unset, .unset] [(.int p2)])) _
      refine XS.iconst X0.here hx rfl (hb hby at_23) ?_
      show Steps p.tables e below (s₁.setTop (mkF m 24 #[.val (.int p0), .val (.int p1), .val (.int p2), .val (.int g), .val (.int d), .unset, .unset, .unset, .unset, .unset, .unset, .unset, .unset, .unset] [(.int (1 : Int32)), (.int p2)])) _
      refine XS.iand X0.here hx rfl (hb hby at_24) rfl ?_
      by_cases q45 : (p2 &&& (1 : Int32)) = (0 : Int32)
      · skip
        show Steps p.tables e below (s₁.setTop (mkF m 25 #[.val (.int p0), .val (.int p1), .val (.int p2), .val (.int g), .val (.int d), .unset, .unset, .unset, .unset, .unset, .unset, .unset, .unset, .unset] [(.int (p2 &&& (1 : Int32)))])) _
        refine XS.ifYes X0.here hx rfl (pc0 := 25) (pc' := 32) rfl (hb hby at_25) rfl ((if0 _ _).trans (teq q45).1) (by decide) (by decide) ?_
        show Steps p.tables e below (s₁.setTop (mkF m 32 #[.val (.int p0), .val (.int p1), .val (.int p2), .val (.int g), .val (.int d), .unset, .unset, .unset, .unset, .unset, .unset, .unset, .unset, .unset] [])) _
        refine XS.iconst X0.here hx rfl (hb hby at_32) ?_
        have ev_ties : ties = (0 : Int32) := by rw [hv_ties, if_pos q45]
        rw [ev_ties] at ktg
        exact ktg
      · skip
        show Steps p.tables e below (s₁.setTop (mkF m 25 #[.val (.int p0), .val (.int p1), .val (.int p2), .val (.int g), .val (.int d), .unset, .unset, .unset, .unset, .unset, .unset, .unset, .unset, .unset] [(.int (p2 &&& (1 : Int32)))])) _
        refine XS.ifNo X0.here hx rfl (hb hby at_25) rfl ((if0 _ _).trans (feq q45).1) ?_
        show Steps p.tables e below (s₁.setTop (mkF m 28 #[.val (.int p0), .val (.int p1), .val (.int p2), .val (.int g), .val (.int d), .unset, .unset, .unset, .unset, .unset, .unset, .unset, .unset, .unset] [])) _
        refine XS.iconst X0.here hx rfl (hb hby at_28) ?_
        show Steps p.tables e below (s₁.setTop (mkF m 29 #[.val (.int p0), .val (.int p1), .val (.int p2), .val (.int g), .val (.int d), .unset, .unset, .unset, .unset, .unset, .unset, .unset, .unset, .unset] [(.int (1 : Int32))])) _
        refine XS.goto X0.here hx rfl (pc0 := 29) (pc' := 33) rfl (hb hby at_29) (by decide) (by decide) ?_
        have ev_ties : ties = (1 : Int32) := by rw [hv_ties, if_neg q45]
        rw [ev_ties] at ktg
        exact ktg
      done)
    have pre47 : Rch p.tables e below (s₁.setTop (entryFrame m #[(.int p0), (.int p1), (.int p2)] maxLocals)) (s₁.setTop (mkF m 41 #[.val (.int p0), .val (.int p1), .val (.int p2), .val (.int g), .val (.int d), .val (.int ties), .unset, .unset, .unset, .unset, .unset, .unset, .unset, .unset] [(.long ((g.toInt64) - (d.toInt64)))])) := fun tgt ktg => pre46 tgt (by
      show Steps p.tables e below (s₁.setTop (mkF m 33 #[.val (.int p0), .val (.int p1), .val (.int p2), .val (.int g), .val (.int d), .unset, .unset, .unset, .unset, .unset, .unset, .unset, .unset, .unset] [(.int ties)])) _
      refine XS.istore X0.here hx rfl (hb hby at_33) rfl (l' := #[.val (.int p0), .val (.int p1), .val (.int p2), .val (.int g), .val (.int d), .val (.int ties), .unset, .unset, .unset, .unset, .unset, .unset, .unset, .unset]) rfl ?_
      show Steps p.tables e below (s₁.setTop (mkF m 35 #[.val (.int p0), .val (.int p1), .val (.int p2), .val (.int g), .val (.int d), .val (.int ties), .unset, .unset, .unset, .unset, .unset, .unset, .unset, .unset] [])) _
      refine XS.iloadN X0.here hx rfl (hb hby at_35) rfl ?_
      show Steps p.tables e below (s₁.setTop (mkF m 36 #[.val (.int p0), .val (.int p1), .val (.int p2), .val (.int g), .val (.int d), .val (.int ties), .unset, .unset, .unset, .unset, .unset, .unset, .unset, .unset] [(.int g)])) _
      refine XT.i2l X0.here hx rfl (hb hby at_36) rfl ?_
      show Steps p.tables e below (s₁.setTop (mkF m 37 #[.val (.int p0), .val (.int p1), .val (.int p2), .val (.int g), .val (.int d), .val (.int ties), .unset, .unset, .unset, .unset, .unset, .unset, .unset, .unset] [(.long (g.toInt64))])) _
      refine XS.iload X0.here hx rfl (hb hby at_37) rfl ?_
      show Steps p.tables e below (s₁.setTop (mkF m 39 #[.val (.int p0), .val (.int p1), .val (.int p2), .val (.int g), .val (.int d), .val (.int ties), .unset, .unset, .unset, .unset, .unset, .unset, .unset, .unset] [(.int d), (.long (g.toInt64))])) _
      refine XT.i2l X0.here hx rfl (hb hby at_39) rfl ?_
      show Steps p.tables e below (s₁.setTop (mkF m 40 #[.val (.int p0), .val (.int p1), .val (.int p2), .val (.int g), .val (.int d), .val (.int ties), .unset, .unset, .unset, .unset, .unset, .unset, .unset, .unset] [(.long (d.toInt64)), (.long (g.toInt64))])) _
      refine XT.lsub X0.here hx rfl (hb hby at_40) rfl ?_
      exact ktg)
    obtain ⟨df, hv_df⟩ : ∃ nm_ : Int64, nm_ = ((g.toInt64) - (d.toInt64)) := ⟨_, rfl⟩
    have pre48 : Rch p.tables e below (s₁.setTop (entryFrame m #[(.int p0), (.int p1), (.int p2)] maxLocals)) (s₁.setTop (mkF m 41 #[.val (.int p0), .val (.int p1), .val (.int p2), .val (.int g), .val (.int d), .val (.int ties), .unset, .unset, .unset, .unset, .unset, .unset, .unset, .unset] [(.long df)])) := fun tgt ktg => pre47 tgt (by rw [hv_df] at ktg; exact ktg)
    have pre49 : Rch p.tables e below (s₁.setTop (entryFrame m #[(.int p0), (.int p1), (.int p2)] maxLocals)) (s₁.setTop (mkF m 43 #[.val (.int p0), .val (.int p1), .val (.int p2), .val (.int g), .val (.int d), .val (.int ties), .val (.long df), .second, .unset, .unset, .unset, .unset, .unset, .unset] [])) := fun tgt ktg => pre48 tgt (by
      show Steps p.tables e below (s₁.setTop (mkF m 41 #[.val (.int p0), .val (.int p1), .val (.int p2), .val (.int g), .val (.int d), .val (.int ties), .unset, .unset, .unset, .unset, .unset, .unset, .unset, .unset] [(.long df)])) _
      refine XT.lstore X0.here hx rfl (hb hby at_41) rfl (l' := #[.val (.int p0), .val (.int p1), .val (.int p2), .val (.int g), .val (.int d), .val (.int ties), .val (.long df), .second, .unset, .unset, .unset, .unset, .unset, .unset]) rfl ?_
      exact ktg)
    obtain ⟨af, hv_af⟩ : ∃ nm_ : Int32, nm_ = (if g < (1 : Int32) then (0 : Int32) else (1 : Int32)) := ⟨_, rfl⟩
    have pre51 : Rch p.tables e below (s₁.setTop (entryFrame m #[(.int p0), (.int p1), (.int p2)] maxLocals)) (s₁.setTop (mkF m 53 #[.val (.int p0), .val (.int p1), .val (.int p2), .val (.int g), .val (.int d), .val (.int ties), .val (.long df), .second, .unset, .unset, .unset, .unset, .unset, .unset] [(.int af)])) := fun tgt ktg => pre49 tgt (by
      show Steps p.tables e below (s₁.setTop (mkF m 43 #[.val (.int p0), .val (.int p1), .val (.int p2), .val (.int g), .val (.int d), .val (.int ties), .val (.long df), .second, .unset, .unset, .unset, .unset, .unset, .unset] [])) _
      refine XS.iloadN X0.here hx rfl (hb hby at_43) rfl ?_
      show Steps p.tables e below (s₁.setTop (mkF m 44 #[.val (.int p0), .val (.int p1), .val (.int p2), .val (.int g), .val (.int d), .val (.int ties), .val (.long df), .second, .unset, .unset, .unset, .unset, .unset, .unset] [(.int g)])) _
      refine XS.iconst X0.here hx rfl (hb hby at_44) ?_
      by_cases q50 : g < (1 : Int32)
      · skip
        show Steps p.tables e below (s₁.setTop (mkF m 45 #[.val (.int p0), .val (.int p1), .val (.int p2), .val (.int g), .val (.int d), .val (.int ties), .val (.long df), .second, .unset, .unset, .unset, .unset, .unset, .unset] [(.int (1 : Int32)), (.int g)])) _
        refine XS.icmpYes X0.here hx rfl (pc0 := 45) (pc' := 52) rfl (hb hby at_45) rfl (tlt q50).1 (by decide) (by decide) ?_
        show Steps p.tables e below (s₁.setTop (mkF m 52 #[.val (.int p0), .val (.int p1), .val (.int p2), .val (.int g), .val (.int d), .val (.int ties), .val (.long df), .second, .unset, .unset, .unset, .unset, .unset, .unset] [])) _
        refine XS.iconst X0.here hx rfl (hb hby at_52) ?_
        have ev_af : af = (0 : Int32) := by rw [hv_af, if_pos q50]
        rw [ev_af] at ktg
        exact ktg
      · skip
        show Steps p.tables e below (s₁.setTop (mkF m 45 #[.val (.int p0), .val (.int p1), .val (.int p2), .val (.int g), .val (.int d), .val (.int ties), .val (.long df), .second, .unset, .unset, .unset, .unset, .unset, .unset] [(.int (1 : Int32)), (.int g)])) _
        refine XS.icmpNo X0.here hx rfl (hb hby at_45) rfl (flt q50).1 ?_
        show Steps p.tables e below (s₁.setTop (mkF m 48 #[.val (.int p0), .val (.int p1), .val (.int p2), .val (.int g), .val (.int d), .val (.int ties), .val (.long df), .second, .unset, .unset, .unset, .unset, .unset, .unset] [])) _
        refine XS.iconst X0.here hx rfl (hb hby at_48) ?_
        show Steps p.tables e below (s₁.setTop (mkF m 49 #[.val (.int p0), .val (.int p1), .val (.int p2), .val (.int g), .val (.int d), .val (.int ties), .val (.long df), .second, .unset, .unset, .unset, .unset, .unset, .unset] [(.int (1 : Int32))])) _
        refine XS.goto X0.here hx rfl (pc0 := 49) (pc' := 53) rfl (hb hby at_49) (by decide) (by decide) ?_
        have ev_af : af = (1 : Int32) := by rw [hv_af, if_neg q50]
        rw [ev_af] at ktg
        exact ktg
      done)
    have pre52 : Rch p.tables e below (s₁.setTop (entryFrame m #[(.int p0), (.int p1), (.int p2)] maxLocals)) (s₁.setTop (mkF m 55 #[.val (.int p0), .val (.int p1), .val (.int p2), .val (.int g), .val (.int d), .val (.int ties), .val (.long df), .second, .val (.int af), .unset, .unset, .unset, .unset, .unset] [])) := fun tgt ktg => pre51 tgt (by
      show Steps p.tables e below (s₁.setTop (mkF m 53 #[.val (.int p0), .val (.int p1), .val (.int p2), .val (.int g), .val (.int d), .val (.int ties), .val (.long df), .second, .unset, .unset, .unset, .unset, .unset, .unset] [(.int af)])) _
      refine XS.istore X0.here hx rfl (hb hby at_53) rfl (l' := #[.val (.int p0), .val (.int p1), .val (.int p2), .val (.int g), .val (.int d), .val (.int ties), .val (.long df), .second, .val (.int af), .unset, .unset, .unset, .unset, .unset]) rfl ?_
      exact ktg)
    obtain ⟨co, hv_co⟩ : ∃ nm_ : Int32, nm_ = (if (0 : Int32) < (XT.cmpL df (0 : Int64)) then (1 : Int32) else (if (XT.cmpL df (0 : Int64)) = (0 : Int32) then (if ties = (0 : Int32) then (0 : Int32) else (1 : Int32)) else (0 : Int32))) := ⟨_, rfl⟩
    have pre56 : Rch p.tables e below (s₁.setTop (entryFrame m #[(.int p0), (.int p1), (.int p2)] maxLocals)) (s₁.setTop (mkF m 79 #[.val (.int p0), .val (.int p1), .val (.int p2), .val (.int g), .val (.int d), .val (.int ties), .val (.long df), .second, .val (.int af), .unset, .unset, .unset, .unset, .unset] [(.int co)])) := fun tgt ktg => pre52 tgt (by
      show Steps p.tables e below (s₁.setTop (mkF m 55 #[.val (.int p0), .val (.int p1), .val (.int p2), .val (.int g), .val (.int d), .val (.int ties), .val (.long df), .second, .val (.int af), .unset, .unset, .unset, .unset, .unset] [])) _
      refine XT.lload X0.here hx rfl (hb hby at_55) rfl ?_
      show Steps p.tables e below (s₁.setTop (mkF m 57 #[.val (.int p0), .val (.int p1), .val (.int p2), .val (.int g), .val (.int d), .val (.int ties), .val (.long df), .second, .val (.int af), .unset, .unset, .unset, .unset, .unset] [(.long df)])) _
      refine XT.lconst X0.here hx rfl (hb hby at_57) ?_
      show Steps p.tables e below (s₁.setTop (mkF m 58 #[.val (.int p0), .val (.int p1), .val (.int p2), .val (.int g), .val (.int d), .val (.int ties), .val (.long df), .second, .val (.int af), .unset, .unset, .unset, .unset, .unset] [(.long (0 : Int64)), (.long df)])) _
      refine XT.lcmp X0.here hx rfl (hb hby at_58) rfl ?_
      by_cases q53 : (0 : Int32) < (XT.cmpL df (0 : Int64))
      · skip
        show Steps p.tables e below (s₁.setTop (mkF m 59 #[.val (.int p0), .val (.int p1), .val (.int p2), .val (.int g), .val (.int d), .val (.int ties), .val (.long df), .second, .val (.int af), .unset, .unset, .unset, .unset, .unset] [(.int (XT.cmpL df (0 : Int64)))])) _
        refine XS.ifYes X0.here hx rfl (pc0 := 59) (pc' := 74) rfl (hb hby at_59) rfl ((if0 _ _).trans (tlt q53).2.2.1) (by decide) (by decide) ?_
        show Steps p.tables e below (s₁.setTop (mkF m 74 #[.val (.int p0), .val (.int p1), .val (.int p2), .val (.int g), .val (.int d), .val (.int ties), .val (.long df), .second, .val (.int af), .unset, .unset, .unset, .unset, .unset] [])) _
        refine XS.iconst X0.here hx rfl (hb hby at_74) ?_
        show Steps p.tables e below (s₁.setTop (mkF m 75 #[.val (.int p0), .val (.int p1), .val (.int p2), .val (.int g), .val (.int d), .val (.int ties), .val (.long df), .second, .val (.int af), .unset, .unset, .unset, .unset, .unset] [(.int (1 : Int32))])) _
        refine XS.goto X0.here hx rfl (pc0 := 75) (pc' := 79) rfl (hb hby at_75) (by decide) (by decide) ?_
        have ev_co : co = (1 : Int32) := by rw [hv_co, if_pos q53]
        rw [ev_co] at ktg
        exact ktg
      · skip
        show Steps p.tables e below (s₁.setTop (mkF m 59 #[.val (.int p0), .val (.int p1), .val (.int p2), .val (.int g), .val (.int d), .val (.int ties), .val (.long df), .second, .val (.int af), .unset, .unset, .unset, .unset, .unset] [(.int (XT.cmpL df (0 : Int64)))])) _
        refine XS.ifNo X0.here hx rfl (hb hby at_59) rfl ((if0 _ _).trans (flt q53).2.2.1) ?_
        show Steps p.tables e below (s₁.setTop (mkF m 62 #[.val (.int p0), .val (.int p1), .val (.int p2), .val (.int g), .val (.int d), .val (.int ties), .val (.long df), .second, .val (.int af), .unset, .unset, .unset, .unset, .unset] [])) _
        refine XT.lload X0.here hx rfl (hb hby at_62) rfl ?_
        show Steps p.tables e below (s₁.setTop (mkF m 64 #[.val (.int p0), .val (.int p1), .val (.int p2), .val (.int g), .val (.int d), .val (.int ties), .val (.long df), .second, .val (.int af), .unset, .unset, .unset, .unset, .unset] [(.long df)])) _
        refine XT.lconst X0.here hx rfl (hb hby at_64) ?_
        show Steps p.tables e below (s₁.setTop (mkF m 65 #[.val (.int p0), .val (.int p1), .val (.int p2), .val (.int g), .val (.int d), .val (.int ties), .val (.long df), .second, .val (.int af), .unset, .unset, .unset, .unset, .unset] [(.long (0 : Int64)), (.long df)])) _
        refine XT.lcmp X0.here hx rfl (hb hby at_65) rfl ?_
        by_cases q54 : (XT.cmpL df (0 : Int64)) = (0 : Int32)
        · skip
          show Steps p.tables e below (s₁.setTop (mkF m 66 #[.val (.int p0), .val (.int p1), .val (.int p2), .val (.int g), .val (.int d), .val (.int ties), .val (.long df), .second, .val (.int af), .unset, .unset, .unset, .unset, .unset] [(.int (XT.cmpL df (0 : Int64)))])) _
          refine XS.ifNo X0.here hx rfl (hb hby at_66) rfl ((if0 _ _).trans (teq q54).2) ?_
          show Steps p.tables e below (s₁.setTop (mkF m 69 #[.val (.int p0), .val (.int p1), .val (.int p2), .val (.int g), .val (.int d), .val (.int ties), .val (.long df), .second, .val (.int af), .unset, .unset, .unset, .unset, .unset] [])) _
          refine XS.iload X0.here hx rfl (hb hby at_69) rfl ?_
          by_cases q55 : ties = (0 : Int32)
          · skip
            show Steps p.tables e below (s₁.setTop (mkF m 71 #[.val (.int p0), .val (.int p1), .val (.int p2), .val (.int g), .val (.int d), .val (.int ties), .val (.long df), .second, .val (.int af), .unset, .unset, .unset, .unset, .unset] [(.int ties)])) _
            refine XS.ifYes X0.here hx rfl (pc0 := 71) (pc' := 78) rfl (hb hby at_71) rfl ((if0 _ _).trans (teq q55).1) (by decide) (by decide) ?_
            show Steps p.tables e below (s₁.setTop (mkF m 78 #[.val (.int p0), .val (.int p1), .val (.int p2), .val (.int g), .val (.int d), .val (.int ties), .val (.long df), .second, .val (.int af), .unset, .unset, .unset, .unset, .unset] [])) _
            refine XS.iconst X0.here hx rfl (hb hby at_78) ?_
            have ev_co : co = (0 : Int32) := by rw [hv_co, if_neg q53, if_pos q54, if_pos q55]
            rw [ev_co] at ktg
            exact ktg
          · skip
            show Steps p.tables e below (s₁.setTop (mkF m 71 #[.val (.int p0), .val (.int p1), .val (.int p2), .val (.int g), .val (.int d), .val (.int ties), .val (.long df), .second, .val (.int af), .unset, .unset, .unset, .unset, .unset] [(.int ties)])) _
            refine XS.ifNo X0.here hx rfl (hb hby at_71) rfl ((if0 _ _).trans (feq q55).1) ?_
            show Steps p.tables e below (s₁.setTop (mkF m 74 #[.val (.int p0), .val (.int p1), .val (.int p2), .val (.int g), .val (.int d), .val (.int ties), .val (.long df), .second, .val (.int af), .unset, .unset, .unset, .unset, .unset] [])) _
            refine XS.iconst X0.here hx rfl (hb hby at_74) ?_
            show Steps p.tables e below (s₁.setTop (mkF m 75 #[.val (.int p0), .val (.int p1), .val (.int p2), .val (.int g), .val (.int d), .val (.int ties), .val (.long df), .second, .val (.int af), .unset, .unset, .unset, .unset, .unset] [(.int (1 : Int32))])) _
            refine XS.goto X0.here hx rfl (pc0 := 75) (pc' := 79) rfl (hb hby at_75) (by decide) (by decide) ?_
            have ev_co : co = (1 : Int32) := by rw [hv_co, if_neg q53, if_pos q54, if_neg q55]
            rw [ev_co] at ktg
            exact ktg
        · skip
          show Steps p.tables e below (s₁.setTop (mkF m 66 #[.val (.int p0), .val (.int p1), .val (.int p2), .val (.int g), .val (.int d), .val (.int ties), .val (.long df), .second, .val (.int af), .unset, .unset, .unset, .unset, .unset] [(.int (XT.cmpL df (0 : Int64)))])) _
          refine XS.ifYes X0.here hx rfl (pc0 := 66) (pc' := 78) rfl (hb hby at_66) rfl ((if0 _ _).trans (feq q54).2) (by decide) (by decide) ?_
          show Steps p.tables e below (s₁.setTop (mkF m 78 #[.val (.int p0), .val (.int p1), .val (.int p2), .val (.int g), .val (.int d), .val (.int ties), .val (.long df), .second, .val (.int af), .unset, .unset, .unset, .unset, .unset] [])) _
          refine XS.iconst X0.here hx rfl (hb hby at_78) ?_
          have ev_co : co = (0 : Int32) := by rw [hv_co, if_neg q53, if_neg q54]
          rw [ev_co] at ktg
          exact ktg
      done)
    have pre57 : Rch p.tables e below (s₁.setTop (entryFrame m #[(.int p0), (.int p1), (.int p2)] maxLocals)) (s₁.setTop (mkF m 81 #[.val (.int p0), .val (.int p1), .val (.int p2), .val (.int g), .val (.int d), .val (.int ties), .val (.long df), .second, .val (.int af), .val (.int co), .unset, .unset, .unset, .unset] [])) := fun tgt ktg => pre56 tgt (by
      show Steps p.tables e below (s₁.setTop (mkF m 79 #[.val (.int p0), .val (.int p1), .val (.int p2), .val (.int g), .val (.int d), .val (.int ties), .val (.long df), .second, .val (.int af), .unset, .unset, .unset, .unset, .unset] [(.int co)])) _
      refine XS.istore X0.here hx rfl (hb hby at_79) rfl (l' := #[.val (.int p0), .val (.int p1), .val (.int p2), .val (.int g), .val (.int d), .val (.int ties), .val (.long df), .second, .val (.int af), .val (.int co), .unset, .unset, .unset, .unset]) rfl ?_
      exact ktg)
    obtain ⟨un, hv_un⟩ : ∃ nm_ : Int32, nm_ = (if d < (1 : Int32) then (1 : Int32) else (0 : Int32)) := ⟨_, rfl⟩
    have pre59 : Rch p.tables e below (s₁.setTop (entryFrame m #[(.int p0), (.int p1), (.int p2)] maxLocals)) (s₁.setTop (mkF m 92 #[.val (.int p0), .val (.int p1), .val (.int p2), .val (.int g), .val (.int d), .val (.int ties), .val (.long df), .second, .val (.int af), .val (.int co), .unset, .unset, .unset, .unset] [(.int un)])) := fun tgt ktg => pre57 tgt (by
      show Steps p.tables e below (s₁.setTop (mkF m 81 #[.val (.int p0), .val (.int p1), .val (.int p2), .val (.int g), .val (.int d), .val (.int ties), .val (.long df), .second, .val (.int af), .val (.int co), .unset, .unset, .unset, .unset] [])) _
      refine XS.iload X0.here hx rfl (hb hby at_81) rfl ?_
      show Steps p.tables e below (s₁.setTop (mkF m 83 #[.val (.int p0), .val (.int p1), .val (.int p2), .val (.int g), .val (.int d), .val (.int ties), .val (.long df), .second, .val (.int af), .val (.int co), .unset, .unset, .unset, .unset] [(.int d)])) _
      refine XS.iconst X0.here hx rfl (hb hby at_83) ?_
      by_cases q58 : d < (1 : Int32)
      · skip
        show Steps p.tables e below (s₁.setTop (mkF m 84 #[.val (.int p0), .val (.int p1), .val (.int p2), .val (.int g), .val (.int d), .val (.int ties), .val (.long df), .second, .val (.int af), .val (.int co), .unset, .unset, .unset, .unset] [(.int (1 : Int32)), (.int d)])) _
        refine XS.icmpNo X0.here hx rfl (hb hby at_84) rfl (tlt q58).2.1 ?_
        show Steps p.tables e below (s₁.setTop (mkF m 87 #[.val (.int p0), .val (.int p1), .val (.int p2), .val (.int g), .val (.int d), .val (.int ties), .val (.long df), .second, .val (.int af), .val (.int co), .unset, .unset, .unset, .unset] [])) _
        refine XS.iconst X0.here hx rfl (hb hby at_87) ?_
        show Steps p.tables e below (s₁.setTop (mkF m 88 #[.val (.int p0), .val (.int p1), .val (.int p2), .val (.int g), .val (.int d), .val (.int ties), .val (.long df), .second, .val (.int af), .val (.int co), .unset, .unset, .unset, .unset] [(.int (1 : Int32))])) _
        refine XS.goto X0.here hx rfl (pc0 := 88) (pc' := 92) rfl (hb hby at_88) (by decide) (by decide) ?_
        have ev_un : un = (1 : Int32) := by rw [hv_un, if_pos q58]
        rw [ev_un] at ktg
        exact ktg
      · skip
        show Steps p.tables e below (s₁.setTop (mkF m 84 #[.val (.int p0), .val (.int p1), .val (.int p2), .val (.int g), .val (.int d), .val (.int ties), .val (.long df), .second, .val (.int af), .val (.int co), .unset, .unset, .unset, .unset] [(.int (1 : Int32)), (.int d)])) _
        refine XS.icmpYes X0.here hx rfl (pc0 := 84) (pc' := 91) rfl (hb hby at_84) rfl (flt q58).2.1 (by decide) (by decide) ?_
        show Steps p.tables e below (s₁.setTop (mkF m 91 #[.val (.int p0), .val (.int p1), .val (.int p2), .val (.int g), .val (.int d), .val (.int ties), .val (.long df), .second, .val (.int af), .val (.int co), .unset, .unset, .unset, .unset] [])) _
        refine XS.iconst X0.here hx rfl (hb hby at_91) ?_
        have ev_un : un = (0 : Int32) := by rw [hv_un, if_neg q58]
        rw [ev_un] at ktg
        exact ktg
      done)
    have pre60 : Rch p.tables e below (s₁.setTop (entryFrame m #[(.int p0), (.int p1), (.int p2)] maxLocals)) (s₁.setTop (mkF m 94 #[.val (.int p0), .val (.int p1), .val (.int p2), .val (.int g), .val (.int d), .val (.int ties), .val (.long df), .second, .val (.int af), .val (.int co), .val (.int un), .unset, .unset, .unset] [])) := fun tgt ktg => pre59 tgt (by
      show Steps p.tables e below (s₁.setTop (mkF m 92 #[.val (.int p0), .val (.int p1), .val (.int p2), .val (.int g), .val (.int d), .val (.int ties), .val (.long df), .second, .val (.int af), .val (.int co), .unset, .unset, .unset, .unset] [(.int un)])) _
      refine XS.istore X0.here hx rfl (hb hby at_92) rfl (l' := #[.val (.int p0), .val (.int p1), .val (.int p2), .val (.int g), .val (.int d), .val (.int ties), .val (.long df), .second, .val (.int af), .val (.int co), .val (.int un), .unset, .unset, .unset]) rfl ?_
      exact ktg)
    obtain ⟨T61, X61, e61, st61⟩ := getS2 X0 hx hZ hown (host := "") (Or.inl (hw _ (List.mem_of_getElem? (i := 1) rfl))) Via.refl e0 S0 (g := (mkF m 94 #[.val (.int p0), .val (.int p1), .val (.int p2), .val (.int g), .val (.int d), .val (.int ties), .val (.long df), .second, .val (.int af), .val (.int co), .val (.int un), .unset, .unset, .unset] [])) rfl (hb hby at_94)
    have pre61 : Rch p.tables e below (s₁.setTop (entryFrame m #[(.int p0), (.int p1), (.int p2)] maxLocals)) (T61.setTop (mkF m 97 #[.val (.int p0), .val (.int p1), .val (.int p2), .val (.int g), .val (.int d), .val (.int ties), .val (.long df), .second, .val (.int af), .val (.int co), .val (.int un), .unset, .unset, .unset] [(.ref w0)])) := fun tgt ktg => pre60 tgt (st61 tgt ktg)
    have pre62 : Rch p.tables e below (s₁.setTop (entryFrame m #[(.int p0), (.int p1), (.int p2)] maxLocals)) (T61.setTop (mkF m 102 #[.val (.int p0), .val (.int p1), .val (.int p2), .val (.int g), .val (.int d), .val (.int ties), .val (.long df), .second, .val (.int af), .val (.int co), .val (.int un), .unset, .unset, .unset] [(.int ties), (.int d), (.int g), (.ref w0)])) := fun tgt ktg => pre61 tgt (by
      show Steps p.tables e below (T61.setTop (mkF m 97 #[.val (.int p0), .val (.int p1), .val (.int p2), .val (.int g), .val (.int d), .val (.int ties), .val (.long df), .second, .val (.int af), .val (.int co), .val (.int un), .unset, .unset, .unset] [(.ref w0)])) _
      refine XS.iloadN X61.here hx rfl (hb hby at_97) rfl ?_
      show Steps p.tables e below (T61.setTop (mkF m 98 #[.val (.int p0), .val (.int p1), .val (.int p2), .val (.int g), .val (.int d), .val (.int ties), .val (.long df), .second, .val (.int af), .val (.int co), .val (.int un), .unset, .unset, .unset] [(.int g), (.ref w0)])) _
      refine XS.iload X61.here hx rfl (hb hby at_98) rfl ?_
      show Steps p.tables e below (T61.setTop (mkF m 100 #[.val (.int p0), .val (.int p1), .val (.int p2), .val (.int g), .val (.int d), .val (.int ties), .val (.long df), .second, .val (.int af), .val (.int co), .val (.int un), .unset, .unset, .unset] [(.int d), (.int g), (.ref w0)])) _
      refine XS.iload X61.here hx rfl (hb hby at_100) rfl ?_
      exact ktg)
    obtain ⟨cq63, kq63, q63a, q63b, q63c⟩ := isOf hZ e61 E0
    obtain ⟨_, _, ⟨T63, L63, k63, n63⟩, -, X63, ⟨Lc63, hQ63, l63, y63, z63⟩, st63⟩ := X61.virtualBack hx (y := (⟨"com/example/velvet_rope/velvetrope/DecisionStrategy", "grants", "(IIZ)Z"⟩ : MethodName)) (z := (⟨"com/example/velvet_rope/velvetrope/DecisionStrategy", "grants", "(IIZ)Z"⟩ : MethodName)) hown (mvT hZ (hw _ (List.mem_of_getElem? (i := 4) rfl))) (mvT hZ (hw _ (List.mem_of_getElem? (i := 5) rfl))) (notFace_of_selects (args := #[]) (mvT hZ (hw _ (List.mem_of_getElem? (i := 7) rfl)))) (mvT hZ (hw _ (List.mem_of_getElem? (i := 7) rfl))) (mvT hZ (hw _ (List.mem_of_getElem? (i := 6) rfl))) (by decide) (backOf (W := 0) (rmG0 l Z a0 hw [] w0 g d ties h0 n0 Z0 E0 F0) hZ (hw _ (List.mem_of_getElem? (i := 8) rfl)) (hw _ (List.mem_of_getElem? (i := 2) rfl)) (by decide) (by decide)) q63a q63c (g := (mkF m 102 #[.val (.int p0), .val (.int p1), .val (.int p2), .val (.int g), .val (.int d), .val (.int ties), .val (.long df), .second, .val (.int af), .val (.int co), .val (.int un), .unset, .unset, .unset] [(.int ties), (.int d), (.int g), (.ref w0)])) rfl (by rw [hml]; rfl) (Steps.refl _) (argsL := [(.int g), (.int d), (.int ties)]) (rest := []) (lenOf pd_1 rfl) rfl (by show 2 * 0 + _ ≤ _; exact Nat.le_of_eq rfl) (hb hby at_102) (fun _ _ => ⟨rfl, e61, (by decide : 0 + 0 ≤ _), (by decide : 0 + 0 ≤ _)⟩)
    dsimp only [Pt.U, Pt.locs, Pt.cells, Pt.slots] at X63 l63 y63 z63 st63 hQ63
    subst l63 y63 z63
    obtain ⟨rfl, Nq63, eh63⟩ := hQ63
    have N64 := Fr.app N0 Nq63
    have pre63 : Rch p.tables e below (s₁.setTop (entryFrame m #[(.int p0), (.int p1), (.int p2)] maxLocals)) (T63.setTop (mkF m 105 #[.val (.int p0), .val (.int p1), .val (.int p2), .val (.int g), .val (.int d), .val (.int ties), .val (.long df), .second, .val (.int af), .val (.int co), .val (.int un), .unset, .unset, .unset] [(.int (gr 0 g d ties))])) := fun tgt ktg => pre62 tgt (st63.trans ktg)
    have pre65 : Rch p.tables e below (s₁.setTop (entryFrame m #[(.int p0), (.int p1), (.int p2)] maxLocals)) (T63.setTop (mkF m 107 #[.val (.int p0), .val (.int p1), .val (.int p2), .val (.int g), .val (.int d), .val (.int ties), .val (.long df), .second, .val (.int af), .val (.int co), .val (.int un), .val (.int (gr 0 g d ties)), .unset, .unset] [])) := fun tgt ktg => pre63 tgt (by
      show Steps p.tables e below (T63.setTop (mkF m 105 #[.val (.int p0), .val (.int p1), .val (.int p2), .val (.int g), .val (.int d), .val (.int ties), .val (.long df), .second, .val (.int af), .val (.int co), .val (.int un), .unset, .unset, .unset] [(.int (gr 0 g d ties))])) _
      refine XS.istore X63.here hx rfl (hb hby at_105) rfl (l' := #[.val (.int p0), .val (.int p1), .val (.int p2), .val (.int g), .val (.int d), .val (.int ties), .val (.long df), .second, .val (.int af), .val (.int co), .val (.int un), .val (.int (gr 0 g d ties)), .unset, .unset]) rfl ?_
      exact ktg)
    obtain ⟨T66, X66, e66, st66⟩ := getS2 X63 hx hZ hown (host := "") (Or.inl (hw _ (List.mem_of_getElem? (i := 18) rfl))) Via.refl eh63 S1 (g := (mkF m 107 #[.val (.int p0), .val (.int p1), .val (.int p2), .val (.int g), .val (.int d), .val (.int ties), .val (.long df), .second, .val (.int af), .val (.int co), .val (.int un), .val (.int (gr 0 g d ties)), .unset, .unset] [])) rfl (hb hby at_107)
    have pre66 : Rch p.tables e below (s₁.setTop (entryFrame m #[(.int p0), (.int p1), (.int p2)] maxLocals)) (T66.setTop (mkF m 110 #[.val (.int p0), .val (.int p1), .val (.int p2), .val (.int g), .val (.int d), .val (.int ties), .val (.long df), .second, .val (.int af), .val (.int co), .val (.int un), .val (.int (gr 0 g d ties)), .unset, .unset] [(.ref w1)])) := fun tgt ktg => pre65 tgt (st66 tgt ktg)
    have pre67 : Rch p.tables e below (s₁.setTop (entryFrame m #[(.int p0), (.int p1), (.int p2)] maxLocals)) (T66.setTop (mkF m 115 #[.val (.int p0), .val (.int p1), .val (.int p2), .val (.int g), .val (.int d), .val (.int ties), .val (.long df), .second, .val (.int af), .val (.int co), .val (.int un), .val (.int (gr 0 g d ties)), .unset, .unset] [(.int ties), (.int d), (.int g), (.ref w1)])) := fun tgt ktg => pre66 tgt (by
      show Steps p.tables e below (T66.setTop (mkF m 110 #[.val (.int p0), .val (.int p1), .val (.int p2), .val (.int g), .val (.int d), .val (.int ties), .val (.long df), .second, .val (.int af), .val (.int co), .val (.int un), .val (.int (gr 0 g d ties)), .unset, .unset] [(.ref w1)])) _
      refine XS.iloadN X66.here hx rfl (hb hby at_110) rfl ?_
      show Steps p.tables e below (T66.setTop (mkF m 111 #[.val (.int p0), .val (.int p1), .val (.int p2), .val (.int g), .val (.int d), .val (.int ties), .val (.long df), .second, .val (.int af), .val (.int co), .val (.int un), .val (.int (gr 0 g d ties)), .unset, .unset] [(.int g), (.ref w1)])) _
      refine XS.iload X66.here hx rfl (hb hby at_111) rfl ?_
      show Steps p.tables e below (T66.setTop (mkF m 113 #[.val (.int p0), .val (.int p1), .val (.int p2), .val (.int g), .val (.int d), .val (.int ties), .val (.long df), .second, .val (.int af), .val (.int co), .val (.int un), .val (.int (gr 0 g d ties)), .unset, .unset] [(.int d), (.int g), (.ref w1)])) _
      refine XS.iload X66.here hx rfl (hb hby at_113) rfl ?_
      exact ktg)
    obtain ⟨cq68, kq68, q68a, q68b, q68c⟩ := isOf hZ e66 E1
    obtain ⟨_, _, ⟨T68, L68, k68, n68⟩, -, X68, ⟨Lc68, hQ68, l68, y68, z68⟩, st68⟩ := X66.virtualBack hx (y := (⟨"com/example/velvet_rope/velvetrope/DecisionStrategy", "grants", "(IIZ)Z"⟩ : MethodName)) (z := (⟨"com/example/velvet_rope/velvetrope/DecisionStrategy", "grants", "(IIZ)Z"⟩ : MethodName)) hown (mvT hZ (hw _ (List.mem_of_getElem? (i := 4) rfl))) (mvT hZ (hw _ (List.mem_of_getElem? (i := 5) rfl))) (notFace_of_selects (args := #[]) (mvT hZ (hw _ (List.mem_of_getElem? (i := 7) rfl)))) (mvT hZ (hw _ (List.mem_of_getElem? (i := 7) rfl))) (mvT hZ (hw _ (List.mem_of_getElem? (i := 6) rfl))) (by decide) (backOf (W := 0) (rmG1 l Z a0 hw [] w1 g d ties h0 n0 Z0 E1 F1) hZ (hw _ (List.mem_of_getElem? (i := 8) rfl)) (hw _ (List.mem_of_getElem? (i := 2) rfl)) (by decide) (by decide)) q68a q68c (g := (mkF m 115 #[.val (.int p0), .val (.int p1), .val (.int p2), .val (.int g), .val (.int d), .val (.int ties), .val (.long df), .second, .val (.int af), .val (.int co), .val (.int un), .val (.int (gr 0 g d ties)), .unset, .unset] [(.int ties), (.int d), (.int g), (.ref w1)])) rfl (by rw [hml]; rfl) (Steps.refl _) (argsL := [(.int g), (.int d), (.int ties)]) (rest := []) (lenOf pd_1 rfl) rfl (by show 2 * 0 + _ ≤ _; exact Nat.le_of_eq rfl) (hb hby at_115) (fun _ _ => ⟨rfl, e66, (by decide : 0 + 0 ≤ _), (by decide : 0 + 0 ≤ _)⟩)
    dsimp only [Pt.U, Pt.locs, Pt.cells, Pt.slots] at X68 l68 y68 z68 st68 hQ68
    subst l68 y68 z68
    obtain ⟨rfl, Nq68, eh68⟩ := hQ68
    have N69 := Fr.app N64 Nq68
    have pre68 : Rch p.tables e below (s₁.setTop (entryFrame m #[(.int p0), (.int p1), (.int p2)] maxLocals)) (T68.setTop (mkF m 118 #[.val (.int p0), .val (.int p1), .val (.int p2), .val (.int g), .val (.int d), .val (.int ties), .val (.long df), .second, .val (.int af), .val (.int co), .val (.int un), .val (.int (gr 0 g d ties)), .unset, .unset] [(.int (gr 1 g d ties))])) := fun tgt ktg => pre67 tgt (st68.trans ktg)
    have pre70 : Rch p.tables e below (s₁.setTop (entryFrame m #[(.int p0), (.int p1), (.int p2)] maxLocals)) (T68.setTop (mkF m 120 #[.val (.int p0), .val (.int p1), .val (.int p2), .val (.int g), .val (.int d), .val (.int ties), .val (.long df), .second, .val (.int af), .val (.int co), .val (.int un), .val (.int (gr 0 g d ties)), .val (.int (gr 1 g d ties)), .unset] [])) := fun tgt ktg => pre68 tgt (by
      show Steps p.tables e below (T68.setTop (mkF m 118 #[.val (.int p0), .val (.int p1), .val (.int p2), .val (.int g), .val (.int d), .val (.int ties), .val (.long df), .second, .val (.int af), .val (.int co), .val (.int un), .val (.int (gr 0 g d ties)), .unset, .unset] [(.int (gr 1 g d ties))])) _
      refine XS.istore X68.here hx rfl (hb hby at_118) rfl (l' := #[.val (.int p0), .val (.int p1), .val (.int p2), .val (.int g), .val (.int d), .val (.int ties), .val (.long df), .second, .val (.int af), .val (.int co), .val (.int un), .val (.int (gr 0 g d ties)), .val (.int (gr 1 g d ties)), .unset]) rfl ?_
      exact ktg)
    obtain ⟨T71, X71, e71, st71⟩ := getS2 X68 hx hZ hown (host := "") (Or.inl (hw _ (List.mem_of_getElem? (i := 20) rfl))) Via.refl eh68 S2 (g := (mkF m 120 #[.val (.int p0), .val (.int p1), .val (.int p2), .val (.int g), .val (.int d), .val (.int ties), .val (.long df), .second, .val (.int af), .val (.int co), .val (.int un), .val (.int (gr 0 g d ties)), .val (.int (gr 1 g d ties)), .unset] [])) rfl (hb hby at_120)
    have pre71 : Rch p.tables e below (s₁.setTop (entryFrame m #[(.int p0), (.int p1), (.int p2)] maxLocals)) (T71.setTop (mkF m 123 #[.val (.int p0), .val (.int p1), .val (.int p2), .val (.int g), .val (.int d), .val (.int ties), .val (.long df), .second, .val (.int af), .val (.int co), .val (.int un), .val (.int (gr 0 g d ties)), .val (.int (gr 1 g d ties)), .unset] [(.ref w2)])) := fun tgt ktg => pre70 tgt (st71 tgt ktg)
    have pre72 : Rch p.tables e below (s₁.setTop (entryFrame m #[(.int p0), (.int p1), (.int p2)] maxLocals)) (T71.setTop (mkF m 128 #[.val (.int p0), .val (.int p1), .val (.int p2), .val (.int g), .val (.int d), .val (.int ties), .val (.long df), .second, .val (.int af), .val (.int co), .val (.int un), .val (.int (gr 0 g d ties)), .val (.int (gr 1 g d ties)), .unset] [(.int ties), (.int d), (.int g), (.ref w2)])) := fun tgt ktg => pre71 tgt (by
      show Steps p.tables e below (T71.setTop (mkF m 123 #[.val (.int p0), .val (.int p1), .val (.int p2), .val (.int g), .val (.int d), .val (.int ties), .val (.long df), .second, .val (.int af), .val (.int co), .val (.int un), .val (.int (gr 0 g d ties)), .val (.int (gr 1 g d ties)), .unset] [(.ref w2)])) _
      refine XS.iloadN X71.here hx rfl (hb hby at_123) rfl ?_
      show Steps p.tables e below (T71.setTop (mkF m 124 #[.val (.int p0), .val (.int p1), .val (.int p2), .val (.int g), .val (.int d), .val (.int ties), .val (.long df), .second, .val (.int af), .val (.int co), .val (.int un), .val (.int (gr 0 g d ties)), .val (.int (gr 1 g d ties)), .unset] [(.int g), (.ref w2)])) _
      refine XS.iload X71.here hx rfl (hb hby at_124) rfl ?_
      show Steps p.tables e below (T71.setTop (mkF m 126 #[.val (.int p0), .val (.int p1), .val (.int p2), .val (.int g), .val (.int d), .val (.int ties), .val (.long df), .second, .val (.int af), .val (.int co), .val (.int un), .val (.int (gr 0 g d ties)), .val (.int (gr 1 g d ties)), .unset] [(.int d), (.int g), (.ref w2)])) _
      refine XS.iload X71.here hx rfl (hb hby at_126) rfl ?_
      exact ktg)
    obtain ⟨cq73, kq73, q73a, q73b, q73c⟩ := isOf hZ e71 E2
    obtain ⟨_, _, ⟨T73, L73, k73, n73⟩, -, X73, ⟨Lc73, hQ73, l73, y73, z73⟩, st73⟩ := X71.virtualBack hx (y := (⟨"com/example/velvet_rope/velvetrope/DecisionStrategy", "grants", "(IIZ)Z"⟩ : MethodName)) (z := (⟨"com/example/velvet_rope/velvetrope/DecisionStrategy", "grants", "(IIZ)Z"⟩ : MethodName)) hown (mvT hZ (hw _ (List.mem_of_getElem? (i := 4) rfl))) (mvT hZ (hw _ (List.mem_of_getElem? (i := 5) rfl))) (notFace_of_selects (args := #[]) (mvT hZ (hw _ (List.mem_of_getElem? (i := 7) rfl)))) (mvT hZ (hw _ (List.mem_of_getElem? (i := 7) rfl))) (mvT hZ (hw _ (List.mem_of_getElem? (i := 6) rfl))) (by decide) (backOf (W := 0) (rmG2 l Z a0 hw [] w2 g d ties h0 n0 Z0 E2 F2) hZ (hw _ (List.mem_of_getElem? (i := 8) rfl)) (hw _ (List.mem_of_getElem? (i := 2) rfl)) (by decide) (by decide)) q73a q73c (g := (mkF m 128 #[.val (.int p0), .val (.int p1), .val (.int p2), .val (.int g), .val (.int d), .val (.int ties), .val (.long df), .second, .val (.int af), .val (.int co), .val (.int un), .val (.int (gr 0 g d ties)), .val (.int (gr 1 g d ties)), .unset] [(.int ties), (.int d), (.int g), (.ref w2)])) rfl (by rw [hml]; rfl) (Steps.refl _) (argsL := [(.int g), (.int d), (.int ties)]) (rest := []) (lenOf pd_1 rfl) rfl (by show 2 * 0 + _ ≤ _; exact Nat.le_of_eq rfl) (hb hby at_128) (fun _ _ => ⟨rfl, e71, (by decide : 0 + 0 ≤ _), (by decide : 0 + 0 ≤ _)⟩)
    dsimp only [Pt.U, Pt.locs, Pt.cells, Pt.slots] at X73 l73 y73 z73 st73 hQ73
    subst l73 y73 z73
    obtain ⟨rfl, Nq73, eh73⟩ := hQ73
    have N74 := Fr.app N69 Nq73
    have pre73 : Rch p.tables e below (s₁.setTop (entryFrame m #[(.int p0), (.int p1), (.int p2)] maxLocals)) (T73.setTop (mkF m 131 #[.val (.int p0), .val (.int p1), .val (.int p2), .val (.int g), .val (.int d), .val (.int ties), .val (.long df), .second, .val (.int af), .val (.int co), .val (.int un), .val (.int (gr 0 g d ties)), .val (.int (gr 1 g d ties)), .unset] [(.int (gr 2 g d ties))])) := fun tgt ktg => pre72 tgt (st73.trans ktg)
    have pre75 : Rch p.tables e below (s₁.setTop (entryFrame m #[(.int p0), (.int p1), (.int p2)] maxLocals)) (T73.setTop (mkF m 159 #[.val (.int p0), .val (.int p1), .val (.int p2), .val (.int g), .val (.int d), .val (.int ties), .val (.long df), .second, .val (.int af), .val (.int co), .val (.int un), .val (.int (gr 0 g d ties)), .val (.int (gr 1 g d ties)), .val (.int (gr 2 g d ties))] [(.int (1 : Int32))])) := fun tgt ktg => pre73 tgt (by
      show Steps p.tables e below (T73.setTop (mkF m 131 #[.val (.int p0), .val (.int p1), .val (.int p2), .val (.int g), .val (.int d), .val (.int ties), .val (.long df), .second, .val (.int af), .val (.int co), .val (.int un), .val (.int (gr 0 g d ties)), .val (.int (gr 1 g d ties)), .unset] [(.int (gr 2 g d ties))])) _
      refine XS.istore X73.here hx rfl (hb hby at_131) rfl (l' := #[.val (.int p0), .val (.int p1), .val (.int p2), .val (.int g), .val (.int d), .val (.int ties), .val (.long df), .second, .val (.int af), .val (.int co), .val (.int un), .val (.int (gr 0 g d ties)), .val (.int (gr 1 g d ties)), .val (.int (gr 2 g d ties))]) rfl ?_
      show Steps p.tables e below (T73.setTop (mkF m 133 #[.val (.int p0), .val (.int p1), .val (.int p2), .val (.int g), .val (.int d), .val (.int ties), .val (.long df), .second, .val (.int af), .val (.int co), .val (.int un), .val (.int (gr 0 g d ties)), .val (.int (gr 1 g d ties)), .val (.int (gr 2 g d ties))] [])) _
      refine XS.iload X73.here hx rfl (hb hby at_133) rfl ?_
      show Steps p.tables e below (T73.setTop (mkF m 135 #[.val (.int p0), .val (.int p1), .val (.int p2), .val (.int g), .val (.int d), .val (.int ties), .val (.long df), .second, .val (.int af), .val (.int co), .val (.int un), .val (.int (gr 0 g d ties)), .val (.int (gr 1 g d ties)), .val (.int (gr 2 g d ties))] [(.int (gr 0 g d ties))])) _
      refine XS.iload X73.here hx rfl (hb hby at_135) rfl ?_
      show Steps p.tables e below (T73.setTop (mkF m 137 #[.val (.int p0), .val (.int p1), .val (.int p2), .val (.int g), .val (.int d), .val (.int ties), .val (.long df), .second, .val (.int af), .val (.int co), .val (.int un), .val (.int (gr 0 g d ties)), .val (.int (gr 1 g d ties)), .val (.int (gr 2 g d ties))] [(.int af), (.int (gr 0 g d ties))])) _
      refine XS.icmpNo X73.here hx rfl (hb hby at_137) rfl (teq (own_a g d ties af hv_af)).2 ?_
      show Steps p.tables e below (T73.setTop (mkF m 140 #[.val (.int p0), .val (.int p1), .val (.int p2), .val (.int g), .val (.int d), .val (.int ties), .val (.long df), .second, .val (.int af), .val (.int co), .val (.int un), .val (.int (gr 0 g d ties)), .val (.int (gr 1 g d ties)), .val (.int (gr 2 g d ties))] [])) _
      refine XS.iload X73.here hx rfl (hb hby at_140) rfl ?_
      show Steps p.tables e below (T73.setTop (mkF m 142 #[.val (.int p0), .val (.int p1), .val (.int p2), .val (.int g), .val (.int d), .val (.int ties), .val (.long df), .second, .val (.int af), .val (.int co), .val (.int un), .val (.int (gr 0 g d ties)), .val (.int (gr 1 g d ties)), .val (.int (gr 2 g d ties))] [(.int (gr 1 g d ties))])) _
      refine XS.iload X73.here hx rfl (hb hby at_142) rfl ?_
      show Steps p.tables e below (T73.setTop (mkF m 144 #[.val (.int p0), .val (.int p1), .val (.int p2), .val (.int g), .val (.int d), .val (.int ties), .val (.long df), .second, .val (.int af), .val (.int co), .val (.int un), .val (.int (gr 0 g d ties)), .val (.int (gr 1 g d ties)), .val (.int (gr 2 g d ties))] [(.int co), (.int (gr 1 g d ties))])) _
      refine XS.icmpNo X73.here hx rfl (hb hby at_144) rfl (teq (own_c g d ties df co hv_df hv_co)).2 ?_
      show Steps p.tables e below (T73.setTop (mkF m 147 #[.val (.int p0), .val (.int p1), .val (.int p2), .val (.int g), .val (.int d), .val (.int ties), .val (.long df), .second, .val (.int af), .val (.int co), .val (.int un), .val (.int (gr 0 g d ties)), .val (.int (gr 1 g d ties)), .val (.int (gr 2 g d ties))] [])) _
      refine XS.iload X73.here hx rfl (hb hby at_147) rfl ?_
      show Steps p.tables e below (T73.setTop (mkF m 149 #[.val (.int p0), .val (.int p1), .val (.int p2), .val (.int g), .val (.int d), .val (.int ties), .val (.long df), .second, .val (.int af), .val (.int co), .val (.int un), .val (.int (gr 0 g d ties)), .val (.int (gr 1 g d ties)), .val (.int (gr 2 g d ties))] [(.int (gr 2 g d ties))])) _
      refine XS.iload X73.here hx rfl (hb hby at_149) rfl ?_
      show Steps p.tables e below (T73.setTop (mkF m 151 #[.val (.int p0), .val (.int p1), .val (.int p2), .val (.int g), .val (.int d), .val (.int ties), .val (.long df), .second, .val (.int af), .val (.int co), .val (.int un), .val (.int (gr 0 g d ties)), .val (.int (gr 1 g d ties)), .val (.int (gr 2 g d ties))] [(.int un), (.int (gr 2 g d ties))])) _
      refine XS.icmpNo X73.here hx rfl (hb hby at_151) rfl (teq (own_u g d ties un (own_nn hv_d) hv_un)).2 ?_
      show Steps p.tables e below (T73.setTop (mkF m 154 #[.val (.int p0), .val (.int p1), .val (.int p2), .val (.int g), .val (.int d), .val (.int ties), .val (.long df), .second, .val (.int af), .val (.int co), .val (.int un), .val (.int (gr 0 g d ties)), .val (.int (gr 1 g d ties)), .val (.int (gr 2 g d ties))] [])) _
      refine XS.iconst X73.here hx rfl (hb hby at_154) ?_
      show Steps p.tables e below (T73.setTop (mkF m 155 #[.val (.int p0), .val (.int p1), .val (.int p2), .val (.int g), .val (.int d), .val (.int ties), .val (.long df), .second, .val (.int af), .val (.int co), .val (.int un), .val (.int (gr 0 g d ties)), .val (.int (gr 1 g d ties)), .val (.int (gr 2 g d ties))] [(.int (1 : Int32))])) _
      refine XS.goto X73.here hx rfl (pc0 := 155) (pc' := 159) rfl (hb hby at_155) (by decide) (by decide) ?_
      exact ktg)
    obtain ⟨fs, hr, hrun, hended, hW, hsame⟩ := X73.leave (v := some (.int (1 : Int32))) (fun h => by rw [Bd.returns] at h; cases h)
    refine ⟨_, _, pre75 _ ?_, hrun, hended, _, _, rfl, ?_, ⟨_, rfl⟩, hW, hsame.mono (by decide) (by decide)⟩
    · show Steps p.tables e below (T73.setTop (mkF m 159 #[.val (.int p0), .val (.int p1), .val (.int p2), .val (.int g), .val (.int d), .val (.int ties), .val (.long df), .second, .val (.int af), .val (.int co), .val (.int un), .val (.int (gr 0 g d ties)), .val (.int (gr 1 g d ties)), .val (.int (gr 2 g d ties))] [(.int (1 : Int32))])) _
      exact retN X73 hx (t := .boolean) Bd.returns (by simp) (hb hby at_159) hr
    · show Q0 Z p0 p1 p2 h0 n0 _ T73.heap _
      rw [eh73]
      exact ⟨rfl, N74⟩
set_option maxRecDepth 65536 in
set_option maxHeartbeats 40000000 in
theorem comes_1 {Post : Tables → Env → Array Value → State → Outcome → State → Prop} (hpost : ∀ tb e args s v u, (limb_1_1.after args s (.returned v) u = true ∧ limb_1_2.after args s (.returned v) u = true ∧ True) → FrameEnd s (.returned v) u (Jvm.fieldLocs frame_1_writes args s ++ Jvm.arrayLocs frame_1_arrays args s ++ Jvm.staticLocs frame_1_statics s) 0 0 → Post tb e args s (.returned v) u) :
    ArmFor flags0 classFile x code maxLocals ret World_1 tables_1 room_1 Calls_1 rest_1 Pre_1 Post := by
  intro l hfl _ _ p e ha hc hk s m args below hf hA hF happ hP
  obtain ⟨hcalls, hrest, hpre⟩ := hP
  obtain ⟨-, -, -, hnamed, -, -, -, hat⟩ := (Spec.applies_iff hf).mp happ
  obtain ⟨hg, hn⟩ := and_e (Cond.before_iff.mp (show (Jvm.Cond.and given_1 narrow_1).before args s = true from hpre))
  obtain ⟨gc, g0⟩ := and_e hg
  obtain ⟨ga0, g1⟩ := and_e g0
  obtain ⟨ga1, g2⟩ := and_e g1
  obtain ⟨w0, w1, w2, rfl⟩ : ∃ w0 w1 w2 : Value, args = #[w0, w1, w2] := by
    have hs : args.size = 3 := by simpa [Cond.value, given_1] using gc
    obtain ⟨L⟩ := args
    match L, hs with
    | [w0, w1, w2], _ => exact ⟨w0, w1, w2, rfl⟩
  have hw := fun d (hd : d ∈ tables_1) => atoms_spec (ws := Jvm.Cond.code x code maxLocals ret :: tables_1) hat d (List.mem_cons_of_mem _ hd)
  have hfit : Fit s := fun {y c} hc i hi => by
    obtain ⟨ha, rfl⟩ := Array.getElem?_eq_some_iff.mp hc
    have q := List.all_eq_true.mp ((Array.all_eq_true_iff_forall_mem.mp hF) _ (Array.getElem_mem ha)) i (List.mem_range.mpr hi)
    simpa [Array.getElem?_eq_getElem hi] using q
  obtain ⟨i0, ei0⟩ := is_v ga0
  obtain rfl : w0 = (.int i0) := Option.some.inj ei0
  obtain ⟨i1, ei1⟩ := is_v ga1
  obtain rfl : w1 = (.int i1) := Option.some.inj ei1
  obtain ⟨i2, ei2⟩ := is_v g2
  obtain rfl : w2 = (.int i2) := Option.some.inj ei2
  obtain ⟨n1, m1⟩ := and_e hn
  obtain ⟨n2, m2⟩ := and_e m1
  obtain ⟨n3, m3⟩ := and_e m2
  obtain ⟨n4, m4⟩ := and_e m3
  obtain ⟨n5, n6⟩ := and_e m4
  obtain ⟨v0, ev0⟩ := exa_v n1
  have S0 : Sta s s.heap "com/example/velvet_rope/velvetrope/DecisionStrategy" "AFFIRMATIVE" "Lcom/example/velvet_rope/velvetrope/DecisionStrategy;" (.ref v0) := Sta.start ev0 (Or.inr ⟨(hw _ (List.mem_of_getElem? (i := 2) rfl)), (hw _ (List.mem_of_getElem? (i := 3) rfl))⟩)
  have E0 := Exa.start ev0 n1
  have F0 : Fld s s.heap v0 "java/lang/Enum" "ordinal" "I" (.int 0) := Fld.start ((fld_at ev0).symm.trans (own_eqi n2))
  obtain ⟨v1, ev1⟩ := exa_v n3
  have S1 : Sta s s.heap "com/example/velvet_rope/velvetrope/DecisionStrategy" "CONSENSUS" "Lcom/example/velvet_rope/velvetrope/DecisionStrategy;" (.ref v1) := Sta.start ev1 (Or.inr ⟨(hw _ (List.mem_of_getElem? (i := 2) rfl)), (hw _ (List.mem_of_getElem? (i := 19) rfl))⟩)
  have E1 := Exa.start ev1 n3
  have F1 : Fld s s.heap v1 "java/lang/Enum" "ordinal" "I" (.int 1) := Fld.start ((fld_at ev1).symm.trans (own_eqi n4))
  obtain ⟨v2, ev2⟩ := exa_v n5
  have S2 : Sta s s.heap "com/example/velvet_rope/velvetrope/DecisionStrategy" "UNANIMOUS" "Lcom/example/velvet_rope/velvetrope/DecisionStrategy;" (.ref v2) := Sta.start ev2 (Or.inr ⟨(hw _ (List.mem_of_getElem? (i := 2) rfl)), (hw _ (List.mem_of_getElem? (i := 21) rfl))⟩)
  have E2 := Exa.start ev2 n5
  have F2 : Fld s s.heap v2 "java/lang/Enum" "ordinal" "I" (.int 2) := Fld.start ((fld_at ev2).symm.trans (own_eqi n6))
  obtain ⟨n, o, h1, h2, h3, _, L, rfl, ⟨rfl, N⟩, hq⟩ := rm0 l s _ hw tables_1 i0 i1 i2 s.heap s.heap.size (Nat.le_refl _) v0 S0 E0 F0 v1 S1 E1 F1 v2 S2 E2 F2 p e ha hc hk s m _ below hf ((Spec.applies_iff_loose hf).mp happ).1 ⟨rfl, State.Warmed39.refl s, rfl⟩ trivial
  refine ⟨n, _, h1, h2, h3, hpost _ _ _ _ _ _ ⟨Cond.after_iff.mpr rfl, Cond.after_iff.mpr (eq_i res_at (Term.int_eval (1)) rfl), trivial⟩ ⟨hq.1, hq.2.1, (hq.2.2.sift fun y hy => Or.inr (N y hy)).mono (by decide) (by decide)⟩⟩
theorem main_1_1 : Claimed_1_1 := comes_1 fun _ _ _ _ _ _ h hF => ⟨h.1, hF⟩
theorem main_1_2 : Claimed_1_2 := comes_1 fun _ _ _ _ _ _ h hF => ⟨h.2.1, hF⟩
end Jvm.Pilot.@@N@@
namespace Jvm.Pilot.@@N@@
open Jvm Jvm.ClassFile Sem Op Lib Jvm.Free Jvm.Stand Jvm.Pilot.@@N@@.Jvm.D
/-! MADE BY PROGRAM (witnessworld.py) out of the Statement's table words and the real class files: 12 classes; the members and pool entries that the words name. The judged class is class 1, her method 1. -/
namespace start1
open Jvm.ClassFile
def u (s : String) : CpInfo := .utf8 (stringToUtf16 s)
/-- a pool by its gaps: so many unusable entries, then the entry; so many at the end -/
def gap : Nat → List CpInfo → List CpInfo
  | 0, r => r
  | n + 1, r => .unusable :: gap n r
def poolList (es : List (Nat × CpInfo)) (last : Nat) : List CpInfo := es.foldr (fun e r => gap e.1 (e.2 :: r)) (gap last [])
def pool (es : List (Nat × CpInfo)) (last : Nat) : Array CpInfo := ⟨poolList es last⟩
def fileOf (pool : Array CpInfo) (this : Nat) (attrs : Array Attribute := #[]) (ms : Array MethodInfo := #[]) (fl : Nat := 33) (sup : Nat := 0) (ifs : Array Nat := #[]) (fds : Array FieldInfo := #[]) : ClassFile where
  minorVersion := 0
  majorVersion := 65
  constantPool := pool
  accessFlags := fl
  thisClass := this
  superClass := sup
  interfaces := ifs
  fields := fds
  methods := ms
  attributes := attrs
def plain (name : String) (sup : Option ClassId) : Class where
  name := name
  kind := .ordinary
  loader := none
  accessFlags := 33
  super := sup
  interfaces := #[]
  cf := none
  fields := #[]
  methods := #[]
  instanceTypes := #[]
  staticTypes := #[]
  resolved := #[]
  callSites := []
  init := .initialized
  statics := none
  mirror := none

def pool0 : Array CpInfo := pool [(5, u "<init>"), (0, u "()V"), (1, .class_ 10), (1, u "java/lang/Object")] 113

def k0m0 : Method := { name := "<init>", desc := "()V", sig := { parameters := [], returnType := none }, accessFlags := 1, code := none }
/-- java/lang/Object -/
def k0 : Class := { plain "java/lang/Object" none with
  accessFlags := 33
  interfaces := #[]
  cf := some (fileOf pool0 8 #[] #[{ accessFlags := 1, nameIndex := 5, descriptorIndex := 6, attributes := #[] }] 33 0 #[] #[])
  fields := #[]
  methods := #[k0m0]
  instanceTypes := #[]
  staticTypes := #[]
  resolved := Array.replicate 124 none
  statics := none }

def pool1 : Array CpInfo := pool [(2, .class_ 4), (1, u "java/lang/Object"), (0, u "<init>"), (0, u "()V"), (0, .integer 2147483647), (0, .fieldref 9 10), (0, .class_ 11), (0, .nameAndType 12 13), (0, u "com/example/velvet_rope/velvetrope/DecisionStrategy"), (0, u "AFFIRMATIVE"), (0, u "Lcom/example/velvet_rope/velvetrope/DecisionStrategy;"), (0, .methodref 9 15), (0, .nameAndType 16 17), (0, u "grants"), (0, u "(IIZ)Z"), (0, .fieldref 9 19), (0, .nameAndType 20 13), (0, u "CONSENSUS"), (0, .fieldref 9 22), (0, .nameAndType 23 13), (0, u "UNANIMOUS"), (0, .class_ 25), (0, u "com/example/velvet_rope/velvetrope/DecisionStrategyGrantsPinLaw"), (2, u "law"), (0, u "(III)Z")] 3

def k1m0 : Method := { name := "<init>", desc := "()V", sig := { parameters := [], returnType := none }, accessFlags := 1, code := none }
def k1c1 : Code := { maxStack := 4, maxLocals := 14, code := code, exceptionTable := #[], attributes := #[] }
def k1m1 : Method := { name := "law", desc := "(III)Z", sig := { parameters := [.int, .int, .int], returnType := some .boolean }, accessFlags := 9, code := some k1c1 }
/-- com/example/velvet_rope/velvetrope/DecisionStrategyGrantsPinLaw -/
def k1 : Class := { plain "com/example/velvet_rope/velvetrope/DecisionStrategyGrantsPinLaw" (some 0) with
  accessFlags := 49
  interfaces := #[]
  cf := some (fileOf pool1 24 #[] #[{ accessFlags := 1, nameIndex := 5, descriptorIndex := 6, attributes := #[] }, { accessFlags := 9, nameIndex := 28, descriptorIndex := 29, attributes := #[] }] 49 2 #[] #[])
  fields := #[]
  methods := #[k1m0, k1m1]
  instanceTypes := #[]
  staticTypes := #[]
  resolved := Array.replicate 33 none
  statics := none }

def pool2 : Array CpInfo := pool [(1, .class_ 2), (0, u "java/lang/constant/Constable"), (0, .class_ 4), (0, u "java/lang/Object")] 6

/-- java/lang/constant/Constable -/
def k2 : Class := { plain "java/lang/constant/Constable" (some 0) with
  accessFlags := 1537
  interfaces := #[]
  cf := some (fileOf pool2 1 #[] #[] 1537 3 #[] #[])
  fields := #[]
  methods := #[]
  instanceTypes := #[]
  staticTypes := #[]
  resolved := Array.replicate 11 none
  statics := none }

def pool3 : Array CpInfo := pool [(1, .class_ 2), (0, u "java/lang/Comparable"), (0, .class_ 4), (0, u "java/lang/Object")] 7

/-- java/lang/Comparable -/
def k3 : Class := { plain "java/lang/Comparable" (some 0) with
  accessFlags := 1537
  interfaces := #[]
  cf := some (fileOf pool3 1 #[] #[] 1537 3 #[] #[])
  fields := #[]
  methods := #[]
  instanceTypes := #[]
  staticTypes := #[]
  resolved := Array.replicate 12 none
  statics := none }

def pool4 : Array CpInfo := pool [(1, .class_ 2), (0, u "java/io/Serializable"), (0, .class_ 4), (0, u "java/lang/Object")] 2

/-- java/io/Serializable -/
def k4 : Class := { plain "java/io/Serializable" (some 0) with
  accessFlags := 1537
  interfaces := #[]
  cf := some (fileOf pool4 1 #[] #[] 1537 3 #[] #[])
  fields := #[]
  methods := #[]
  instanceTypes := #[]
  staticTypes := #[]
  resolved := Array.replicate 7 none
  statics := none }

def pool5 : Array CpInfo := pool [(2, .class_ 4), (1, u "java/lang/Enum"), (0, u "name"), (0, u "Ljava/lang/String;"), (0, .fieldref 2 8), (0, .nameAndType 9 10), (0, u "ordinal"), (0, u "I"), (1, .class_ 14), (1, u "java/lang/Object"), (4, u "hash"), (86, .class_ 108), (1, u "java/lang/Enum$EnumDesc"), (2, .class_ 112), (0, u "java/lang/constant/Constable"), (0, .class_ 114), (0, u "java/lang/Comparable"), (0, .class_ 116), (0, u "java/io/Serializable"), (9, u "()I")] 77

def k5c0 : Code := { maxStack := 1, maxLocals := 1, code := jdk_37_method_2_code, exceptionTable := #[], attributes := #[] }
def k5m0 : Method := { name := "ordinal", desc := "()I", sig := { parameters := [], returnType := some .int }, accessFlags := 17, code := some k5c0 }
/-- java/lang/Enum -/
def k5 : Class := { plain "java/lang/Enum" (some 0) with
  accessFlags := 1057
  interfaces := #[2, 3, 4]
  cf := some (fileOf pool5 2 #[.nestMembers #[106]] #[{ accessFlags := 17, nameIndex := 9, descriptorIndex := 126, attributes := #[] }] 1057 12 #[111, 113, 115] #[{ accessFlags := 18, nameIndex := 5, descriptorIndex := 6, attributes := #[] }, { accessFlags := 18, nameIndex := 9, descriptorIndex := 10, attributes := #[] }, { accessFlags := 2, nameIndex := 19, descriptorIndex := 10, attributes := #[] }])
  fields := #[{ name := "name", type := (.object "java/lang/String"), accessFlags := 18, slot := 0, constantValue := 0 }, { name := "ordinal", type := .int, accessFlags := 18, slot := 1, constantValue := 0 }, { name := "hash", type := .int, accessFlags := 2, slot := 2, constantValue := 0 }]
  methods := #[k5m0]
  instanceTypes := #[(.object "java/lang/String"), .int, .int]
  staticTypes := #[]
  resolved := Array.replicate 204 none
  statics := none }

def pool6 : Array CpInfo := pool [(1, .class_ 2), (0, u "com/example/velvet_rope/velvetrope/DecisionStrategy"), (2, u "AFFIRMATIVE"), (0, u "Lcom/example/velvet_rope/velvetrope/DecisionStrategy;"), (2, u "CONSENSUS"), (2, u "UNANIMOUS"), (2, u "$VALUES"), (0, u "[Lcom/example/velvet_rope/velvetrope/DecisionStrategy;"), (6, .class_ 25), (1, u "java/lang/Enum"), (6, .methodref 1 33), (0, .nameAndType 34 35), (0, u "ordinal"), (0, u "()I"), (20, u "grants"), (0, u "(IIZ)Z")] 5

def k6c0 : Code := { maxStack := 4, maxLocals := 4, code := prog_9_method_4_code, exceptionTable := #[], attributes := #[] }
def k6m0 : Method := { name := "grants", desc := "(IIZ)Z", sig := { parameters := [.int, .int, .boolean], returnType := some .boolean }, accessFlags := 0, code := some k6c0 }
/-- com/example/velvet_rope/velvetrope/DecisionStrategy -/
def k6 : Class := { plain "com/example/velvet_rope/velvetrope/DecisionStrategy" (some 5) with
  accessFlags := 16433
  interfaces := #[]
  cf := some (fileOf pool6 1 #[] #[{ accessFlags := 0, nameIndex := 56, descriptorIndex := 57, attributes := #[] }] 16433 23 #[] #[{ accessFlags := 16409, nameIndex := 5, descriptorIndex := 6, attributes := #[] }, { accessFlags := 16409, nameIndex := 9, descriptorIndex := 6, attributes := #[] }, { accessFlags := 16409, nameIndex := 12, descriptorIndex := 6, attributes := #[] }, { accessFlags := 4122, nameIndex := 15, descriptorIndex := 16, attributes := #[] }])
  fields := #[{ name := "AFFIRMATIVE", type := (.object "com/example/velvet_rope/velvetrope/DecisionStrategy"), accessFlags := 16409, slot := 0, constantValue := 0 }, { name := "CONSENSUS", type := (.object "com/example/velvet_rope/velvetrope/DecisionStrategy"), accessFlags := 16409, slot := 1, constantValue := 0 }, { name := "UNANIMOUS", type := (.object "com/example/velvet_rope/velvetrope/DecisionStrategy"), accessFlags := 16409, slot := 2, constantValue := 0 }, { name := "$VALUES", type := (.array (.object "com/example/velvet_rope/velvetrope/DecisionStrategy")), accessFlags := 4122, slot := 3, constantValue := 0 }]
  methods := #[k6m0]
  instanceTypes := #[(.object "java/lang/String"), .int, .int]
  staticTypes := #[(.object "com/example/velvet_rope/velvetrope/DecisionStrategy"), (.object "com/example/velvet_rope/velvetrope/DecisionStrategy"), (.object "com/example/velvet_rope/velvetrope/DecisionStrategy"), (.array (.object "com/example/velvet_rope/velvetrope/DecisionStrategy"))]
  resolved := Array.replicate 63 none
  statics := some 0 }

def pool7 : Array CpInfo := pool [(1, u "java/lang/Cloneable"), (0, .class_ 1), (0, u "java/lang/Object"), (0, .class_ 3)] 3

/-- java/lang/Cloneable -/
def k7 : Class := { plain "java/lang/Cloneable" (some 0) with
  accessFlags := 1537
  interfaces := #[]
  cf := some (fileOf pool7 2 #[] #[] 1537 4 #[] #[])
  fields := #[]
  methods := #[]
  instanceTypes := #[]
  staticTypes := #[]
  resolved := Array.replicate 8 none
  statics := none }

/-- the primitive byte -/
def k8 : Class := { plain "byte" none with kind := .primitive 'B', accessFlags := 0x411 }
/-- [B -/
def k9 : Class := { plain "[B" (some 0) with kind := .array 8 .byte, interfaces := #[7, 4], accessFlags := 1041 }

/-- the primitive int -/
def k10 : Class := { plain "int" none with kind := .primitive 'I', accessFlags := 0x411 }
/-- [I -/
def k11 : Class := { plain "[I" (some 0) with kind := .array 10 .int, interfaces := #[7, 4], accessFlags := 1041 }

def heap : Heap := #[{ cls := 6, slots := #[.ref 1, .ref 2, .ref 3, .null], vm := .statics 6 },
  { cls := 6, slots := #[.null, .int 0, .int 0], vm := .none },
  { cls := 6, slots := #[.null, .int 1, .int 0], vm := .none },
  { cls := 6, slots := #[.null, .int 2, .int 0], vm := .none }]
def classes : Array Class := #[k0, k1, k2, k3, k4, k5, k6, k7, k8, k9, k10, k11]
def interned : List (Array UInt16 × Addr) := []
def slotsUsed : Nat := 13
def theMethod : MethodId := ⟨1, 1⟩
def args0 : Array Value := #[.int 5, .int 3, .int 1]
def aboutOver (below : List Frame) : State where
  vm := { classes := classes, interned := interned.toArray }
  heap := heap
  slotsUsed := slotsUsed
  threads := #[{ frames := .invoking theMethod args0 :: below }]
def below0 : List Frame := [.native { method := ⟨0, 0⟩, args := #[] }]
def about1 : State := aboutOver below0
def p0 : Program := .bare "" "" ""
def e0 : Env := launch0.env 0 0 0
theorem w_frames : about1.frames = Frame.invoking theMethod args0 :: below0 := rfl
set_option maxRecDepth 65536 in
theorem w_args : argsFit about1.vm theMethod args0 = true := by decide +kernel
set_option maxRecDepth 65536 in
theorem w_heap : heapFits about1 = true := by decide +kernel
set_option maxRecDepth 65536 in
theorem w_runnable : about1.curStatus? = some .runnable := by decide +kernel
set_option maxRecDepth 65536 in
theorem w_alone : about1.alone = true := by decide +kernel
set_option maxRecDepth 65536 in
theorem w_named : about1.methodNamed? x = some theMethod := by decide +kernel
set_option maxRecDepth 65536 in
theorem w_hears : about1.hears theMethod below0 = true := by decide +kernel
set_option maxRecDepth 65536 in
theorem w_ripe : about1.ripe theMethod args0 below0 = true := by decide +kernel
theorem w_running : about1.status = .running := rfl
set_option maxRecDepth 65536 in
theorem w_room : about1.hasRoom e0.platform room_1 = true :=
  launch0.hasRoom_least _ room_1 (by decide +kernel) (by decide +kernel) (by decide +kernel) (by decide +kernel) (by decide +kernel) (by decide +kernel)
theorem allAtoms_all (ts : List Jvm.Cond) (a : Array Jvm.Value) (st : Jvm.State) : (allAtoms ts).before a st = ts.all (fun c => c.before a st) := by
  induction ts with
  | nil => rfl
  | cons c t ih =>
    show (Jvm.Cond.and c (allAtoms t)).before a st = _
    rw [Jvm.Cond.before_and, ih, List.all_cons]
def words1 : List Jvm.Cond := Jvm.Cond.code x code maxLocals ret :: tables_1
/-- a 'code' word, met by the world's own term for the bytes: nothing is compared byte by byte -/
theorem code_word {y : MethodName} {bytes : ByteArray} {mx : Nat} {rt : Option FieldType} {a : Array Value} {s : State} {m : MethodId} {meth : Method} {c : Code} (h1 : s.methodNamed? y = some m) (h2 : s.vm.method? m = some meth) (h3 : meth.code = some c) (h4 : c.code = bytes)
    (h5 : (c.maxLocals == mx && c.exceptionTable.isEmpty && decide (c.maxStack ≤ mostOperands) && decide (meth.sig.returnType = rt) && !meth.locks && decide (parseMethodDescriptor y.desc = some meth.sig)) = true) : (Jvm.Cond.code y bytes mx rt).before a s = true := by
  simp only [Bool.and_eq_true, beq_iff_eq, Bool.not_eq_true', decide_eq_true_eq] at h5
  obtain ⟨⟨⟨⟨⟨g1, g2⟩, g3⟩, g4⟩, g5⟩, g6⟩ := h5
  simp [Cond.before, Cond.holds, Cond.value, h1, h2, h3, h4, g1, g2, g3, g4, g5, g6]
def isCode : Jvm.Cond → Bool
  | .code _ _ _ _ => true
  | _ => false
theorem all_split {L : List Jvm.Cond} {P : Jvm.Cond → Bool} (h1 : L.all (fun c => isCode c || P c) = true) (h2 : ∀ c ∈ L.filter isCode, P c = true) : L.all P = true := by
  refine List.all_eq_true.mpr fun c hc => ?_
  have h := List.all_eq_true.mp h1 c hc
  rcases Bool.eq_false_or_eq_true (isCode c) with hi | hi
  · exact h2 c (List.mem_filter.mpr ⟨hc, hi⟩)
  · simpa [hi] using h
set_option maxRecDepth 65536 in
theorem w_c0 : (Jvm.Cond.code x code maxLocals ret).before args0 about1 = true := code_word (m := ⟨1, 1⟩) (meth := k1m1) (c := k1c1) (by decide +kernel) rfl rfl rfl (by decide +kernel)
set_option maxRecDepth 65536 in
theorem w_c1 : (Jvm.Cond.code ({ cls := "com/example/velvet_rope/velvetrope/DecisionStrategy", name := "grants", desc := "(IIZ)Z" } : Jvm.MethodName) prog_9_method_4_code (4 : Nat) (Option.some Jvm.ClassFile.FieldType.boolean)).before args0 about1 = true := code_word (m := ⟨6, 0⟩) (meth := k6m0) (c := k6c0) (by decide +kernel) rfl rfl rfl (by decide +kernel)
set_option maxRecDepth 65536 in
theorem w_c2 : (Jvm.Cond.code ({ cls := "java/lang/Enum", name := "ordinal", desc := "()I" } : Jvm.MethodName) jdk_37_method_2_code (1 : Nat) (Option.some Jvm.ClassFile.FieldType.int)).before args0 about1 = true := code_word (m := ⟨5, 0⟩) (meth := k5m0) (c := k5c0) (by decide +kernel) rfl rfl rfl (by decide +kernel)
def codes1 : List Jvm.Cond := [Jvm.Cond.code x code maxLocals ret, Jvm.Cond.code ({ cls := "com/example/velvet_rope/velvetrope/DecisionStrategy", name := "grants", desc := "(IIZ)Z" } : Jvm.MethodName) prog_9_method_4_code (4 : Nat) (Option.some Jvm.ClassFile.FieldType.boolean), Jvm.Cond.code ({ cls := "java/lang/Enum", name := "ordinal", desc := "()I" } : Jvm.MethodName) jdk_37_method_2_code (1 : Nat) (Option.some Jvm.ClassFile.FieldType.int)]
set_option maxRecDepth 65536 in
theorem codes_eq : words1.filter isCode = codes1 := rfl
theorem w_codes : ∀ c ∈ words1.filter isCode, c.before args0 about1 = true := by
  rw [codes_eq]
  intro c hc
  simp only [codes1, List.mem_cons, List.not_mem_nil, or_false] at hc
  rcases hc with rfl | rfl | rfl
  · exact w_c0
  · exact w_c1
  · exact w_c2
set_option maxRecDepth 65536 in
theorem w_t1 : words1.all (fun c => isCode c || c.before args0 about1) = true := by decide +kernel
theorem w_tables : (allAtoms (Jvm.Cond.code x code maxLocals ret :: tables_1)).before args0 about1 = true := by
  rw [allAtoms_all]
  show words1.all (fun c => c.before args0 about1) = true
  refine all_split ?_ w_codes
  rw [w_t1]
set_option maxRecDepth 65536 in
theorem w_case : (Jvm.Cond.and given_1 narrow_1).before args0 about1 = true := by decide +kernel
theorem w_applies : (headSpec (Jvm.Cond.code x code maxLocals ret :: tables_1) room_1).applies x e0.platform about1 = true :=
  (Spec.applies_iff w_frames).mpr ⟨w_running, w_runnable, w_alone, w_named, w_hears, w_ripe, w_room, w_tables⟩
theorem atStart : AtStart classFile x code maxLocals ret World_1 tables_1 room_1 Calls_1 rest_1 Pre_1 launch0 p0 e0 about1 theMethod args0 below0 :=
  ⟨lists_1, trivial, launch0.admits_env _ _ _, launch0.least_env, fairChoices_fair.cas, fairChoices_fair.clock, w_frames, w_args, w_heap, w_applies, trivial, trivial, w_case⟩
end start1
theorem witness_1 : WitnessClaimed_1 := ⟨start1.p0, start1.e0, start1.about1, start1.theMethod, start1.args0, start1.below0, start1.atStart⟩
end Jvm.Pilot.@@N@@
