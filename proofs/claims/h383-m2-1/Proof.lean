import JvmDerived
import JvmDerived.Pilot.@@N@@Statement
import JvmDerived.Pilot.@@N@@Code
set_option linter.unusedVariables false
set_option linter.unusedSimpArgs false
@@BLOCK:NumsL.lean.txt@@
namespace Jvm.RoadKit
open Sem ClassFile Op Lib Jvm.Stand Jvm.Free Jvm.LawKit
section New
variable {p : Program} {l : Launch} {e : Env} {R : Room} {s : State} {m : MethodId} {args : Array Value} {below : List Frame} {meth : Method} {c : Code} {T : State} {locs : List Loc} {cells slots : Nat}
theorem retI (X : Stand p l e R s m args below meth c T locs cells slots) (hx : p.tables.exec = Jvm.exec) {pc : Nat} {Ls : Array Slot} {z : Int32} {rest : List Value} (hret : meth.sig.returnType = some .int) (hd : decode c.code pc = .ok (.ireturn, 1)) {fs : List Frame}
    (hl : ∀ (f : JFrame) (acts : List Action), f.method = m → f.locked = none → f.entered = [] → (doReturn e (T.setTop f) acts (some (.int z))).1 = T.setFrames fs) : Steps p.tables e below (T.setTop (mkF m pc Ls (.int z :: rest))) (T.setFrames fs) := by
  have hm' : T.vm.method? m = some meth := X.method'
  have hn : narrow .int (.int z) = .int z := rfl
  show Steps p.tables e below (T.setTop { method := m, pc := pc, locals := Ls, stack := _ :: rest, locked := none }) _
  jvm_step X.here [X.here.top, hx, hd, hm', hret, hn]
  first | (intro acts; rw [hl _ acts rfl rfl rfl]) | rw [hl _ _ rfl rfl rfl]
  exact Steps.refl _
end New
theorem own_sta_keep {Z : State} {h h' : Heap} {C n d : String} {v : Value} {ws : List Addr} (F : Sta Z h C n d v) (K : Keep h h' ws) (q : ∀ x ∈ ws, ∀ cell : Cell, h[x]? = some cell → cell.vm.isStatics = false) : Sta Z h' C n d v := by
  obtain ⟨cf, i, k, f, st, cell, h1, h2, h3, h4, h5, h6, h7⟩ := F
  exact ⟨cf, i, k, f, st, cell, h1, h2, h3, h4, K.2.1 st cell h5 (fun hm => by rw [q st hm cell h5] at h6; cases h6), h6, h7⟩
/-- a class that is none of the interfaces -/
def NoFace (Z : State) (N : String) : Prop := ∃ (c : ClassId) (k : Class), Z.vm.findClass N = some c ∧ Z.vm.classes[c]? = some k ∧ k.isInterface = false
theorem own_noface {Z : State} {a0 : Array Value} {C : String} {y : MethodName} (w : (Cond.selects C y y).before a0 Z = true) : NoFace Z y.cls := by
  obtain ⟨c2, r2, m2, q1, q2, q3, q4, kP, hkP, hkPi⟩ := Cond.selects_spec w
  exact ⟨m2.cls, kP, findClass_of_methodNamed q3, hkP, hkPi⟩
theorem own_same {Z : State} {a0 : Array Value} {y : MethodName} (F : NoFace Z y.cls) (wi : (Cond.instanceMethod y).before a0 Z = true) (hy : y.cls ≠ "java/lang/invoke/MethodHandle" ∧ y.cls ≠ "java/lang/invoke/VarHandle") : (Cond.sameMethod y.cls y.cls y.name y.desc).before a0 Z = true := by
  obtain ⟨c, k, h1, h2, h3⟩ := F
  obtain ⟨mk, methM, hnamed, hmethM, -, -⟩ := Cond.instanceMethod_spec wi
  have hfound : Z.methodFound? y.cls y.name y.desc = some mk := State.methodFound?_of_named hnamed hy
  have hn : Z.methodNamed? ⟨y.cls, y.name, y.desc⟩ = some mk := hnamed
  simp only [Cond.before, Cond.holds, Cond.value, h1, hfound, hn, h2]
  simp; exact h3
theorem own_psel {Z : State} {a0 : Array Value} {y : MethodName} (F : NoFace Z y.cls) (wi : (Cond.instanceMethod y).before a0 Z = true) (wp : (Cond.privateMethod y).before a0 Z = true) (hy : y.cls ≠ "java/lang/invoke/MethodHandle" ∧ y.cls ≠ "java/lang/invoke/VarHandle") : (Cond.selects y.cls y y).before a0 Z = true := by
  obtain ⟨c, k, h1, h2, h3⟩ := F
  exact selects_self_of_private h1 h2 h3 (Cond.privateMethod_at wp) wi hy
/-- from A the run goes on as from B -/
def Rch (tb : Tables) (e : Env) (below : List Frame) (A B : State) : Prop := ∀ t, Steps tb e below B t → Steps tb e below A t
end Jvm.RoadKit
namespace Jvm.Pilot.@@N@@
open Jvm Jvm.ClassFile Sem Op Lib Jvm.Free Jvm.Stand Jvm.LawKit Jvm.RoadKit Bundle Jvm.Pilot.@@N@@.Jvm.D
theorem own_EW {Z : State} {a0 : Array Value} (hw : ∀ d ∈ tables_1, d.before a0 Z = true) : EW Z a0 consts_1 := (EW.cons (hw _ (List.mem_of_getElem? (i := 84) rfl)) (by decide) EW.nil)
theorem own_wS {Z : State} {a0 : Array Value} (hw : ∀ d ∈ tables_1, d.before a0 Z = true) : ∀ d ∈ Bundle.stringAtoms, d.before a0 Z = true := by
  intro d hd
  simp only [Bundle.stringAtoms, List.mem_cons, List.not_mem_nil, or_false] at hd
  rcases hd with rfl | rfl | rfl | rfl | rfl | rfl | rfl
  · exact (hw _ (List.mem_of_getElem? (i := 6) rfl))
  · exact (hw _ (List.mem_of_getElem? (i := 5) rfl))
  · exact (hw _ (List.mem_of_getElem? (i := 23) rfl))
  · exact (hw _ (List.mem_of_getElem? (i := 33) rfl))
  · exact (hw _ (List.mem_of_getElem? (i := 31) rfl))
  · exact (hw _ (List.mem_of_getElem? (i := 85) rfl))
  · exact (hw _ (List.mem_of_getElem? (i := 86) rfl))
theorem own_safe_null {Z : State} {EL : List (String × Nat)} {vm : Vm} {h : Heap} {x : Addr} (hal : Z.vm.Alike vm) (E : Exa Z h x "java/lang/String") (F : Fld Z h x "java/lang/String" "value" "[B" .null) : Safe Z EL vm h x := fun B => by
  obtain ⟨p, -, u, a, -, q, -, G, rfl | rfl⟩ := B
  · obtain ⟨cS, ⟨S, -, -⟩, -⟩ := G
    obtain ⟨s1, -, -, ⟨c, k, i, s4, -⟩, -, -, -, s8, -⟩ := S
    obtain ⟨cell, cf, k', i', f', g1, g2, -, -, -, -, g7⟩ := F
    cases (show h[q.sa]? = some q.sC from s1).symm.trans g1
    obtain ⟨k2, h2, -⟩ := State.fieldFound?_setVm (s := Z) hal g2
    have e : some (cf, k2, i', f') = some (c, k, i, q.fSV) := h2.symm.trans s4
    have e2 : f' = q.fSV := by cases e; rfl
    rw [e2] at g7
    cases g7.symm.trans s8
  · obtain ⟨cell, kc, e1, e2, -⟩ := E
    have hd : h[q.sd]? = some q.SA := G.hd
    cases hd.symm.trans e1
    obtain ⟨cS, -, -, f, -⟩ := G
    have f' : vm.findClass "[B" = some q.SA.cls := f
    rw [hal.findClass] at f'
    obtain ⟨k1, q1, q2⟩ := Vm.findClass_spec f'
    obtain ⟨k2, q3, q4⟩ := Vm.findClass_spec e2
    cases q1.symm.trans q3
    exact absurd (q2.symm.trans q4) (by decide)
theorem own_idem (x : Int32) : nar .byte (x.toInt8.toInt32) = x.toInt8.toInt32 := by
  show x.toInt8.toInt32.toInt8.toInt32 = x.toInt8.toInt32
  rw [Int8.toInt8_toInt32]
theorem own_shr0 (z : Int32) : (z >>> ((0 : Int32) &&& 31)) = z := by
  show z >>> (0 : Int32) = z
  exact Int32.shiftRight_zero
/-- the place of b among the bytes -/
def ixo : List Int32 → Int32 → Int32 → Int32
  | [], _, _ => -1
  | v :: t, b, i => if v = b then i else ixo t b (i + 1)
theorem d11_0 : decode jdk_42_method_154_code 0 = .ok (.getstatic 38, 3) := by decide +kernel
theorem d11_3 : decode jdk_42_method_154_code 3 = .ok (.ifCond .eq 14, 3) := by decide +kernel
theorem d11_6 : decode jdk_42_method_154_code 6 = .ok (.aload_n 0, 1) := by decide +kernel
theorem d11_7 : decode jdk_42_method_154_code 7 = .ok (.getfield 15, 3) := by decide +kernel
theorem d11_10 : decode jdk_42_method_154_code 10 = .ok (.ifCond .ne 7, 3) := by decide +kernel
theorem d11_13 : decode jdk_42_method_154_code 13 = .ok (.iconst 1, 1) := by decide +kernel
theorem d11_14 : decode jdk_42_method_154_code 14 = .ok (.goto 4, 3) := by decide +kernel
theorem d11_18 : decode jdk_42_method_154_code 18 = .ok (.ireturn, 1) := by decide +kernel
theorem pn_0 : plainName "java/lang/String" = true := by first | (simp [plainName, overriddenIn]; done) | decide +kernel
theorem ef_isL (m : MethodId) (x0 : Addr) : entryFrame m #[(.ref x0)] 1 = mkF m 0 #[.val (.ref x0)] [] := by first | (simp [entryFrame, mkF, argsToLocals, Value.category]; done) | rfl
def QisL (Z : State) (a : Addr) (h0 : Heap) (n0 : Nat) (v : Option Value) (h : Heap) (L : List Loc) : Prop := v = some (.int 1) ∧ Fr n0 L ∧ h = h0
set_option maxRecDepth 65536 in
set_option maxHeartbeats 40000000 in
theorem rmisL (l : Launch) (Z : State) (a0 : Array Value) (hw : ∀ d ∈ tables_1, d.before a0 Z = true) (ws : List Jvm.Cond) (a : Addr) (h0 : Heap) (n0 : Nat) (Z0 : n0 ≤ h0.size) (F1 : Fld Z h0 a "java/lang/String" "coder" "B" (.int (0 : Int32))) (cs : Int32) (hcs : ¬ cs = 0) (S1 : Sta Z h0 "java/lang/String" "COMPACT_STRINGS" "Z" (.int cs)) :
    MetFree l (⟨"java/lang/String", "isLatin1", "()Z"⟩ : MethodName) (head1 (Jvm.Cond.code (⟨"java/lang/String", "isLatin1", "()Z"⟩ : MethodName) jdk_42_method_154_code 1 (some .boolean) :: ws) ({ frames := 0, cells := 0, slots := 0, locals := 0 } : Room)) (fun aA U => aA = #[(.ref a)] ∧ Z.Warmed39 U.vm ∧ U.heap = h0) (fun _ _ _ _ _ => True) (fun _ U oO U' => ∃ vV LL, oO = .returned vV ∧ QisL Z a h0 n0 vV U'.heap LL ∧ FrameEnd U oO U' LL ({ frames := 0, cells := 0, slots := 0, locals := 0 } : Room).cells ({ frames := 0, cells := 0, slots := 0, locals := 0 } : Room).slots) := by
  refine MetFree.of_bodySF (plainFor_of_name pn_0) hisR ?_
  intro p e s m args below meth c s₁ Bd hml0 hP hK
  obtain ⟨rfl, hZ, hh⟩ := hP
  have hx := Bd.exec
  have hby := Bd.bytes
  have hml : c.maxLocals = 1 := hml0
  have hown : s.vm.findClass "java/lang/String" = some m.cls := findClass_of_methodNamed Bd.named
  have hnm := (name_of_methodNamed Bd.named Bd.method).1
  have X0 : Stand p l e ({ frames := 0, cells := 0, slots := 0, locals := 0 } : Room) s m #[(.ref a)] below meth c s₁ [] 0 0 := Stand.of_body Bd
  have e0 : s₁.heap = h0 := by rw [← hh, Bd.state]; rfl
  have N0 := Fr.nil n0
  have K0 : Keep h0 h0 [] := Keep.refl _ _
  have pre0 : Rch p.tables e below (s₁.setTop (entryFrame m #[(.ref a)] 1)) (s₁.setTop (mkF m 0 #[.val (.ref a)] [])) := fun tgt ktg => castTop (ef_isL m a) ktg
  obtain ⟨T_1, X_1, e_1, st_1⟩ := getS2 X0 hx hZ hown (host := "") (Or.inl (hw _ (List.mem_of_getElem? (i := 18) rfl))) Via.refl e0 S1 (g := (mkF m 0 #[.val (.ref a)] [])) rfl (hb hby d11_0)
  have pre_1 : Rch p.tables e below (s₁.setTop (entryFrame m #[(.ref a)] 1)) (T_1.setTop (mkF m 3 #[.val (.ref a)] [(.int cs)])) := fun tgt ktg => pre0 tgt (st_1 tgt ktg)
  have pre_2 : Rch p.tables e below (s₁.setTop (entryFrame m #[(.ref a)] 1)) (T_1.setTop (mkF m 7 #[.val (.ref a)] [(.ref a)])) := fun tgt ktg => pre_1 tgt (by
    show Steps p.tables e below (T_1.setTop (mkF m 3 #[.val (.ref a)] [(.int cs)])) _
    refine XS.ifNo X_1.here hx rfl (hb hby d11_3) rfl ((if0 _ _).trans (feq hcs).1) ?_
    show Steps p.tables e below (T_1.setTop (mkF m 6 #[.val (.ref a)] [])) _
    refine XS.aloadN X_1.here hx rfl (hb hby d11_6) rfl rfl ?_
    exact ktg)
  obtain ⟨T_3, X_3, e_3, st_3⟩ := getF X_1 hx hZ hown (host := "") (Or.inl (hw _ (List.mem_of_getElem? (i := 30) rfl))) Via.refl e_1 F1 (g := (mkF m 7 #[.val (.ref a)] [(.ref a)])) rfl rfl (hb hby d11_7)
  have pre_3 : Rch p.tables e below (s₁.setTop (entryFrame m #[(.ref a)] 1)) (T_3.setTop (mkF m 10 #[.val (.ref a)] [(.int (0 : Int32))])) := fun tgt ktg => pre_2 tgt (st_3 tgt ktg)
  have pre_4 : Rch p.tables e below (s₁.setTop (entryFrame m #[(.ref a)] 1)) (T_3.setTop (mkF m 18 #[.val (.ref a)] [(.int (1 : Int32))])) := fun tgt ktg => pre_3 tgt (by
    show Steps p.tables e below (T_3.setTop (mkF m 10 #[.val (.ref a)] [(.int (0 : Int32))])) _
    refine XS.ifNo X_3.here hx rfl (hb hby d11_10) rfl ((if0 _ _).trans (teq (rfl : (0 : Int32) = (0 : Int32))).2) ?_
    show Steps p.tables e below (T_3.setTop (mkF m 13 #[.val (.ref a)] [])) _
    refine XS.iconst X_3.here hx rfl (hb hby d11_13) ?_
    show Steps p.tables e below (T_3.setTop (mkF m 14 #[.val (.ref a)] [(.int (1 : Int32))])) _
    refine XS.goto X_3.here hx rfl (pc0 := 14) (pc' := 18) rfl (hb hby d11_14) (by decide) (by decide) ?_
    exact ktg)
  obtain ⟨fs, hr, hrun, hended, hW, hsame⟩ := X_3.leave (v := some (.int (1 : Int32))) (fun h => by rw [Bd.returns] at h; cases h)
  refine ⟨_, _, pre_4 _ ?_, hrun, hended, _, _, rfl, ?_, ⟨_, rfl⟩, hW, hsame.mono (by decide) (by decide)⟩
  · show Steps p.tables e below (T_3.setTop (mkF m 18 #[.val (.ref a)] [(.int (1 : Int32))])) _
    exact retN X_3 hx (t := .boolean) Bd.returns (by simp) (hb hby d11_18) hr
  · show QisL Z a h0 n0 _ T_3.heap _
    rw [e_3]
    exact ⟨rfl, N0, rfl⟩
theorem d13_0 : decode jdk_42_method_152_code 0 = .ok (.getstatic 38, 3) := by decide +kernel
theorem d13_3 : decode jdk_42_method_152_code 3 = .ok (.ifCond .eq 10, 3) := by decide +kernel
theorem d13_6 : decode jdk_42_method_152_code 6 = .ok (.aload_n 0, 1) := by decide +kernel
theorem d13_7 : decode jdk_42_method_152_code 7 = .ok (.getfield 15, 3) := by decide +kernel
theorem d13_10 : decode jdk_42_method_152_code 10 = .ok (.goto 4, 3) := by decide +kernel
theorem d13_14 : decode jdk_42_method_152_code 14 = .ok (.ireturn, 1) := by decide +kernel
theorem ef_cod (m : MethodId) (x0 : Addr) : entryFrame m #[(.ref x0)] 1 = mkF m 0 #[.val (.ref x0)] [] := by first | (simp [entryFrame, mkF, argsToLocals, Value.category]; done) | rfl
def Qcod (Z : State) (a : Addr) (h0 : Heap) (n0 : Nat) (v : Option Value) (h : Heap) (L : List Loc) : Prop := v = some (.int 0) ∧ Fr n0 L ∧ h = h0
set_option maxRecDepth 65536 in
set_option maxHeartbeats 40000000 in
theorem rmcod (l : Launch) (Z : State) (a0 : Array Value) (hw : ∀ d ∈ tables_1, d.before a0 Z = true) (ws : List Jvm.Cond) (a : Addr) (h0 : Heap) (n0 : Nat) (Z0 : n0 ≤ h0.size) (F1 : Fld Z h0 a "java/lang/String" "coder" "B" (.int (0 : Int32))) (cs : Int32) (hcs : ¬ cs = 0) (S1 : Sta Z h0 "java/lang/String" "COMPACT_STRINGS" "Z" (.int cs)) :
    MetFree l (⟨"java/lang/String", "coder", "()B"⟩ : MethodName) (head1 (Jvm.Cond.code (⟨"java/lang/String", "coder", "()B"⟩ : MethodName) jdk_42_method_152_code 1 (some .byte) :: ws) ({ frames := 0, cells := 0, slots := 0, locals := 0 } : Room)) (fun aA U => aA = #[(.ref a)] ∧ Z.Warmed39 U.vm ∧ U.heap = h0) (fun _ _ _ _ _ => True) (fun _ U oO U' => ∃ vV LL, oO = .returned vV ∧ Qcod Z a h0 n0 vV U'.heap LL ∧ FrameEnd U oO U' LL ({ frames := 0, cells := 0, slots := 0, locals := 0 } : Room).cells ({ frames := 0, cells := 0, slots := 0, locals := 0 } : Room).slots) := by
  refine MetFree.of_bodySF (plainFor_of_name pn_0) hisR ?_
  intro p e s m args below meth c s₁ Bd hml0 hP hK
  obtain ⟨rfl, hZ, hh⟩ := hP
  have hx := Bd.exec
  have hby := Bd.bytes
  have hml : c.maxLocals = 1 := hml0
  have hown : s.vm.findClass "java/lang/String" = some m.cls := findClass_of_methodNamed Bd.named
  have hnm := (name_of_methodNamed Bd.named Bd.method).1
  have X0 : Stand p l e ({ frames := 0, cells := 0, slots := 0, locals := 0 } : Room) s m #[(.ref a)] below meth c s₁ [] 0 0 := Stand.of_body Bd
  have e0 : s₁.heap = h0 := by rw [← hh, Bd.state]; rfl
  have N0 := Fr.nil n0
  have K0 : Keep h0 h0 [] := Keep.refl _ _
  have pre0 : Rch p.tables e below (s₁.setTop (entryFrame m #[(.ref a)] 1)) (s₁.setTop (mkF m 0 #[.val (.ref a)] [])) := fun tgt ktg => castTop (ef_cod m a) ktg
  obtain ⟨T_1, X_1, e_1, st_1⟩ := getS2 X0 hx hZ hown (host := "") (Or.inl (hw _ (List.mem_of_getElem? (i := 18) rfl))) Via.refl e0 S1 (g := (mkF m 0 #[.val (.ref a)] [])) rfl (hb hby d13_0)
  have pre_1 : Rch p.tables e below (s₁.setTop (entryFrame m #[(.ref a)] 1)) (T_1.setTop (mkF m 3 #[.val (.ref a)] [(.int cs)])) := fun tgt ktg => pre0 tgt (st_1 tgt ktg)
  have pre_2 : Rch p.tables e below (s₁.setTop (entryFrame m #[(.ref a)] 1)) (T_1.setTop (mkF m 7 #[.val (.ref a)] [(.ref a)])) := fun tgt ktg => pre_1 tgt (by
    show Steps p.tables e below (T_1.setTop (mkF m 3 #[.val (.ref a)] [(.int cs)])) _
    refine XS.ifNo X_1.here hx rfl (hb hby d13_3) rfl ((if0 _ _).trans (feq hcs).1) ?_
    show Steps p.tables e below (T_1.setTop (mkF m 6 #[.val (.ref a)] [])) _
    refine XS.aloadN X_1.here hx rfl (hb hby d13_6) rfl rfl ?_
    exact ktg)
  obtain ⟨T_3, X_3, e_3, st_3⟩ := getF X_1 hx hZ hown (host := "") (Or.inl (hw _ (List.mem_of_getElem? (i := 30) rfl))) Via.refl e_1 F1 (g := (mkF m 7 #[.val (.ref a)] [(.ref a)])) rfl rfl (hb hby d13_7)
  have pre_3 : Rch p.tables e below (s₁.setTop (entryFrame m #[(.ref a)] 1)) (T_3.setTop (mkF m 10 #[.val (.ref a)] [(.int (0 : Int32))])) := fun tgt ktg => pre_2 tgt (st_3 tgt ktg)
  have pre_4 : Rch p.tables e below (s₁.setTop (entryFrame m #[(.ref a)] 1)) (T_3.setTop (mkF m 14 #[.val (.ref a)] [(.int (0 : Int32))])) := fun tgt ktg => pre_3 tgt (by
    show Steps p.tables e below (T_3.setTop (mkF m 10 #[.val (.ref a)] [(.int (0 : Int32))])) _
    refine XS.goto X_3.here hx rfl (pc0 := 10) (pc' := 14) rfl (hb hby d13_10) (by decide) (by decide) ?_
    exact ktg)
  obtain ⟨fs, hr, hrun, hended, hW, hsame⟩ := X_3.leave (v := some (.int (0 : Int32))) (fun h => by rw [Bd.returns] at h; cases h)
  refine ⟨_, _, pre_4 _ ?_, hrun, hended, _, _, rfl, ?_, ⟨_, rfl⟩, hW, hsame.mono (by decide) (by decide)⟩
  · show Steps p.tables e below (T_3.setTop (mkF m 14 #[.val (.ref a)] [(.int (0 : Int32))])) _
    exact retN X_3 hx (t := .byte) Bd.returns (by simp) (hb hby d13_14) hr
  · show Qcod Z a h0 n0 _ T_3.heap _
    rw [e_3]
    exact ⟨rfl, N0, rfl⟩
theorem d12_0 : decode jdk_42_method_54_code 0 = .ok (.aload_n 0, 1) := by decide +kernel
theorem d12_1 : decode jdk_42_method_54_code 1 = .ok (.getfield 9, 3) := by decide +kernel
theorem d12_4 : decode jdk_42_method_54_code 4 = .ok (.arraylength, 1) := by decide +kernel
theorem d12_5 : decode jdk_42_method_54_code 5 = .ok (.aload_n 0, 1) := by decide +kernel
theorem d12_6 : decode jdk_42_method_54_code 6 = .ok (.invokevirtual 335, 3) := by decide +kernel
theorem pd_0 : parseMethodDescriptor "()B" = some ⟨[], some .byte⟩ := by decide +kernel
theorem d12_9 : decode jdk_42_method_54_code 9 = .ok (.ishr, 1) := by decide +kernel
theorem d12_10 : decode jdk_42_method_54_code 10 = .ok (.ireturn, 1) := by decide +kernel
theorem ef_len (m : MethodId) (x0 : Addr) : entryFrame m #[(.ref x0)] 1 = mkF m 0 #[.val (.ref x0)] [] := by first | (simp [entryFrame, mkF, argsToLocals, Value.category]; done) | rfl
def Qlen (Z : State) (a : Addr) (b : Addr) (kb : ClassId) (z : Int32) (vs : List Value) (h0 : Heap) (n0 : Nat) (v : Option Value) (h : Heap) (L : List Loc) : Prop := v = some (.int z) ∧ Fr n0 L ∧ h = h0
set_option maxRecDepth 65536 in
set_option maxHeartbeats 40000000 in
theorem rmlen (l : Launch) (Z : State) (a0 : Array Value) (hw : ∀ d ∈ tables_1, d.before a0 Z = true) (ws : List Jvm.Cond) (a : Addr) (b : Addr) (kb : ClassId) (z : Int32) (vs : List Value) (h0 : Heap) (n0 : Nat) (Z0 : n0 ≤ h0.size) (E1 : Exa Z h0 a "java/lang/String") (F1 : Fld Z h0 a "java/lang/String" "coder" "B" (.int (0 : Int32))) (F2 : Fld Z h0 a "java/lang/String" "value" "[B" (.ref b)) (A1 : Arv Z h0 b kb .byte z vs (.int (0 : Int32))) (cs : Int32) (hcs : ¬ cs = 0) (S1 : Sta Z h0 "java/lang/String" "COMPACT_STRINGS" "Z" (.int cs)) :
    MetFree l (⟨"java/lang/String", "length", "()I"⟩ : MethodName) (head1 (Jvm.Cond.code (⟨"java/lang/String", "length", "()I"⟩ : MethodName) jdk_42_method_54_code 1 (some .int) :: ws) ({ frames := 1, cells := 0, slots := 0, locals := 13 } : Room)) (fun aA U => aA = #[(.ref a)] ∧ Z.Warmed39 U.vm ∧ U.heap = h0) (fun _ _ _ _ _ => True) (fun _ U oO U' => ∃ vV LL, oO = .returned vV ∧ Qlen Z a b kb z vs h0 n0 vV U'.heap LL ∧ FrameEnd U oO U' LL ({ frames := 1, cells := 0, slots := 0, locals := 13 } : Room).cells ({ frames := 1, cells := 0, slots := 0, locals := 13 } : Room).slots) := by
  refine MetFree.of_bodySF (plainFor_of_name pn_0) hisR ?_
  intro p e s m args below meth c s₁ Bd hml0 hP hK
  obtain ⟨rfl, hZ, hh⟩ := hP
  have hx := Bd.exec
  have hby := Bd.bytes
  have hml : c.maxLocals = 1 := hml0
  have hown : s.vm.findClass "java/lang/String" = some m.cls := findClass_of_methodNamed Bd.named
  have hnm := (name_of_methodNamed Bd.named Bd.method).1
  have X0 : Stand p l e ({ frames := 1, cells := 0, slots := 0, locals := 13 } : Room) s m #[(.ref a)] below meth c s₁ [] 0 0 := Stand.of_body Bd
  have e0 : s₁.heap = h0 := by rw [← hh, Bd.state]; rfl
  have N0 := Fr.nil n0
  have K0 : Keep h0 h0 [] := Keep.refl _ _
  have pre0 : Rch p.tables e below (s₁.setTop (entryFrame m #[(.ref a)] 1)) (s₁.setTop (mkF m 0 #[.val (.ref a)] [])) := fun tgt ktg => castTop (ef_len m a) ktg
  have pre_1 : Rch p.tables e below (s₁.setTop (entryFrame m #[(.ref a)] 1)) (s₁.setTop (mkF m 1 #[.val (.ref a)] [(.ref a)])) := fun tgt ktg => pre0 tgt (by
    show Steps p.tables e below (s₁.setTop (mkF m 0 #[.val (.ref a)] [])) _
    refine XS.aloadN X0.here hx rfl (hb hby d12_0) rfl rfl ?_
    exact ktg)
  obtain ⟨T_2, X_2, e_2, st_2⟩ := getF X0 hx hZ hown (host := "") (Or.inl (hw _ (List.mem_of_getElem? (i := 32) rfl))) Via.refl e0 F2 (g := (mkF m 1 #[.val (.ref a)] [(.ref a)])) rfl rfl (hb hby d12_1)
  have pre_2 : Rch p.tables e below (s₁.setTop (entryFrame m #[(.ref a)] 1)) (T_2.setTop (mkF m 4 #[.val (.ref a)] [(.ref b)])) := fun tgt ktg => pre_1 tgt (st_2 tgt ktg)
  obtain ⟨cl__3, Ar__3, q__3, S__3, N__3, H__3, G__3⟩ := id A1
  have pre_4 : Rch p.tables e below (s₁.setTop (entryFrame m #[(.ref a)] 1)) (T_2.setTop (mkF m 5 #[.val (.ref a)] [(.int z)])) := fun tgt ktg => pre_2 tgt (X_2.arraylength hx (by rw [e_2]; exact Ar__3.1) (State.isArrayOf_alike hZ.alike Ar__3.2.1) (g := (mkF m 4 #[.val (.ref a)] [(.ref b)])) rfl rfl (hb hby d12_4) _ (by rw [len_of S__3 N__3]; exact ktg))
  have pre_5 : Rch p.tables e below (s₁.setTop (entryFrame m #[(.ref a)] 1)) (T_2.setTop (mkF m 6 #[.val (.ref a)] [(.ref a), (.int z)])) := fun tgt ktg => pre_4 tgt (by
    show Steps p.tables e below (T_2.setTop (mkF m 5 #[.val (.ref a)] [(.int z)])) _
    refine XS.aloadN X_2.here hx rfl (hb hby d12_5) rfl rfl ?_
    exact ktg)
  obtain ⟨cq_6, kq_6, q_6a, q_6b, q_6c⟩ := isOf hZ e_2 E1
  obtain ⟨_, _, ⟨T_6, L_6, k_6, n_6⟩, -, X_6, ⟨Lc_6, hQ_6, l_6, y_6, z_6⟩, st_6⟩ := X_2.virtualBack hx (y := (⟨"java/lang/String", "coder", "()B"⟩ : MethodName)) (z := (⟨"java/lang/String", "coder", "()B"⟩ : MethodName)) hown (mvT hZ (hw _ (List.mem_of_getElem? (i := 59) rfl))) (mvT hZ (hw _ (List.mem_of_getElem? (i := 60) rfl))) (notFace_of_selects (args := #[]) (mvT hZ (hw _ (List.mem_of_getElem? (i := 62) rfl)))) (mvT hZ (hw _ (List.mem_of_getElem? (i := 62) rfl))) (mvT hZ (hw _ (List.mem_of_getElem? (i := 61) rfl))) (by decide) (backOf (W := 1) (rmcod l Z a0 hw [] a h0 n0 Z0 F1 cs hcs S1) hZ (hw _ (List.mem_of_getElem? (i := 63) rfl)) (hw _ (List.mem_of_getElem? (i := 6) rfl)) (by decide) (by decide)) q_6a q_6c (g := (mkF m 6 #[.val (.ref a)] [(.ref a), (.int z)])) rfl (by rw [hml]; rfl) (Steps.refl _) (argsL := []) (rest := [(.int z)]) (lenOf pd_0 rfl) rfl (by show 2 * 0 + _ ≤ _; exact Nat.le_of_eq rfl) (hb hby d12_6) (fun _ _ => ⟨rfl, e_2, (by decide : 0 + 0 ≤ _), (by decide : 0 + 0 ≤ _)⟩)
  dsimp only [Pt.U, Pt.locs, Pt.cells, Pt.slots] at X_6 l_6 y_6 z_6 st_6 hQ_6
  subst l_6 y_6 z_6
  obtain ⟨rfl, Nq_6, eh_6⟩ := hQ_6
  have N_7 := Fr.app N0 Nq_6
  have pre_6 : Rch p.tables e below (s₁.setTop (entryFrame m #[(.ref a)] 1)) (T_6.setTop (mkF m 9 #[.val (.ref a)] [(.int (0 : Int32)), (.int z)])) := fun tgt ktg => pre_5 tgt (st_6.trans ktg)
  have pre_8 : Rch p.tables e below (s₁.setTop (entryFrame m #[(.ref a)] 1)) (T_6.setTop (mkF m 10 #[.val (.ref a)] [(.int (z >>> ((0 : Int32) &&& 31)))])) := fun tgt ktg => pre_6 tgt (by
    show Steps p.tables e below (T_6.setTop (mkF m 9 #[.val (.ref a)] [(.int (0 : Int32)), (.int z)])) _
    refine XT.ishr X_6.here hx rfl (hb hby d12_9) rfl ?_
    exact ktg)
  obtain ⟨fs, hr, hrun, hended, hW, hsame⟩ := X_6.leave (v := some (.int (z >>> ((0 : Int32) &&& 31)))) (fun h => by rw [Bd.returns] at h; cases h)
  refine ⟨_, _, pre_8 _ ?_, hrun, hended, _, _, rfl, ?_, ⟨_, rfl⟩, hW, hsame.mono (by decide) (by decide)⟩
  · show Steps p.tables e below (T_6.setTop (mkF m 10 #[.val (.ref a)] [(.int (z >>> ((0 : Int32) &&& 31)))])) _
    exact retI X_6 hx Bd.returns (hb hby d12_10) hr
  · show Qlen Z a b kb z vs h0 n0 _ T_6.heap _
    rw [eh_6]
    exact ⟨by rw [own_shr0], N_7, rfl⟩
theorem d16_0 : decode jdk_29_method_65_code 0 = .ok (.iload_n 0, 1) := by decide +kernel
theorem d16_1 : decode jdk_29_method_65_code 1 = .ok (.iload_n 1, 1) := by decide +kernel
theorem d16_2 : decode jdk_29_method_65_code 2 = .ok (.if_icmp .lt 7, 3) := by decide +kernel
theorem d16_9 : decode jdk_29_method_65_code 9 = .ok (.iload_n 1, 1) := by decide +kernel
theorem d16_10 : decode jdk_29_method_65_code 10 = .ok (.ireturn, 1) := by decide +kernel
theorem d16_5 : decode jdk_29_method_65_code 5 = .ok (.iload_n 0, 1) := by decide +kernel
theorem d16_6 : decode jdk_29_method_65_code 6 = .ok (.goto 4, 3) := by decide +kernel
theorem ef_mmax (m : MethodId) (x0 : Int32) (x1 : Int32) : entryFrame m #[(.int x0), (.int x1)] 2 = mkF m 0 #[.val (.int x0), .val (.int x1)] [] := by first | (simp [entryFrame, mkF, argsToLocals, Value.category]; done) | rfl
def Qmmax (Z : State) (i : Int32) (j : Int32) (h0 : Heap) (n0 : Nat) (v : Option Value) (h : Heap) (L : List Loc) : Prop := v = some (.int (if i < j then j else i)) ∧ Fr n0 L ∧ h = h0
set_option maxRecDepth 65536 in
set_option maxHeartbeats 40000000 in
theorem rmmmax (l : Launch) (Z : State) (a0 : Array Value) (hw : ∀ d ∈ tables_1, d.before a0 Z = true) (ws : List Jvm.Cond) (i : Int32) (j : Int32) (h0 : Heap) (n0 : Nat) (Z0 : n0 ≤ h0.size)  :
    MetFree l (⟨"java/lang/Math", "max", "(II)I"⟩ : MethodName) (head1 (Jvm.Cond.code (⟨"java/lang/Math", "max", "(II)I"⟩ : MethodName) jdk_29_method_65_code 2 (some .int) :: ws) ({ frames := 0, cells := 0, slots := 0, locals := 0 } : Room)) (fun aA U => aA = #[(.int i), (.int j)] ∧ Z.Warmed39 U.vm ∧ U.heap = h0) (fun _ _ _ _ _ => True) (fun _ U oO U' => ∃ vV LL, oO = .returned vV ∧ Qmmax Z i j h0 n0 vV U'.heap LL ∧ FrameEnd U oO U' LL ({ frames := 0, cells := 0, slots := 0, locals := 0 } : Room).cells ({ frames := 0, cells := 0, slots := 0, locals := 0 } : Room).slots) := by
  refine MetFree.of_bodySF (Jvm.Free.JP.mathPlain rfl (by decide +kernel)) hisR ?_
  intro p e s m args below meth c s₁ Bd hml0 hP hK
  obtain ⟨rfl, hZ, hh⟩ := hP
  have hx := Bd.exec
  have hby := Bd.bytes
  have hml : c.maxLocals = 2 := hml0
  have hown : s.vm.findClass "java/lang/Math" = some m.cls := findClass_of_methodNamed Bd.named
  have hnm := (name_of_methodNamed Bd.named Bd.method).1
  have X0 : Stand p l e ({ frames := 0, cells := 0, slots := 0, locals := 0 } : Room) s m #[(.int i), (.int j)] below meth c s₁ [] 0 0 := Stand.of_body Bd
  have e0 : s₁.heap = h0 := by rw [← hh, Bd.state]; rfl
  have N0 := Fr.nil n0
  have K0 : Keep h0 h0 [] := Keep.refl _ _
  have pre0 : Rch p.tables e below (s₁.setTop (entryFrame m #[(.int i), (.int j)] 2)) (s₁.setTop (mkF m 0 #[.val (.int i), .val (.int j)] [])) := fun tgt ktg => castTop (ef_mmax m i j) ktg
  have pre_1 : Rch p.tables e below (s₁.setTop (entryFrame m #[(.int i), (.int j)] 2)) (s₁.setTop (mkF m 2 #[.val (.int i), .val (.int j)] [(.int j), (.int i)])) := fun tgt ktg => pre0 tgt (by
    show Steps p.tables e below (s₁.setTop (mkF m 0 #[.val (.int i), .val (.int j)] [])) _
    refine XS.iloadN X0.here hx rfl (hb hby d16_0) rfl ?_
    show Steps p.tables e below (s₁.setTop (mkF m 1 #[.val (.int i), .val (.int j)] [(.int i)])) _
    refine XS.iloadN X0.here hx rfl (hb hby d16_1) rfl ?_
    exact ktg)
  by_cases c_2 : i < j
  · skip
    have pre_3 : Rch p.tables e below (s₁.setTop (entryFrame m #[(.int i), (.int j)] 2)) (s₁.setTop (mkF m 9 #[.val (.int i), .val (.int j)] [])) := fun tgt ktg => pre_1 tgt (by
      show Steps p.tables e below (s₁.setTop (mkF m 2 #[.val (.int i), .val (.int j)] [(.int j), (.int i)])) _
      refine XS.icmpYes X0.here hx rfl (pc0 := 2) (pc' := 9) rfl (hb hby d16_2) rfl (tlt c_2).1 (by decide) (by decide) ?_
      exact ktg)
    have pre_4 : Rch p.tables e below (s₁.setTop (entryFrame m #[(.int i), (.int j)] 2)) (s₁.setTop (mkF m 10 #[.val (.int i), .val (.int j)] [(.int j)])) := fun tgt ktg => pre_3 tgt (by
      show Steps p.tables e below (s₁.setTop (mkF m 9 #[.val (.int i), .val (.int j)] [])) _
      refine XS.iloadN X0.here hx rfl (hb hby d16_9) rfl ?_
      exact ktg)
    obtain ⟨fs, hr, hrun, hended, hW, hsame⟩ := X0.leave (v := some (.int j)) (fun h => by rw [Bd.returns] at h; cases h)
    refine ⟨_, _, pre_4 _ ?_, hrun, hended, _, _, rfl, ?_, ⟨_, rfl⟩, hW, hsame.mono (by decide) (by decide)⟩
    · show Steps p.tables e below (s₁.setTop (mkF m 10 #[.val (.int i), .val (.int j)] [(.int j)])) _
      exact retI X0 hx Bd.returns (hb hby d16_10) hr
    · show Qmmax Z i j h0 n0 _ s₁.heap _
      rw [e0]
      exact ⟨by simp [c_2], N0, rfl⟩
  · skip
    have pre_5 : Rch p.tables e below (s₁.setTop (entryFrame m #[(.int i), (.int j)] 2)) (s₁.setTop (mkF m 5 #[.val (.int i), .val (.int j)] [])) := fun tgt ktg => pre_1 tgt (by
      show Steps p.tables e below (s₁.setTop (mkF m 2 #[.val (.int i), .val (.int j)] [(.int j), (.int i)])) _
      refine XS.icmpNo X0.here hx rfl (hb hby d16_2) rfl (flt c_2).1 ?_
      exact ktg)
    have pre_6 : Rch p.tables e below (s₁.setTop (entryFrame m #[(.int i), (.int j)] 2)) (s₁.setTop (mkF m 10 #[.val (.int i), .val (.int j)] [(.int i)])) := fun tgt ktg => pre_5 tgt (by
      show Steps p.tables e below (s₁.setTop (mkF m 5 #[.val (.int i), .val (.int j)] [])) _
      refine XS.iloadN X0.here hx rfl (hb hby d16_5) rfl ?_
      show Steps p.tables e below (s₁.setTop (mkF m 6 #[.val (.int i), .val (.int j)] [(.int i)])) _
      refine XS.goto X0.here hx rfl (pc0 := 6) (pc' := 10) rfl (hb hby d16_6) (by decide) (by decide) ?_
      exact ktg)
    obtain ⟨fs, hr, hrun, hended, hW, hsame⟩ := X0.leave (v := some (.int i)) (fun h => by rw [Bd.returns] at h; cases h)
    refine ⟨_, _, pre_6 _ ?_, hrun, hended, _, _, rfl, ?_, ⟨_, rfl⟩, hW, hsame.mono (by decide) (by decide)⟩
    · show Steps p.tables e below (s₁.setTop (mkF m 10 #[.val (.int i), .val (.int j)] [(.int i)])) _
      exact retI X0 hx Bd.returns (hb hby d16_10) hr
    · show Qmmax Z i j h0 n0 _ s₁.heap _
      rw [e0]
      exact ⟨by simp [c_2], N0, rfl⟩
theorem d17_0 : decode jdk_29_method_69_code 0 = .ok (.iload_n 0, 1) := by decide +kernel
theorem d17_1 : decode jdk_29_method_69_code 1 = .ok (.iload_n 1, 1) := by decide +kernel
theorem d17_2 : decode jdk_29_method_69_code 2 = .ok (.if_icmp .gt 7, 3) := by decide +kernel
theorem d17_9 : decode jdk_29_method_69_code 9 = .ok (.iload_n 1, 1) := by decide +kernel
theorem d17_10 : decode jdk_29_method_69_code 10 = .ok (.ireturn, 1) := by decide +kernel
theorem d17_5 : decode jdk_29_method_69_code 5 = .ok (.iload_n 0, 1) := by decide +kernel
theorem d17_6 : decode jdk_29_method_69_code 6 = .ok (.goto 4, 3) := by decide +kernel
theorem ef_mmin (m : MethodId) (x0 : Int32) (x1 : Int32) : entryFrame m #[(.int x0), (.int x1)] 2 = mkF m 0 #[.val (.int x0), .val (.int x1)] [] := by first | (simp [entryFrame, mkF, argsToLocals, Value.category]; done) | rfl
def Qmmin (Z : State) (i : Int32) (j : Int32) (h0 : Heap) (n0 : Nat) (v : Option Value) (h : Heap) (L : List Loc) : Prop := v = some (.int (if j < i then j else i)) ∧ Fr n0 L ∧ h = h0
set_option maxRecDepth 65536 in
set_option maxHeartbeats 40000000 in
theorem rmmmin (l : Launch) (Z : State) (a0 : Array Value) (hw : ∀ d ∈ tables_1, d.before a0 Z = true) (ws : List Jvm.Cond) (i : Int32) (j : Int32) (h0 : Heap) (n0 : Nat) (Z0 : n0 ≤ h0.size)  :
    MetFree l (⟨"java/lang/Math", "min", "(II)I"⟩ : MethodName) (head1 (Jvm.Cond.code (⟨"java/lang/Math", "min", "(II)I"⟩ : MethodName) jdk_29_method_69_code 2 (some .int) :: ws) ({ frames := 0, cells := 0, slots := 0, locals := 0 } : Room)) (fun aA U => aA = #[(.int i), (.int j)] ∧ Z.Warmed39 U.vm ∧ U.heap = h0) (fun _ _ _ _ _ => True) (fun _ U oO U' => ∃ vV LL, oO = .returned vV ∧ Qmmin Z i j h0 n0 vV U'.heap LL ∧ FrameEnd U oO U' LL ({ frames := 0, cells := 0, slots := 0, locals := 0 } : Room).cells ({ frames := 0, cells := 0, slots := 0, locals := 0 } : Room).slots) := by
  refine MetFree.of_bodySF (Jvm.Free.JP.mathPlain rfl (by decide +kernel)) hisR ?_
  intro p e s m args below meth c s₁ Bd hml0 hP hK
  obtain ⟨rfl, hZ, hh⟩ := hP
  have hx := Bd.exec
  have hby := Bd.bytes
  have hml : c.maxLocals = 2 := hml0
  have hown : s.vm.findClass "java/lang/Math" = some m.cls := findClass_of_methodNamed Bd.named
  have hnm := (name_of_methodNamed Bd.named Bd.method).1
  have X0 : Stand p l e ({ frames := 0, cells := 0, slots := 0, locals := 0 } : Room) s m #[(.int i), (.int j)] below meth c s₁ [] 0 0 := Stand.of_body Bd
  have e0 : s₁.heap = h0 := by rw [← hh, Bd.state]; rfl
  have N0 := Fr.nil n0
  have K0 : Keep h0 h0 [] := Keep.refl _ _
  have pre0 : Rch p.tables e below (s₁.setTop (entryFrame m #[(.int i), (.int j)] 2)) (s₁.setTop (mkF m 0 #[.val (.int i), .val (.int j)] [])) := fun tgt ktg => castTop (ef_mmin m i j) ktg
  have pre_1 : Rch p.tables e below (s₁.setTop (entryFrame m #[(.int i), (.int j)] 2)) (s₁.setTop (mkF m 2 #[.val (.int i), .val (.int j)] [(.int j), (.int i)])) := fun tgt ktg => pre0 tgt (by
    show Steps p.tables e below (s₁.setTop (mkF m 0 #[.val (.int i), .val (.int j)] [])) _
    refine XS.iloadN X0.here hx rfl (hb hby d17_0) rfl ?_
    show Steps p.tables e below (s₁.setTop (mkF m 1 #[.val (.int i), .val (.int j)] [(.int i)])) _
    refine XS.iloadN X0.here hx rfl (hb hby d17_1) rfl ?_
    exact ktg)
  by_cases c_2 : j < i
  · skip
    have pre_3 : Rch p.tables e below (s₁.setTop (entryFrame m #[(.int i), (.int j)] 2)) (s₁.setTop (mkF m 9 #[.val (.int i), .val (.int j)] [])) := fun tgt ktg => pre_1 tgt (by
      show Steps p.tables e below (s₁.setTop (mkF m 2 #[.val (.int i), .val (.int j)] [(.int j), (.int i)])) _
      refine XS.icmpYes X0.here hx rfl (pc0 := 2) (pc' := 9) rfl (hb hby d17_2) rfl (tlt c_2).2.2.1 (by decide) (by decide) ?_
      exact ktg)
    have pre_4 : Rch p.tables e below (s₁.setTop (entryFrame m #[(.int i), (.int j)] 2)) (s₁.setTop (mkF m 10 #[.val (.int i), .val (.int j)] [(.int j)])) := fun tgt ktg => pre_3 tgt (by
      show Steps p.tables e below (s₁.setTop (mkF m 9 #[.val (.int i), .val (.int j)] [])) _
      refine XS.iloadN X0.here hx rfl (hb hby d17_9) rfl ?_
      exact ktg)
    obtain ⟨fs, hr, hrun, hended, hW, hsame⟩ := X0.leave (v := some (.int j)) (fun h => by rw [Bd.returns] at h; cases h)
    refine ⟨_, _, pre_4 _ ?_, hrun, hended, _, _, rfl, ?_, ⟨_, rfl⟩, hW, hsame.mono (by decide) (by decide)⟩
    · show Steps p.tables e below (s₁.setTop (mkF m 10 #[.val (.int i), .val (.int j)] [(.int j)])) _
      exact retI X0 hx Bd.returns (hb hby d17_10) hr
    · show Qmmin Z i j h0 n0 _ s₁.heap _
      rw [e0]
      exact ⟨by simp [c_2], N0, rfl⟩
  · skip
    have pre_5 : Rch p.tables e below (s₁.setTop (entryFrame m #[(.int i), (.int j)] 2)) (s₁.setTop (mkF m 5 #[.val (.int i), .val (.int j)] [])) := fun tgt ktg => pre_1 tgt (by
      show Steps p.tables e below (s₁.setTop (mkF m 2 #[.val (.int i), .val (.int j)] [(.int j), (.int i)])) _
      refine XS.icmpNo X0.here hx rfl (hb hby d17_2) rfl (flt c_2).2.2.1 ?_
      exact ktg)
    have pre_6 : Rch p.tables e below (s₁.setTop (entryFrame m #[(.int i), (.int j)] 2)) (s₁.setTop (mkF m 10 #[.val (.int i), .val (.int j)] [(.int i)])) := fun tgt ktg => pre_5 tgt (by
      show Steps p.tables e below (s₁.setTop (mkF m 5 #[.val (.int i), .val (.int j)] [])) _
      refine XS.iloadN X0.here hx rfl (hb hby d17_5) rfl ?_
      show Steps p.tables e below (s₁.setTop (mkF m 6 #[.val (.int i), .val (.int j)] [(.int i)])) _
      refine XS.goto X0.here hx rfl (pc0 := 6) (pc' := 10) rfl (hb hby d17_6) (by decide) (by decide) ?_
      exact ktg)
    obtain ⟨fs, hr, hrun, hended, hW, hsame⟩ := X0.leave (v := some (.int i)) (fun h => by rw [Bd.returns] at h; cases h)
    refine ⟨_, _, pre_6 _ ?_, hrun, hended, _, _, rfl, ?_, ⟨_, rfl⟩, hW, hsame.mono (by decide) (by decide)⟩
    · show Steps p.tables e below (s₁.setTop (mkF m 10 #[.val (.int i), .val (.int j)] [(.int i)])) _
      exact retI X0 hx Bd.returns (hb hby d17_10) hr
    · show Qmmin Z i j h0 n0 _ s₁.heap _
      rw [e0]
      exact ⟨by simp [c_2], N0, rfl⟩
theorem d15_0 : decode jdk_43_method_4_code 0 = .ok (.iload_n 0, 1) := by decide +kernel
theorem d15_1 : decode jdk_43_method_4_code 1 = .ok (.ifCond .lt 14, 3) := by decide +kernel
theorem d15_4 : decode jdk_43_method_4_code 4 = .ok (.iload_n 0, 1) := by decide +kernel
theorem d15_5 : decode jdk_43_method_4_code 5 = .ok (.sipush 255, 3) := by decide +kernel
theorem d15_8 : decode jdk_43_method_4_code 8 = .ok (.if_icmp .gt 7, 3) := by decide +kernel
theorem d15_11 : decode jdk_43_method_4_code 11 = .ok (.iconst 1, 1) := by decide +kernel
theorem d15_12 : decode jdk_43_method_4_code 12 = .ok (.goto 4, 3) := by decide +kernel
theorem d15_16 : decode jdk_43_method_4_code 16 = .ok (.ireturn, 1) := by decide +kernel
theorem pn_1 : plainName "java/lang/StringLatin1" = true := by first | (simp [plainName, overriddenIn]; done) | decide +kernel
theorem ef_ce (m : MethodId) (x0 : Int32) : entryFrame m #[(.int x0)] 1 = mkF m 0 #[.val (.int x0)] [] := by first | (simp [entryFrame, mkF, argsToLocals, Value.category]; done) | rfl
def Qce (Z : State) (q : Int32) (h0 : Heap) (n0 : Nat) (v : Option Value) (h : Heap) (L : List Loc) : Prop := v = some (.int 1) ∧ Fr n0 L ∧ h = h0
set_option maxRecDepth 65536 in
set_option maxHeartbeats 40000000 in
theorem rmce (l : Launch) (Z : State) (a0 : Array Value) (hw : ∀ d ∈ tables_1, d.before a0 Z = true) (ws : List Jvm.Cond) (q : Int32) (h0 : Heap) (n0 : Nat) (Z0 : n0 ≤ h0.size) (hq0 : ¬ q < 0) (hq : ¬ (255 : Int32) < q) :
    MetFree l (⟨"java/lang/StringLatin1", "canEncode", "(I)Z"⟩ : MethodName) (head1 (Jvm.Cond.code (⟨"java/lang/StringLatin1", "canEncode", "(I)Z"⟩ : MethodName) jdk_43_method_4_code 1 (some .boolean) :: ws) ({ frames := 0, cells := 0, slots := 0, locals := 0 } : Room)) (fun aA U => aA = #[(.int q)] ∧ Z.Warmed39 U.vm ∧ U.heap = h0) (fun _ _ _ _ _ => True) (fun _ U oO U' => ∃ vV LL, oO = .returned vV ∧ Qce Z q h0 n0 vV U'.heap LL ∧ FrameEnd U oO U' LL ({ frames := 0, cells := 0, slots := 0, locals := 0 } : Room).cells ({ frames := 0, cells := 0, slots := 0, locals := 0 } : Room).slots) := by
  refine MetFree.of_bodySF (plainFor_of_name pn_1) hisR ?_
  intro p e s m args below meth c s₁ Bd hml0 hP hK
  obtain ⟨rfl, hZ, hh⟩ := hP
  have hx := Bd.exec
  have hby := Bd.bytes
  have hml : c.maxLocals = 1 := hml0
  have hown : s.vm.findClass "java/lang/StringLatin1" = some m.cls := findClass_of_methodNamed Bd.named
  have hnm := (name_of_methodNamed Bd.named Bd.method).1
  have X0 : Stand p l e ({ frames := 0, cells := 0, slots := 0, locals := 0 } : Room) s m #[(.int q)] below meth c s₁ [] 0 0 := Stand.of_body Bd
  have e0 : s₁.heap = h0 := by rw [← hh, Bd.state]; rfl
  have N0 := Fr.nil n0
  have K0 : Keep h0 h0 [] := Keep.refl _ _
  have pre0 : Rch p.tables e below (s₁.setTop (entryFrame m #[(.int q)] 1)) (s₁.setTop (mkF m 0 #[.val (.int q)] [])) := fun tgt ktg => castTop (ef_ce m q) ktg
  have pre_1 : Rch p.tables e below (s₁.setTop (entryFrame m #[(.int q)] 1)) (s₁.setTop (mkF m 16 #[.val (.int q)] [(.int (1 : Int32))])) := fun tgt ktg => pre0 tgt (by
    show Steps p.tables e below (s₁.setTop (mkF m 0 #[.val (.int q)] [])) _
    refine XS.iloadN X0.here hx rfl (hb hby d15_0) rfl ?_
    show Steps p.tables e below (s₁.setTop (mkF m 1 #[.val (.int q)] [(.int q)])) _
    refine XS.ifNo X0.here hx rfl (hb hby d15_1) rfl ((if0 _ _).trans (flt hq0).1) ?_
    show Steps p.tables e below (s₁.setTop (mkF m 4 #[.val (.int q)] [])) _
    refine XS.iloadN X0.here hx rfl (hb hby d15_4) rfl ?_
    show Steps p.tables e below (s₁.setTop (mkF m 5 #[.val (.int q)] [(.int q)])) _
    refine XS.sipush X0.here hx rfl (hb hby d15_5) ?_
    show Steps p.tables e below (s₁.setTop (mkF m 8 #[.val (.int q)] [(.int (255 : Int32)), (.int q)])) _
    refine XS.icmpNo X0.here hx rfl (hb hby d15_8) rfl (flt hq).2.2.1 ?_
    show Steps p.tables e below (s₁.setTop (mkF m 11 #[.val (.int q)] [])) _
    refine XS.iconst X0.here hx rfl (hb hby d15_11) ?_
    show Steps p.tables e below (s₁.setTop (mkF m 12 #[.val (.int q)] [(.int (1 : Int32))])) _
    refine XS.goto X0.here hx rfl (pc0 := 12) (pc' := 16) rfl (hb hby d15_12) (by decide) (by decide) ?_
    exact ktg)
  obtain ⟨fs, hr, hrun, hended, hW, hsame⟩ := X0.leave (v := some (.int (1 : Int32))) (fun h => by rw [Bd.returns] at h; cases h)
  refine ⟨_, _, pre_1 _ ?_, hrun, hended, _, _, rfl, ?_, ⟨_, rfl⟩, hW, hsame.mono (by decide) (by decide)⟩
  · show Steps p.tables e below (s₁.setTop (mkF m 16 #[.val (.int q)] [(.int (1 : Int32))])) _
    exact retN X0 hx (t := .boolean) Bd.returns (by simp) (hb hby d15_16) hr
  · show Qce Z q h0 n0 _ s₁.heap _
    rw [e0]
    exact ⟨rfl, N0, rfl⟩
theorem d14_0 : decode jdk_43_method_22_code 0 = .ok (.iload_n 1, 1) := by decide +kernel
theorem d14_1 : decode jdk_43_method_22_code 1 = .ok (.invokestatic 88, 3) := by decide +kernel
theorem pd_1 : parseMethodDescriptor "(I)Z" = some ⟨[.int], some .boolean⟩ := by decide +kernel
theorem d14_4 : decode jdk_43_method_22_code 4 = .ok (.ifCond .ne 5, 3) := by decide +kernel
theorem d14_9 : decode jdk_43_method_22_code 9 = .ok (.iload_n 2, 1) := by decide +kernel
theorem d14_10 : decode jdk_43_method_22_code 10 = .ok (.iconst 0, 1) := by decide +kernel
theorem d14_11 : decode jdk_43_method_22_code 11 = .ok (.invokestatic 92, 3) := by decide +kernel
theorem pd_2 : parseMethodDescriptor "(II)I" = some ⟨[.int, .int], some .int⟩ := by decide +kernel
theorem d14_14 : decode jdk_43_method_22_code 14 = .ok (.istore_n 2, 1) := by decide +kernel
theorem d14_15 : decode jdk_43_method_22_code 15 = .ok (.iload_n 3, 1) := by decide +kernel
theorem d14_16 : decode jdk_43_method_22_code 16 = .ok (.aload_n 0, 1) := by decide +kernel
theorem d14_17 : decode jdk_43_method_22_code 17 = .ok (.arraylength, 1) := by decide +kernel
theorem d14_18 : decode jdk_43_method_22_code 18 = .ok (.invokestatic 38, 3) := by decide +kernel
theorem d14_21 : decode jdk_43_method_22_code 21 = .ok (.istore_n 3, 1) := by decide +kernel
theorem d14_22 : decode jdk_43_method_22_code 22 = .ok (.iload_n 2, 1) := by decide +kernel
theorem d14_23 : decode jdk_43_method_22_code 23 = .ok (.iload_n 3, 1) := by decide +kernel
theorem d14_24 : decode jdk_43_method_22_code 24 = .ok (.if_icmp .lt 5, 3) := by decide +kernel
theorem d14_27 : decode jdk_43_method_22_code 27 = .ok (.iconst (-1), 1) := by decide +kernel
theorem d14_28 : decode jdk_43_method_22_code 28 = .ok (.ireturn, 1) := by decide +kernel
theorem ef_li0 (m : MethodId) (x0 : Addr) (x1 : Int32) (x2 : Int32) (x3 : Int32) : entryFrame m #[(.ref x0), (.int x1), (.int x2), (.int x3)] 4 = mkF m 0 #[.val (.ref x0), .val (.int x1), .val (.int x2), .val (.int x3)] [] := by first | (simp [entryFrame, mkF, argsToLocals, Value.category]; done) | rfl
def Qli0 (Z : State) (b : Addr) (q : Int32) (kb : ClassId) (h0 : Heap) (n0 : Nat) (v : Option Value) (h : Heap) (L : List Loc) : Prop := v = some (.int (ixo [] (q.toInt8.toInt32) 0)) ∧ Fr n0 L ∧ h = h0
set_option maxRecDepth 65536 in
set_option maxHeartbeats 40000000 in
theorem rmli0 (l : Launch) (Z : State) (a0 : Array Value) (hw : ∀ d ∈ tables_1, d.before a0 Z = true) (ws : List Jvm.Cond) (b : Addr) (q : Int32) (kb : ClassId) (h0 : Heap) (n0 : Nat) (Z0 : n0 ≤ h0.size) (A1 : Arv Z h0 b kb .byte (0 : Int32) [] (.int (0 : Int32))) (hq0 : ¬ q < 0) (hq : ¬ (255 : Int32) < q) :
    MetFree l (⟨"java/lang/StringLatin1", "indexOf", "([BIII)I"⟩ : MethodName) (head1 (Jvm.Cond.code (⟨"java/lang/StringLatin1", "indexOf", "([BIII)I"⟩ : MethodName) jdk_43_method_22_code 4 (some .int) :: ws) ({ frames := 1, cells := 0, slots := 0, locals := 20 } : Room)) (fun aA U => aA = #[(.ref b), (.int q), (.int (0 : Int32)), (.int (0 : Int32))] ∧ Z.Warmed39 U.vm ∧ U.heap = h0) (fun _ _ _ _ _ => True) (fun _ U oO U' => ∃ vV LL, oO = .returned vV ∧ Qli0 Z b q kb h0 n0 vV U'.heap LL ∧ FrameEnd U oO U' LL ({ frames := 1, cells := 0, slots := 0, locals := 20 } : Room).cells ({ frames := 1, cells := 0, slots := 0, locals := 20 } : Room).slots) := by
  refine MetFree.of_bodySF (plainFor_of_name pn_1) hisR ?_
  intro p e s m args below meth c s₁ Bd hml0 hP hK
  obtain ⟨rfl, hZ, hh⟩ := hP
  have hx := Bd.exec
  have hby := Bd.bytes
  have hml : c.maxLocals = 4 := hml0
  have hown : s.vm.findClass "java/lang/StringLatin1" = some m.cls := findClass_of_methodNamed Bd.named
  have hnm := (name_of_methodNamed Bd.named Bd.method).1
  have X0 : Stand p l e ({ frames := 1, cells := 0, slots := 0, locals := 20 } : Room) s m #[(.ref b), (.int q), (.int (0 : Int32)), (.int (0 : Int32))] below meth c s₁ [] 0 0 := Stand.of_body Bd
  have e0 : s₁.heap = h0 := by rw [← hh, Bd.state]; rfl
  have N0 := Fr.nil n0
  have K0 : Keep h0 h0 [] := Keep.refl _ _
  have pre0 : Rch p.tables e below (s₁.setTop (entryFrame m #[(.ref b), (.int q), (.int (0 : Int32)), (.int (0 : Int32))] 4)) (s₁.setTop (mkF m 0 #[.val (.ref b), .val (.int q), .val (.int (0 : Int32)), .val (.int (0 : Int32))] [])) := fun tgt ktg => castTop (ef_li0 m b q (0 : Int32) (0 : Int32)) ktg
  have pre_1 : Rch p.tables e below (s₁.setTop (entryFrame m #[(.ref b), (.int q), (.int (0 : Int32)), (.int (0 : Int32))] 4)) (s₁.setTop (mkF m 1 #[.val (.ref b), .val (.int q), .val (.int (0 : Int32)), .val (.int (0 : Int32))] [(.int q)])) := fun tgt ktg => pre0 tgt (by
    show Steps p.tables e below (s₁.setTop (mkF m 0 #[.val (.ref b), .val (.int q), .val (.int (0 : Int32)), .val (.int (0 : Int32))] [])) _
    refine XS.iloadN X0.here hx rfl (hb hby d14_0) rfl ?_
    exact ktg)
  obtain ⟨_, _, ⟨T_2, L_2, k_2, n_2⟩, -, X_2, ⟨Lc_2, hQ_2, l_2, y_2, z_2⟩, st_2⟩ := Jvm.LawKit.callS X0 hx (y := (⟨"java/lang/StringLatin1", "canEncode", "(I)Z"⟩ : MethodName)) hown (mvT hZ (hw _ (List.mem_of_getElem? (i := 68) rfl))) (mvT hZ (hw _ (List.mem_of_getElem? (i := 69) rfl))) (mvT hZ (hw _ (List.mem_of_getElem? (i := 66) rfl))) (mvT hZ (hw _ (List.mem_of_getElem? (i := 70) rfl))) (by decide) (backOf (W := 0) (rmce l Z a0 hw [] q h0 n0 Z0 hq0 hq) hZ (hw _ (List.mem_of_getElem? (i := 70) rfl)) (hw _ (List.mem_of_getElem? (i := 66) rfl)) (by decide) (by decide)) (g := (mkF m 1 #[.val (.ref b), .val (.int q), .val (.int (0 : Int32)), .val (.int (0 : Int32))] [(.int q)])) rfl (by rw [hml]; rfl) (argsL := [(.int q)]) (rest := []) (lenOf pd_1 rfl) rfl (by show 2 * 0 + _ ≤ _; exact Nat.le_of_eq rfl) (hb hby d14_1) (fun _ _ => ⟨rfl, e0, (by decide : 0 + 0 ≤ _), (by decide : 0 + 0 ≤ _)⟩)
  dsimp only [Pt.U, Pt.locs, Pt.cells, Pt.slots] at X_2 l_2 y_2 z_2 st_2 hQ_2
  subst l_2 y_2 z_2
  obtain ⟨rfl, Nq_2, eh_2⟩ := hQ_2
  have N_3 := Fr.app N0 Nq_2
  have pre_2 : Rch p.tables e below (s₁.setTop (entryFrame m #[(.ref b), (.int q), (.int (0 : Int32)), (.int (0 : Int32))] 4)) (T_2.setTop (mkF m 4 #[.val (.ref b), .val (.int q), .val (.int (0 : Int32)), .val (.int (0 : Int32))] [(.int (1 : Int32))])) := fun tgt ktg => pre_1 tgt (st_2 tgt ktg)
  have pre_4 : Rch p.tables e below (s₁.setTop (entryFrame m #[(.ref b), (.int q), (.int (0 : Int32)), (.int (0 : Int32))] 4)) (T_2.setTop (mkF m 11 #[.val (.ref b), .val (.int q), .val (.int (0 : Int32)), .val (.int (0 : Int32))] [(.int (0 : Int32)), (.int (0 : Int32))])) := fun tgt ktg => pre_2 tgt (by
    show Steps p.tables e below (T_2.setTop (mkF m 4 #[.val (.ref b), .val (.int q), .val (.int (0 : Int32)), .val (.int (0 : Int32))] [(.int (1 : Int32))])) _
    refine XS.ifYes X_2.here hx rfl (pc0 := 4) (pc' := 9) rfl (hb hby d14_4) rfl ((if0 _ _).trans (feq (by decide : ¬ ((1 : Int32) = (0 : Int32)))).2) (by decide) (by decide) ?_
    show Steps p.tables e below (T_2.setTop (mkF m 9 #[.val (.ref b), .val (.int q), .val (.int (0 : Int32)), .val (.int (0 : Int32))] [])) _
    refine XS.iloadN X_2.here hx rfl (hb hby d14_9) rfl ?_
    show Steps p.tables e below (T_2.setTop (mkF m 10 #[.val (.ref b), .val (.int q), .val (.int (0 : Int32)), .val (.int (0 : Int32))] [(.int (0 : Int32))])) _
    refine XS.iconst X_2.here hx rfl (hb hby d14_10) ?_
    exact ktg)
  obtain ⟨_, _, ⟨T_5, L_5, k_5, n_5⟩, -, X_5, ⟨Lc_5, hQ_5, l_5, y_5, z_5⟩, st_5⟩ := Jvm.LawKit.callS X_2 hx (y := (⟨"java/lang/Math", "max", "(II)I"⟩ : MethodName)) hown (mvT hZ (hw _ (List.mem_of_getElem? (i := 71) rfl))) (mvT hZ (hw _ (List.mem_of_getElem? (i := 72) rfl))) (mvT hZ (hw _ (List.mem_of_getElem? (i := 73) rfl))) (mvT hZ (hw _ (List.mem_of_getElem? (i := 74) rfl))) (by decide) (backOf (W := 0) (rmmmax l Z a0 hw [] (0 : Int32) (0 : Int32) h0 n0 Z0) hZ (hw _ (List.mem_of_getElem? (i := 74) rfl)) (hw _ (List.mem_of_getElem? (i := 73) rfl)) (by decide) (by decide)) (g := (mkF m 11 #[.val (.ref b), .val (.int q), .val (.int (0 : Int32)), .val (.int (0 : Int32))] [(.int (0 : Int32)), (.int (0 : Int32))])) rfl (by rw [hml]; rfl) (argsL := [(.int (0 : Int32)), (.int (0 : Int32))]) (rest := []) (lenOf pd_2 rfl) rfl (by show 2 * 0 + _ ≤ _; exact Nat.le_of_eq rfl) (hb hby d14_11) (fun _ _ => ⟨rfl, eh_2, (by decide : 0 + 0 ≤ _), (by decide : 0 + 0 ≤ _)⟩)
  dsimp only [Pt.U, Pt.locs, Pt.cells, Pt.slots] at X_5 l_5 y_5 z_5 st_5 hQ_5
  subst l_5 y_5 z_5
  obtain ⟨rfl, Nq_5, eh_5⟩ := hQ_5
  have N_6 := Fr.app N_3 Nq_5
  have pre_5 : Rch p.tables e below (s₁.setTop (entryFrame m #[(.ref b), (.int q), (.int (0 : Int32)), (.int (0 : Int32))] 4)) (T_5.setTop (mkF m 14 #[.val (.ref b), .val (.int q), .val (.int (0 : Int32)), .val (.int (0 : Int32))] [(.int (0 : Int32))])) := fun tgt ktg => pre_4 tgt (st_5 tgt ktg)
  have pre_7 : Rch p.tables e below (s₁.setTop (entryFrame m #[(.ref b), (.int q), (.int (0 : Int32)), (.int (0 : Int32))] 4)) (T_5.setTop (mkF m 17 #[.val (.ref b), .val (.int q), .val (.int (0 : Int32)), .val (.int (0 : Int32))] [(.ref b), (.int (0 : Int32))])) := fun tgt ktg => pre_5 tgt (by
    show Steps p.tables e below (T_5.setTop (mkF m 14 #[.val (.ref b), .val (.int q), .val (.int (0 : Int32)), .val (.int (0 : Int32))] [(.int (0 : Int32))])) _
    refine XS.istoreN X_5.here hx rfl (hb hby d14_14) rfl (l' := #[.val (.ref b), .val (.int q), .val (.int (0 : Int32)), .val (.int (0 : Int32))]) rfl ?_
    show Steps p.tables e below (T_5.setTop (mkF m 15 #[.val (.ref b), .val (.int q), .val (.int (0 : Int32)), .val (.int (0 : Int32))] [])) _
    refine XS.iloadN X_5.here hx rfl (hb hby d14_15) rfl ?_
    show Steps p.tables e below (T_5.setTop (mkF m 16 #[.val (.ref b), .val (.int q), .val (.int (0 : Int32)), .val (.int (0 : Int32))] [(.int (0 : Int32))])) _
    refine XS.aloadN X_5.here hx rfl (hb hby d14_16) rfl rfl ?_
    exact ktg)
  obtain ⟨cl__8, Ar__8, q__8, S__8, N__8, H__8, G__8⟩ := id A1
  have pre_9 : Rch p.tables e below (s₁.setTop (entryFrame m #[(.ref b), (.int q), (.int (0 : Int32)), (.int (0 : Int32))] 4)) (T_5.setTop (mkF m 18 #[.val (.ref b), .val (.int q), .val (.int (0 : Int32)), .val (.int (0 : Int32))] [(.int (0 : Int32)), (.int (0 : Int32))])) := fun tgt ktg => pre_7 tgt (X_5.arraylength hx (by rw [eh_5]; exact Ar__8.1) (State.isArrayOf_alike hZ.alike Ar__8.2.1) (g := (mkF m 17 #[.val (.ref b), .val (.int q), .val (.int (0 : Int32)), .val (.int (0 : Int32))] [(.ref b), (.int (0 : Int32))])) rfl rfl (hb hby d14_17) _ (by rw [len_of S__8 N__8]; exact ktg))
  obtain ⟨_, _, ⟨T_10, L_10, k_10, n_10⟩, -, X_10, ⟨Lc_10, hQ_10, l_10, y_10, z_10⟩, st_10⟩ := Jvm.LawKit.callS X_5 hx (y := (⟨"java/lang/Math", "min", "(II)I"⟩ : MethodName)) hown (mvT hZ (hw _ (List.mem_of_getElem? (i := 75) rfl))) (mvT hZ (hw _ (List.mem_of_getElem? (i := 76) rfl))) (mvT hZ (hw _ (List.mem_of_getElem? (i := 73) rfl))) (mvT hZ (hw _ (List.mem_of_getElem? (i := 77) rfl))) (by decide) (backOf (W := 0) (rmmmin l Z a0 hw [] (0 : Int32) (0 : Int32) h0 n0 Z0) hZ (hw _ (List.mem_of_getElem? (i := 77) rfl)) (hw _ (List.mem_of_getElem? (i := 73) rfl)) (by decide) (by decide)) (g := (mkF m 18 #[.val (.ref b), .val (.int q), .val (.int (0 : Int32)), .val (.int (0 : Int32))] [(.int (0 : Int32)), (.int (0 : Int32))])) rfl (by rw [hml]; rfl) (argsL := [(.int (0 : Int32)), (.int (0 : Int32))]) (rest := []) (lenOf pd_2 rfl) rfl (by show 2 * 0 + _ ≤ _; exact Nat.le_of_eq rfl) (hb hby d14_18) (fun _ _ => ⟨rfl, eh_5, (by decide : 0 + 0 ≤ _), (by decide : 0 + 0 ≤ _)⟩)
  dsimp only [Pt.U, Pt.locs, Pt.cells, Pt.slots] at X_10 l_10 y_10 z_10 st_10 hQ_10
  subst l_10 y_10 z_10
  obtain ⟨rfl, Nq_10, eh_10⟩ := hQ_10
  have N_11 := Fr.app N_6 Nq_10
  have pre_10 : Rch p.tables e below (s₁.setTop (entryFrame m #[(.ref b), (.int q), (.int (0 : Int32)), (.int (0 : Int32))] 4)) (T_10.setTop (mkF m 21 #[.val (.ref b), .val (.int q), .val (.int (0 : Int32)), .val (.int (0 : Int32))] [(.int (0 : Int32))])) := fun tgt ktg => pre_9 tgt (st_10 tgt ktg)
  have pre_12 : Rch p.tables e below (s₁.setTop (entryFrame m #[(.ref b), (.int q), (.int (0 : Int32)), (.int (0 : Int32))] 4)) (T_10.setTop (mkF m 24 #[.val (.ref b), .val (.int q), .val (.int (0 : Int32)), .val (.int (0 : Int32))] [(.int (0 : Int32)), (.int (0 : Int32))])) := fun tgt ktg => pre_10 tgt (by
    show Steps p.tables e below (T_10.setTop (mkF m 21 #[.val (.ref b), .val (.int q), .val (.int (0 : Int32)), .val (.int (0 : Int32))] [(.int (0 : Int32))])) _
    refine XS.istoreN X_10.here hx rfl (hb hby d14_21) rfl (l' := #[.val (.ref b), .val (.int q), .val (.int (0 : Int32)), .val (.int (0 : Int32))]) rfl ?_
    show Steps p.tables e below (T_10.setTop (mkF m 22 #[.val (.ref b), .val (.int q), .val (.int (0 : Int32)), .val (.int (0 : Int32))] [])) _
    refine XS.iloadN X_10.here hx rfl (hb hby d14_22) rfl ?_
    show Steps p.tables e below (T_10.setTop (mkF m 23 #[.val (.ref b), .val (.int q), .val (.int (0 : Int32)), .val (.int (0 : Int32))] [(.int (0 : Int32))])) _
    refine XS.iloadN X_10.here hx rfl (hb hby d14_23) rfl ?_
    exact ktg)
  have pre_13 : Rch p.tables e below (s₁.setTop (entryFrame m #[(.ref b), (.int q), (.int (0 : Int32)), (.int (0 : Int32))] 4)) (T_10.setTop (mkF m 28 #[.val (.ref b), .val (.int q), .val (.int (0 : Int32)), .val (.int (0 : Int32))] [(.int (-1 : Int32))])) := fun tgt ktg => pre_12 tgt (by
    show Steps p.tables e below (T_10.setTop (mkF m 24 #[.val (.ref b), .val (.int q), .val (.int (0 : Int32)), .val (.int (0 : Int32))] [(.int (0 : Int32)), (.int (0 : Int32))])) _
    refine XS.icmpNo X_10.here hx rfl (hb hby d14_24) rfl (flt (by decide : ¬ ((0 : Int32) < (0 : Int32)))).1 ?_
    show Steps p.tables e below (T_10.setTop (mkF m 27 #[.val (.ref b), .val (.int q), .val (.int (0 : Int32)), .val (.int (0 : Int32))] [])) _
    refine XS.iconst X_10.here hx rfl (hb hby d14_27) ?_
    exact ktg)
  obtain ⟨fs, hr, hrun, hended, hW, hsame⟩ := X_10.leave (v := some (.int (-1 : Int32))) (fun h => by rw [Bd.returns] at h; cases h)
  refine ⟨_, _, pre_13 _ ?_, hrun, hended, _, _, rfl, ?_, ⟨_, rfl⟩, hW, hsame.mono (by decide) (by decide)⟩
  · show Steps p.tables e below (T_10.setTop (mkF m 28 #[.val (.ref b), .val (.int q), .val (.int (0 : Int32)), .val (.int (0 : Int32))] [(.int (-1 : Int32))])) _
    exact retI X_10 hx Bd.returns (hb hby d14_28) hr
  · show Qli0 Z b q kb h0 n0 _ T_10.heap _
    rw [eh_10]
    exact ⟨rfl, N_11, rfl⟩
theorem d10_0 : decode jdk_42_method_80_code 0 = .ok (.aload_n 0, 1) := by decide +kernel
theorem d10_1 : decode jdk_42_method_80_code 1 = .ok (.invokevirtual 492, 3) := by decide +kernel
theorem pd_3 : parseMethodDescriptor "()Z" = some ⟨[], some .boolean⟩ := by decide +kernel
theorem d10_4 : decode jdk_42_method_80_code 4 = .ok (.ifCond .eq 19, 3) := by decide +kernel
theorem d10_7 : decode jdk_42_method_80_code 7 = .ok (.aload_n 0, 1) := by decide +kernel
theorem d10_8 : decode jdk_42_method_80_code 8 = .ok (.getfield 9, 3) := by decide +kernel
theorem d10_11 : decode jdk_42_method_80_code 11 = .ok (.iload_n 1, 1) := by decide +kernel
theorem d10_12 : decode jdk_42_method_80_code 12 = .ok (.iload_n 2, 1) := by decide +kernel
theorem d10_13 : decode jdk_42_method_80_code 13 = .ok (.aload_n 0, 1) := by decide +kernel
theorem d10_14 : decode jdk_42_method_80_code 14 = .ok (.invokevirtual 505, 3) := by decide +kernel
theorem pd_4 : parseMethodDescriptor "()I" = some ⟨[], some .int⟩ := by decide +kernel
theorem d10_17 : decode jdk_42_method_80_code 17 = .ok (.invokestatic 637, 3) := by decide +kernel
theorem pd_5 : parseMethodDescriptor "([BIII)I" = some ⟨[(.array .byte), .int, .int, .int], some .int⟩ := by decide +kernel
theorem d10_20 : decode jdk_42_method_80_code 20 = .ok (.goto 16, 3) := by decide +kernel
theorem d10_36 : decode jdk_42_method_80_code 36 = .ok (.ireturn, 1) := by decide +kernel
theorem ef_i20 (m : MethodId) (x0 : Addr) (x1 : Int32) (x2 : Int32) : entryFrame m #[(.ref x0), (.int x1), (.int x2)] 3 = mkF m 0 #[.val (.ref x0), .val (.int x1), .val (.int x2)] [] := by first | (simp [entryFrame, mkF, argsToLocals, Value.category]; done) | rfl
def Qi20 (Z : State) (a : Addr) (q : Int32) (b : Addr) (kb : ClassId) (h0 : Heap) (n0 : Nat) (v : Option Value) (h : Heap) (L : List Loc) : Prop := v = some (.int (ixo [] (q.toInt8.toInt32) 0)) ∧ Fr n0 L ∧ h = h0
set_option maxRecDepth 65536 in
set_option maxHeartbeats 40000000 in
theorem rmi20 (l : Launch) (Z : State) (a0 : Array Value) (hw : ∀ d ∈ tables_1, d.before a0 Z = true) (ws : List Jvm.Cond) (a : Addr) (q : Int32) (b : Addr) (kb : ClassId) (h0 : Heap) (n0 : Nat) (Z0 : n0 ≤ h0.size) (E1 : Exa Z h0 a "java/lang/String") (F1 : Fld Z h0 a "java/lang/String" "coder" "B" (.int (0 : Int32))) (F2 : Fld Z h0 a "java/lang/String" "value" "[B" (.ref b)) (A1 : Arv Z h0 b kb .byte (0 : Int32) [] (.int (0 : Int32))) (cs : Int32) (hcs : ¬ cs = 0) (S1 : Sta Z h0 "java/lang/String" "COMPACT_STRINGS" "Z" (.int cs)) (hq0 : ¬ q < 0) (hq : ¬ (255 : Int32) < q) :
    MetFree l (⟨"java/lang/String", "indexOf", "(II)I"⟩ : MethodName) (head1 (Jvm.Cond.code (⟨"java/lang/String", "indexOf", "(II)I"⟩ : MethodName) jdk_42_method_80_code 3 (some .int) :: ws) ({ frames := 2, cells := 0, slots := 0, locals := 35 } : Room)) (fun aA U => aA = #[(.ref a), (.int q), (.int (0 : Int32))] ∧ Z.Warmed39 U.vm ∧ U.heap = h0) (fun _ _ _ _ _ => True) (fun _ U oO U' => ∃ vV LL, oO = .returned vV ∧ Qi20 Z a q b kb h0 n0 vV U'.heap LL ∧ FrameEnd U oO U' LL ({ frames := 2, cells := 0, slots := 0, locals := 35 } : Room).cells ({ frames := 2, cells := 0, slots := 0, locals := 35 } : Room).slots) := by
  refine MetFree.of_bodySF (plainFor_of_name pn_0) hisR ?_
  intro p e s m args below meth c s₁ Bd hml0 hP hK
  obtain ⟨rfl, hZ, hh⟩ := hP
  have hx := Bd.exec
  have hby := Bd.bytes
  have hml : c.maxLocals = 3 := hml0
  have hown : s.vm.findClass "java/lang/String" = some m.cls := findClass_of_methodNamed Bd.named
  have hnm := (name_of_methodNamed Bd.named Bd.method).1
  have X0 : Stand p l e ({ frames := 2, cells := 0, slots := 0, locals := 35 } : Room) s m #[(.ref a), (.int q), (.int (0 : Int32))] below meth c s₁ [] 0 0 := Stand.of_body Bd
  have e0 : s₁.heap = h0 := by rw [← hh, Bd.state]; rfl
  have N0 := Fr.nil n0
  have K0 : Keep h0 h0 [] := Keep.refl _ _
  have pre0 : Rch p.tables e below (s₁.setTop (entryFrame m #[(.ref a), (.int q), (.int (0 : Int32))] 3)) (s₁.setTop (mkF m 0 #[.val (.ref a), .val (.int q), .val (.int (0 : Int32))] [])) := fun tgt ktg => castTop (ef_i20 m a q (0 : Int32)) ktg
  have pre_1 : Rch p.tables e below (s₁.setTop (entryFrame m #[(.ref a), (.int q), (.int (0 : Int32))] 3)) (s₁.setTop (mkF m 1 #[.val (.ref a), .val (.int q), .val (.int (0 : Int32))] [(.ref a)])) := fun tgt ktg => pre0 tgt (by
    show Steps p.tables e below (s₁.setTop (mkF m 0 #[.val (.ref a), .val (.int q), .val (.int (0 : Int32))] [])) _
    refine XS.aloadN X0.here hx rfl (hb hby d10_0) rfl rfl ?_
    exact ktg)
  obtain ⟨cq_2, kq_2, q_2a, q_2b, q_2c⟩ := isOf hZ e0 E1
  obtain ⟨_, _, ⟨T_2, L_2, k_2, n_2⟩, -, X_2, ⟨Lc_2, hQ_2, l_2, y_2, z_2⟩, st_2⟩ := X0.virtualBack hx (y := (⟨"java/lang/String", "isLatin1", "()Z"⟩ : MethodName)) (z := (⟨"java/lang/String", "isLatin1", "()Z"⟩ : MethodName)) hown (mvT hZ (hw _ (List.mem_of_getElem? (i := 49) rfl))) (mvT hZ (hw _ (List.mem_of_getElem? (i := 50) rfl))) (notFace_of_selects (args := #[]) (mvT hZ (hw _ (List.mem_of_getElem? (i := 52) rfl)))) (mvT hZ (hw _ (List.mem_of_getElem? (i := 52) rfl))) (mvT hZ (hw _ (List.mem_of_getElem? (i := 51) rfl))) (by decide) (backOf (W := 0) (rmisL l Z a0 hw [] a h0 n0 Z0 F1 cs hcs S1) hZ (hw _ (List.mem_of_getElem? (i := 53) rfl)) (hw _ (List.mem_of_getElem? (i := 6) rfl)) (by decide) (by decide)) q_2a q_2c (g := (mkF m 1 #[.val (.ref a), .val (.int q), .val (.int (0 : Int32))] [(.ref a)])) rfl (by rw [hml]; rfl) (Steps.refl _) (argsL := []) (rest := []) (lenOf pd_3 rfl) rfl (by show 2 * 0 + _ ≤ _; exact Nat.le_of_eq rfl) (hb hby d10_1) (fun _ _ => ⟨rfl, e0, (by decide : 0 + 0 ≤ _), (by decide : 0 + 0 ≤ _)⟩)
  dsimp only [Pt.U, Pt.locs, Pt.cells, Pt.slots] at X_2 l_2 y_2 z_2 st_2 hQ_2
  subst l_2 y_2 z_2
  obtain ⟨rfl, Nq_2, eh_2⟩ := hQ_2
  have N_3 := Fr.app N0 Nq_2
  have pre_2 : Rch p.tables e below (s₁.setTop (entryFrame m #[(.ref a), (.int q), (.int (0 : Int32))] 3)) (T_2.setTop (mkF m 4 #[.val (.ref a), .val (.int q), .val (.int (0 : Int32))] [(.int (1 : Int32))])) := fun tgt ktg => pre_1 tgt (st_2.trans ktg)
  have pre_4 : Rch p.tables e below (s₁.setTop (entryFrame m #[(.ref a), (.int q), (.int (0 : Int32))] 3)) (T_2.setTop (mkF m 8 #[.val (.ref a), .val (.int q), .val (.int (0 : Int32))] [(.ref a)])) := fun tgt ktg => pre_2 tgt (by
    show Steps p.tables e below (T_2.setTop (mkF m 4 #[.val (.ref a), .val (.int q), .val (.int (0 : Int32))] [(.int (1 : Int32))])) _
    refine XS.ifNo X_2.here hx rfl (hb hby d10_4) rfl ((if0 _ _).trans (feq (by decide : ¬ ((1 : Int32) = (0 : Int32)))).1) ?_
    show Steps p.tables e below (T_2.setTop (mkF m 7 #[.val (.ref a), .val (.int q), .val (.int (0 : Int32))] [])) _
    refine XS.aloadN X_2.here hx rfl (hb hby d10_7) rfl rfl ?_
    exact ktg)
  obtain ⟨T_5, X_5, e_5, st_5⟩ := getF X_2 hx hZ hown (host := "") (Or.inl (hw _ (List.mem_of_getElem? (i := 32) rfl))) Via.refl eh_2 F2 (g := (mkF m 8 #[.val (.ref a), .val (.int q), .val (.int (0 : Int32))] [(.ref a)])) rfl rfl (hb hby d10_8)
  have pre_5 : Rch p.tables e below (s₁.setTop (entryFrame m #[(.ref a), (.int q), (.int (0 : Int32))] 3)) (T_5.setTop (mkF m 11 #[.val (.ref a), .val (.int q), .val (.int (0 : Int32))] [(.ref b)])) := fun tgt ktg => pre_4 tgt (st_5 tgt ktg)
  have pre_6 : Rch p.tables e below (s₁.setTop (entryFrame m #[(.ref a), (.int q), (.int (0 : Int32))] 3)) (T_5.setTop (mkF m 14 #[.val (.ref a), .val (.int q), .val (.int (0 : Int32))] [(.ref a), (.int (0 : Int32)), (.int q), (.ref b)])) := fun tgt ktg => pre_5 tgt (by
    show Steps p.tables e below (T_5.setTop (mkF m 11 #[.val (.ref a), .val (.int q), .val (.int (0 : Int32))] [(.ref b)])) _
    refine XS.iloadN X_5.here hx rfl (hb hby d10_11) rfl ?_
    show Steps p.tables e below (T_5.setTop (mkF m 12 #[.val (.ref a), .val (.int q), .val (.int (0 : Int32))] [(.int q), (.ref b)])) _
    refine XS.iloadN X_5.here hx rfl (hb hby d10_12) rfl ?_
    show Steps p.tables e below (T_5.setTop (mkF m 13 #[.val (.ref a), .val (.int q), .val (.int (0 : Int32))] [(.int (0 : Int32)), (.int q), (.ref b)])) _
    refine XS.aloadN X_5.here hx rfl (hb hby d10_13) rfl rfl ?_
    exact ktg)
  obtain ⟨cq_7, kq_7, q_7a, q_7b, q_7c⟩ := isOf hZ e_5 E1
  obtain ⟨_, _, ⟨T_7, L_7, k_7, n_7⟩, -, X_7, ⟨Lc_7, hQ_7, l_7, y_7, z_7⟩, st_7⟩ := X_5.virtualBack hx (y := (⟨"java/lang/String", "length", "()I"⟩ : MethodName)) (z := (⟨"java/lang/String", "length", "()I"⟩ : MethodName)) hown (mvT hZ (hw _ (List.mem_of_getElem? (i := 54) rfl))) (mvT hZ (hw _ (List.mem_of_getElem? (i := 55) rfl))) (notFace_of_selects (args := #[]) (mvT hZ (hw _ (List.mem_of_getElem? (i := 57) rfl)))) (mvT hZ (hw _ (List.mem_of_getElem? (i := 57) rfl))) (mvT hZ (hw _ (List.mem_of_getElem? (i := 56) rfl))) (by decide) (backOf (W := 3) (rmlen l Z a0 hw [] a b kb (0 : Int32) [] h0 n0 Z0 E1 F1 F2 A1 cs hcs S1) hZ (hw _ (List.mem_of_getElem? (i := 58) rfl)) (hw _ (List.mem_of_getElem? (i := 6) rfl)) (by decide) (by decide)) q_7a q_7c (g := (mkF m 14 #[.val (.ref a), .val (.int q), .val (.int (0 : Int32))] [(.ref a), (.int (0 : Int32)), (.int q), (.ref b)])) rfl (by rw [hml]; rfl) (Steps.refl _) (argsL := []) (rest := [(.int (0 : Int32)), (.int q), (.ref b)]) (lenOf pd_4 rfl) rfl (by show 2 * 0 + _ ≤ _; exact Nat.le_of_eq rfl) (hb hby d10_14) (fun _ _ => ⟨rfl, e_5, (by decide : 0 + 0 ≤ _), (by decide : 0 + 0 ≤ _)⟩)
  dsimp only [Pt.U, Pt.locs, Pt.cells, Pt.slots] at X_7 l_7 y_7 z_7 st_7 hQ_7
  subst l_7 y_7 z_7
  obtain ⟨rfl, Nq_7, eh_7⟩ := hQ_7
  have N_8 := Fr.app N_3 Nq_7
  have pre_7 : Rch p.tables e below (s₁.setTop (entryFrame m #[(.ref a), (.int q), (.int (0 : Int32))] 3)) (T_7.setTop (mkF m 17 #[.val (.ref a), .val (.int q), .val (.int (0 : Int32))] [(.int (0 : Int32)), (.int (0 : Int32)), (.int q), (.ref b)])) := fun tgt ktg => pre_6 tgt (st_7.trans ktg)
  obtain ⟨_, _, ⟨T_9, L_9, k_9, n_9⟩, -, X_9, ⟨Lc_9, hQ_9, l_9, y_9, z_9⟩, st_9⟩ := Jvm.LawKit.callS X_7 hx (y := (⟨"java/lang/StringLatin1", "indexOf", "([BIII)I"⟩ : MethodName)) hown (mvT hZ (hw _ (List.mem_of_getElem? (i := 64) rfl))) (mvT hZ (hw _ (List.mem_of_getElem? (i := 65) rfl))) (mvT hZ (hw _ (List.mem_of_getElem? (i := 66) rfl))) (mvT hZ (hw _ (List.mem_of_getElem? (i := 67) rfl))) (by decide) (backOf (W := 0) (rmli0 l Z a0 hw [] b q  kb h0 n0 Z0 A1 hq0 hq) hZ (hw _ (List.mem_of_getElem? (i := 67) rfl)) (hw _ (List.mem_of_getElem? (i := 66) rfl)) (by decide) (by decide)) (g := (mkF m 17 #[.val (.ref a), .val (.int q), .val (.int (0 : Int32))] [(.int (0 : Int32)), (.int (0 : Int32)), (.int q), (.ref b)])) rfl (by rw [hml]; rfl) (argsL := [(.ref b), (.int q), (.int (0 : Int32)), (.int (0 : Int32))]) (rest := []) (lenOf pd_5 rfl) rfl (by show 2 * 0 + _ ≤ _; exact Nat.le_of_eq rfl) (hb hby d10_17) (fun _ _ => ⟨rfl, eh_7, (by decide : 0 + 0 ≤ _), (by decide : 0 + 0 ≤ _)⟩)
  dsimp only [Pt.U, Pt.locs, Pt.cells, Pt.slots] at X_9 l_9 y_9 z_9 st_9 hQ_9
  subst l_9 y_9 z_9
  obtain ⟨rfl, Nq_9, eh_9⟩ := hQ_9
  have N_10 := Fr.app N_8 Nq_9
  have pre_9 : Rch p.tables e below (s₁.setTop (entryFrame m #[(.ref a), (.int q), (.int (0 : Int32))] 3)) (T_9.setTop (mkF m 20 #[.val (.ref a), .val (.int q), .val (.int (0 : Int32))] [(.int (ixo [] (q.toInt8.toInt32) 0))])) := fun tgt ktg => pre_7 tgt (st_9 tgt ktg)
  have pre_11 : Rch p.tables e below (s₁.setTop (entryFrame m #[(.ref a), (.int q), (.int (0 : Int32))] 3)) (T_9.setTop (mkF m 36 #[.val (.ref a), .val (.int q), .val (.int (0 : Int32))] [(.int (ixo [] (q.toInt8.toInt32) 0))])) := fun tgt ktg => pre_9 tgt (by
    show Steps p.tables e below (T_9.setTop (mkF m 20 #[.val (.ref a), .val (.int q), .val (.int (0 : Int32))] [(.int (ixo [] (q.toInt8.toInt32) 0))])) _
    refine XS.goto X_9.here hx rfl (pc0 := 20) (pc' := 36) rfl (hb hby d10_20) (by decide) (by decide) ?_
    exact ktg)
  obtain ⟨fs, hr, hrun, hended, hW, hsame⟩ := X_9.leave (v := some (.int (ixo [] (q.toInt8.toInt32) 0))) (fun h => by rw [Bd.returns] at h; cases h)
  refine ⟨_, _, pre_11 _ ?_, hrun, hended, _, _, rfl, ?_, ⟨_, rfl⟩, hW, hsame.mono (by decide) (by decide)⟩
  · show Steps p.tables e below (T_9.setTop (mkF m 36 #[.val (.ref a), .val (.int q), .val (.int (0 : Int32))] [(.int (ixo [] (q.toInt8.toInt32) 0))])) _
    exact retI X_9 hx Bd.returns (hb hby d10_36) hr
  · show Qi20 Z a q b kb h0 n0 _ T_9.heap _
    rw [eh_9]
    exact ⟨rfl, N_10, rfl⟩
theorem d9_0 : decode jdk_42_method_79_code 0 = .ok (.aload_n 0, 1) := by decide +kernel
theorem d9_1 : decode jdk_42_method_79_code 1 = .ok (.iload_n 1, 1) := by decide +kernel
theorem d9_2 : decode jdk_42_method_79_code 2 = .ok (.iconst 0, 1) := by decide +kernel
theorem d9_3 : decode jdk_42_method_79_code 3 = .ok (.invokevirtual 633, 3) := by decide +kernel
theorem d9_6 : decode jdk_42_method_79_code 6 = .ok (.ireturn, 1) := by decide +kernel
theorem ef_i10 (m : MethodId) (x0 : Addr) (x1 : Int32) : entryFrame m #[(.ref x0), (.int x1)] 2 = mkF m 0 #[.val (.ref x0), .val (.int x1)] [] := by first | (simp [entryFrame, mkF, argsToLocals, Value.category]; done) | rfl
def Qi10 (Z : State) (a : Addr) (q : Int32) (b : Addr) (kb : ClassId) (h0 : Heap) (n0 : Nat) (v : Option Value) (h : Heap) (L : List Loc) : Prop := v = some (.int (ixo [] (q.toInt8.toInt32) 0)) ∧ Fr n0 L ∧ h = h0
set_option maxRecDepth 65536 in
set_option maxHeartbeats 40000000 in
theorem rmi10 (l : Launch) (Z : State) (a0 : Array Value) (hw : ∀ d ∈ tables_1, d.before a0 Z = true) (ws : List Jvm.Cond) (a : Addr) (q : Int32) (b : Addr) (kb : ClassId) (h0 : Heap) (n0 : Nat) (Z0 : n0 ≤ h0.size) (E1 : Exa Z h0 a "java/lang/String") (F1 : Fld Z h0 a "java/lang/String" "coder" "B" (.int (0 : Int32))) (F2 : Fld Z h0 a "java/lang/String" "value" "[B" (.ref b)) (A1 : Arv Z h0 b kb .byte (0 : Int32) [] (.int (0 : Int32))) (cs : Int32) (hcs : ¬ cs = 0) (S1 : Sta Z h0 "java/lang/String" "COMPACT_STRINGS" "Z" (.int cs)) (hq0 : ¬ q < 0) (hq : ¬ (255 : Int32) < q) :
    MetFree l (⟨"java/lang/String", "indexOf", "(I)I"⟩ : MethodName) (head1 (Jvm.Cond.code (⟨"java/lang/String", "indexOf", "(I)I"⟩ : MethodName) jdk_42_method_79_code 2 (some .int) :: ws) ({ frames := 3, cells := 0, slots := 0, locals := 50 } : Room)) (fun aA U => aA = #[(.ref a), (.int q)] ∧ Z.Warmed39 U.vm ∧ U.heap = h0) (fun _ _ _ _ _ => True) (fun _ U oO U' => ∃ vV LL, oO = .returned vV ∧ Qi10 Z a q b kb h0 n0 vV U'.heap LL ∧ FrameEnd U oO U' LL ({ frames := 3, cells := 0, slots := 0, locals := 50 } : Room).cells ({ frames := 3, cells := 0, slots := 0, locals := 50 } : Room).slots) := by
  refine MetFree.of_bodySF (plainFor_of_name pn_0) hisR ?_
  intro p e s m args below meth c s₁ Bd hml0 hP hK
  obtain ⟨rfl, hZ, hh⟩ := hP
  have hx := Bd.exec
  have hby := Bd.bytes
  have hml : c.maxLocals = 2 := hml0
  have hown : s.vm.findClass "java/lang/String" = some m.cls := findClass_of_methodNamed Bd.named
  have hnm := (name_of_methodNamed Bd.named Bd.method).1
  have X0 : Stand p l e ({ frames := 3, cells := 0, slots := 0, locals := 50 } : Room) s m #[(.ref a), (.int q)] below meth c s₁ [] 0 0 := Stand.of_body Bd
  have e0 : s₁.heap = h0 := by rw [← hh, Bd.state]; rfl
  have N0 := Fr.nil n0
  have K0 : Keep h0 h0 [] := Keep.refl _ _
  have pre0 : Rch p.tables e below (s₁.setTop (entryFrame m #[(.ref a), (.int q)] 2)) (s₁.setTop (mkF m 0 #[.val (.ref a), .val (.int q)] [])) := fun tgt ktg => castTop (ef_i10 m a q) ktg
  have pre_1 : Rch p.tables e below (s₁.setTop (entryFrame m #[(.ref a), (.int q)] 2)) (s₁.setTop (mkF m 3 #[.val (.ref a), .val (.int q)] [(.int (0 : Int32)), (.int q), (.ref a)])) := fun tgt ktg => pre0 tgt (by
    show Steps p.tables e below (s₁.setTop (mkF m 0 #[.val (.ref a), .val (.int q)] [])) _
    refine XS.aloadN X0.here hx rfl (hb hby d9_0) rfl rfl ?_
    show Steps p.tables e below (s₁.setTop (mkF m 1 #[.val (.ref a), .val (.int q)] [(.ref a)])) _
    refine XS.iloadN X0.here hx rfl (hb hby d9_1) rfl ?_
    show Steps p.tables e below (s₁.setTop (mkF m 2 #[.val (.ref a), .val (.int q)] [(.int q), (.ref a)])) _
    refine XS.iconst X0.here hx rfl (hb hby d9_2) ?_
    exact ktg)
  obtain ⟨cq_2, kq_2, q_2a, q_2b, q_2c⟩ := isOf hZ e0 E1
  obtain ⟨_, _, ⟨T_2, L_2, k_2, n_2⟩, -, X_2, ⟨Lc_2, hQ_2, l_2, y_2, z_2⟩, st_2⟩ := X0.virtualBack hx (y := (⟨"java/lang/String", "indexOf", "(II)I"⟩ : MethodName)) (z := (⟨"java/lang/String", "indexOf", "(II)I"⟩ : MethodName)) hown (mvT hZ (hw _ (List.mem_of_getElem? (i := 44) rfl))) (mvT hZ (hw _ (List.mem_of_getElem? (i := 45) rfl))) (notFace_of_selects (args := #[]) (mvT hZ (hw _ (List.mem_of_getElem? (i := 47) rfl)))) (mvT hZ (hw _ (List.mem_of_getElem? (i := 47) rfl))) (mvT hZ (hw _ (List.mem_of_getElem? (i := 46) rfl))) (by decide) (backOf (W := 0) (rmi20 l Z a0 hw [] a q  b kb h0 n0 Z0 E1 F1 F2 A1 cs hcs S1 hq0 hq) hZ (hw _ (List.mem_of_getElem? (i := 48) rfl)) (hw _ (List.mem_of_getElem? (i := 6) rfl)) (by decide) (by decide)) q_2a q_2c (g := (mkF m 3 #[.val (.ref a), .val (.int q)] [(.int (0 : Int32)), (.int q), (.ref a)])) rfl (by rw [hml]; rfl) (Steps.refl _) (argsL := [(.int q), (.int (0 : Int32))]) (rest := []) (lenOf pd_2 rfl) rfl (by show 2 * 0 + _ ≤ _; exact Nat.le_of_eq rfl) (hb hby d9_3) (fun _ _ => ⟨rfl, e0, (by decide : 0 + 0 ≤ _), (by decide : 0 + 0 ≤ _)⟩)
  dsimp only [Pt.U, Pt.locs, Pt.cells, Pt.slots] at X_2 l_2 y_2 z_2 st_2 hQ_2
  subst l_2 y_2 z_2
  obtain ⟨rfl, Nq_2, eh_2⟩ := hQ_2
  have N_3 := Fr.app N0 Nq_2
  have pre_2 : Rch p.tables e below (s₁.setTop (entryFrame m #[(.ref a), (.int q)] 2)) (T_2.setTop (mkF m 6 #[.val (.ref a), .val (.int q)] [(.int (ixo [] (q.toInt8.toInt32) 0))])) := fun tgt ktg => pre_1 tgt (st_2.trans ktg)
  obtain ⟨fs, hr, hrun, hended, hW, hsame⟩ := X_2.leave (v := some (.int (ixo [] (q.toInt8.toInt32) 0))) (fun h => by rw [Bd.returns] at h; cases h)
  refine ⟨_, _, pre_2 _ ?_, hrun, hended, _, _, rfl, ?_, ⟨_, rfl⟩, hW, hsame.mono (by decide) (by decide)⟩
  · show Steps p.tables e below (T_2.setTop (mkF m 6 #[.val (.ref a), .val (.int q)] [(.int (ixo [] (q.toInt8.toInt32) 0))])) _
    exact retI X_2 hx Bd.returns (hb hby d9_6) hr
  · show Qi10 Z a q b kb h0 n0 _ T_2.heap _
    rw [eh_2]
    exact ⟨rfl, N_3, rfl⟩
theorem d18_0 : decode jdk_43_method_23_code 0 = .ok (.iload_n 1, 1) := by decide +kernel
theorem d18_1 : decode jdk_43_method_23_code 1 = .ok (.i2b, 1) := by decide +kernel
theorem d18_2 : decode jdk_43_method_23_code 2 = .ok (.istore 4, 2) := by decide +kernel
theorem d18_4 : decode jdk_43_method_23_code 4 = .ok (.iload_n 2, 1) := by decide +kernel
theorem d18_5 : decode jdk_43_method_23_code 5 = .ok (.istore 5, 2) := by decide +kernel
theorem d18_7 : decode jdk_43_method_23_code 7 = .ok (.iload 5, 2) := by decide +kernel
theorem d18_9 : decode jdk_43_method_23_code 9 = .ok (.iload_n 3, 1) := by decide +kernel
theorem d18_10 : decode jdk_43_method_23_code 10 = .ok (.if_icmp .ge 21, 3) := by decide +kernel
theorem d18_13 : decode jdk_43_method_23_code 13 = .ok (.aload_n 0, 1) := by decide +kernel
theorem d18_14 : decode jdk_43_method_23_code 14 = .ok (.iload 5, 2) := by decide +kernel
theorem d18_16 : decode jdk_43_method_23_code 16 = .ok (.baload, 1) := by decide +kernel
theorem d18_17 : decode jdk_43_method_23_code 17 = .ok (.iload 4, 2) := by decide +kernel
theorem d18_19 : decode jdk_43_method_23_code 19 = .ok (.if_icmp .ne 6, 3) := by decide +kernel
theorem d18_22 : decode jdk_43_method_23_code 22 = .ok (.iload 5, 2) := by decide +kernel
theorem d18_24 : decode jdk_43_method_23_code 24 = .ok (.ireturn, 1) := by decide +kernel
theorem d18_25 : decode jdk_43_method_23_code 25 = .ok (.iinc 5 1, 3) := by decide +kernel
theorem d18_28 : decode jdk_43_method_23_code 28 = .ok (.goto (-21), 3) := by decide +kernel
theorem d18_31 : decode jdk_43_method_23_code 31 = .ok (.iconst (-1), 1) := by decide +kernel
theorem d18_32 : decode jdk_43_method_23_code 32 = .ok (.ireturn, 1) := by decide +kernel
theorem ef_oc1 (m : MethodId) (x0 : Addr) (x1 : Int32) (x2 : Int32) (x3 : Int32) : entryFrame m #[(.ref x0), (.int x1), (.int x2), (.int x3)] 6 = mkF m 0 #[.val (.ref x0), .val (.int x1), .val (.int x2), .val (.int x3), .unset, .unset] [] := by first | (simp [entryFrame, mkF, argsToLocals, Value.category]; done) | rfl
def Qoc1 (Z : State) (b : Addr) (q : Int32) (v0 : Int32) (kb : ClassId) (h0 : Heap) (n0 : Nat) (v : Option Value) (h : Heap) (L : List Loc) : Prop := v = some (.int (ixo [v0] (q.toInt8.toInt32) 0)) ∧ Fr n0 L ∧ h = h0
set_option maxRecDepth 65536 in
set_option maxHeartbeats 40000000 in
theorem rmoc1 (l : Launch) (Z : State) (a0 : Array Value) (hw : ∀ d ∈ tables_1, d.before a0 Z = true) (ws : List Jvm.Cond) (b : Addr) (q : Int32) (v0 : Int32) (kb : ClassId) (h0 : Heap) (n0 : Nat) (Z0 : n0 ≤ h0.size) (A1 : Arv Z h0 b kb .byte (1 : Int32) [(.int v0)] (.int (0 : Int32))) :
    MetFree l (⟨"java/lang/StringLatin1", "indexOfChar", "([BIII)I"⟩ : MethodName) (head1 (Jvm.Cond.code (⟨"java/lang/StringLatin1", "indexOfChar", "([BIII)I"⟩ : MethodName) jdk_43_method_23_code 6 (some .int) :: ws) ({ frames := 0, cells := 0, slots := 0, locals := 0 } : Room)) (fun aA U => aA = #[(.ref b), (.int q), (.int (0 : Int32)), (.int (1 : Int32))] ∧ Z.Warmed39 U.vm ∧ U.heap = h0) (fun _ _ _ _ _ => True) (fun _ U oO U' => ∃ vV LL, oO = .returned vV ∧ Qoc1 Z b q v0 kb h0 n0 vV U'.heap LL ∧ FrameEnd U oO U' LL ({ frames := 0, cells := 0, slots := 0, locals := 0 } : Room).cells ({ frames := 0, cells := 0, slots := 0, locals := 0 } : Room).slots) := by
  refine MetFree.of_bodySF (plainFor_of_name pn_1) hisR ?_
  intro p e s m args below meth c s₁ Bd hml0 hP hK
  obtain ⟨rfl, hZ, hh⟩ := hP
  have hx := Bd.exec
  have hby := Bd.bytes
  have hml : c.maxLocals = 6 := hml0
  have hown : s.vm.findClass "java/lang/StringLatin1" = some m.cls := findClass_of_methodNamed Bd.named
  have hnm := (name_of_methodNamed Bd.named Bd.method).1
  have X0 : Stand p l e ({ frames := 0, cells := 0, slots := 0, locals := 0 } : Room) s m #[(.ref b), (.int q), (.int (0 : Int32)), (.int (1 : Int32))] below meth c s₁ [] 0 0 := Stand.of_body Bd
  have e0 : s₁.heap = h0 := by rw [← hh, Bd.state]; rfl
  have N0 := Fr.nil n0
  have K0 : Keep h0 h0 [] := Keep.refl _ _
  have pre0 : Rch p.tables e below (s₁.setTop (entryFrame m #[(.ref b), (.int q), (.int (0 : Int32)), (.int (1 : Int32))] 6)) (s₁.setTop (mkF m 0 #[.val (.ref b), .val (.int q), .val (.int (0 : Int32)), .val (.int (1 : Int32)), .unset, .unset] [])) := fun tgt ktg => castTop (ef_oc1 m b q (0 : Int32) (1 : Int32)) ktg
  have pre_1 : Rch p.tables e below (s₁.setTop (entryFrame m #[(.ref b), (.int q), (.int (0 : Int32)), (.int (1 : Int32))] 6)) (s₁.setTop (mkF m 16 #[.val (.ref b), .val (.int q), .val (.int (0 : Int32)), .val (.int (1 : Int32)), .val (.int (q.toInt8.toInt32)), .val (.int (0 : Int32))] [(.int (0 : Int32)), (.ref b)])) := fun tgt ktg => pre0 tgt (by
    show Steps p.tables e below (s₁.setTop (mkF m 0 #[.val (.ref b), .val (.int q), .val (.int (0 : Int32)), .val (.int (1 : Int32)), .unset, .unset] [])) _
    refine XS.iloadN X0.here hx rfl (hb hby d18_0) rfl ?_
    show Steps p.tables e below (s₁.setTop (mkF m 1 #[.val (.ref b), .val (.int q), .val (.int (0 : Int32)), .val (.int (1 : Int32)), .unset, .unset] [(.int q)])) _
    refine XT.i2b X0.here hx rfl (hb hby d18_1) rfl ?_
    show Steps p.tables e below (s₁.setTop (mkF m 2 #[.val (.ref b), .val (.int q), .val (.int (0 : Int32)), .val (.int (1 : Int32)), .unset, .unset] [(.int (q.toInt8.toInt32))])) _
    refine XS.istore X0.here hx rfl (hb hby d18_2) rfl (l' := #[.val (.ref b), .val (.int q), .val (.int (0 : Int32)), .val (.int (1 : Int32)), .val (.int (q.toInt8.toInt32)), .unset]) rfl ?_
    show Steps p.tables e below (s₁.setTop (mkF m 4 #[.val (.ref b), .val (.int q), .val (.int (0 : Int32)), .val (.int (1 : Int32)), .val (.int (q.toInt8.toInt32)), .unset] [])) _
    refine XS.iloadN X0.here hx rfl (hb hby d18_4) rfl ?_
    show Steps p.tables e below (s₁.setTop (mkF m 5 #[.val (.ref b), .val (.int q), .val (.int (0 : Int32)), .val (.int (1 : Int32)), .val (.int (q.toInt8.toInt32)), .unset] [(.int (0 : Int32))])) _
    refine XS.istore X0.here hx rfl (hb hby d18_5) rfl (l' := #[.val (.ref b), .val (.int q), .val (.int (0 : Int32)), .val (.int (1 : Int32)), .val (.int (q.toInt8.toInt32)), .val (.int (0 : Int32))]) rfl ?_
    show Steps p.tables e below (s₁.setTop (mkF m 7 #[.val (.ref b), .val (.int q), .val (.int (0 : Int32)), .val (.int (1 : Int32)), .val (.int (q.toInt8.toInt32)), .val (.int (0 : Int32))] [])) _
    refine XS.iload X0.here hx rfl (hb hby d18_7) rfl ?_
    show Steps p.tables e below (s₁.setTop (mkF m 9 #[.val (.ref b), .val (.int q), .val (.int (0 : Int32)), .val (.int (1 : Int32)), .val (.int (q.toInt8.toInt32)), .val (.int (0 : Int32))] [(.int (0 : Int32))])) _
    refine XS.iloadN X0.here hx rfl (hb hby d18_9) rfl ?_
    show Steps p.tables e below (s₁.setTop (mkF m 10 #[.val (.ref b), .val (.int q), .val (.int (0 : Int32)), .val (.int (1 : Int32)), .val (.int (q.toInt8.toInt32)), .val (.int (0 : Int32))] [(.int (1 : Int32)), (.int (0 : Int32))])) _
    refine XS.icmpNo X0.here hx rfl (hb hby d18_10) rfl (tlt (by decide : (0 : Int32) < (1 : Int32))).2.1 ?_
    show Steps p.tables e below (s₁.setTop (mkF m 13 #[.val (.ref b), .val (.int q), .val (.int (0 : Int32)), .val (.int (1 : Int32)), .val (.int (q.toInt8.toInt32)), .val (.int (0 : Int32))] [])) _
    refine XS.aloadN X0.here hx rfl (hb hby d18_13) rfl rfl ?_
    show Steps p.tables e below (s₁.setTop (mkF m 14 #[.val (.ref b), .val (.int q), .val (.int (0 : Int32)), .val (.int (1 : Int32)), .val (.int (q.toInt8.toInt32)), .val (.int (0 : Int32))] [(.ref b)])) _
    refine XS.iload X0.here hx rfl (hb hby d18_14) rfl ?_
    exact ktg)
  obtain ⟨cl__2, Ar__2, q__2, S__2, N__2, H__2, G__2⟩ := id A1
  have hin__2 : ¬ ((0 : Int32) < 0 ∨ cl__2.slots.size ≤ ((0 : Int32)).toNatClampNeg) := inb_of S__2 ⟨by decide, by decide⟩
  have hat__2 : cl__2.slots[((0 : Int32)).toNatClampNeg]? = some (.int v0) := H__2.at hin__2 rfl
  have pre_3 : Rch p.tables e below (s₁.setTop (entryFrame m #[(.ref b), (.int q), (.int (0 : Int32)), (.int (1 : Int32))] 6)) (s₁.setTop (mkF m 17 #[.val (.ref b), .val (.int q), .val (.int (0 : Int32)), .val (.int (1 : Int32)), .val (.int (q.toInt8.toInt32)), .val (.int (0 : Int32))] [(.int v0)])) := fun tgt ktg => pre_1 tgt (X0.baloadBytes hx (j := (0 : Int32)) (v := (.int v0)) (by rw [e0]; exact Ar__2.1) (State.isArrayOf_alike hZ.alike Ar__2.2.1) Ar__2.2.2 hin__2 hat__2 (g := (mkF m 16 #[.val (.ref b), .val (.int q), .val (.int (0 : Int32)), .val (.int (1 : Int32)), .val (.int (q.toInt8.toInt32)), .val (.int (0 : Int32))] [(.int (0 : Int32)), (.ref b)])) rfl rfl (hb hby d18_16) _ ktg)
  have pre_4 : Rch p.tables e below (s₁.setTop (entryFrame m #[(.ref b), (.int q), (.int (0 : Int32)), (.int (1 : Int32))] 6)) (s₁.setTop (mkF m 19 #[.val (.ref b), .val (.int q), .val (.int (0 : Int32)), .val (.int (1 : Int32)), .val (.int (q.toInt8.toInt32)), .val (.int (0 : Int32))] [(.int (q.toInt8.toInt32)), (.int v0)])) := fun tgt ktg => pre_3 tgt (by
    show Steps p.tables e below (s₁.setTop (mkF m 17 #[.val (.ref b), .val (.int q), .val (.int (0 : Int32)), .val (.int (1 : Int32)), .val (.int (q.toInt8.toInt32)), .val (.int (0 : Int32))] [(.int v0)])) _
    refine XS.iload X0.here hx rfl (hb hby d18_17) rfl ?_
    exact ktg)
  by_cases c_5 : v0 = (q.toInt8.toInt32)
  · skip
    have pre_6 : Rch p.tables e below (s₁.setTop (entryFrame m #[(.ref b), (.int q), (.int (0 : Int32)), (.int (1 : Int32))] 6)) (s₁.setTop (mkF m 22 #[.val (.ref b), .val (.int q), .val (.int (0 : Int32)), .val (.int (1 : Int32)), .val (.int (q.toInt8.toInt32)), .val (.int (0 : Int32))] [])) := fun tgt ktg => pre_4 tgt (by
      show Steps p.tables e below (s₁.setTop (mkF m 19 #[.val (.ref b), .val (.int q), .val (.int (0 : Int32)), .val (.int (1 : Int32)), .val (.int (q.toInt8.toInt32)), .val (.int (0 : Int32))] [(.int (q.toInt8.toInt32)), (.int v0)])) _
      refine XS.icmpNo X0.here hx rfl (hb hby d18_19) rfl (teq c_5).2 ?_
      exact ktg)
    have pre_7 : Rch p.tables e below (s₁.setTop (entryFrame m #[(.ref b), (.int q), (.int (0 : Int32)), (.int (1 : Int32))] 6)) (s₁.setTop (mkF m 24 #[.val (.ref b), .val (.int q), .val (.int (0 : Int32)), .val (.int (1 : Int32)), .val (.int (q.toInt8.toInt32)), .val (.int (0 : Int32))] [(.int (0 : Int32))])) := fun tgt ktg => pre_6 tgt (by
      show Steps p.tables e below (s₁.setTop (mkF m 22 #[.val (.ref b), .val (.int q), .val (.int (0 : Int32)), .val (.int (1 : Int32)), .val (.int (q.toInt8.toInt32)), .val (.int (0 : Int32))] [])) _
      refine XS.iload X0.here hx rfl (hb hby d18_22) rfl ?_
      exact ktg)
    obtain ⟨fs, hr, hrun, hended, hW, hsame⟩ := X0.leave (v := some (.int (0 : Int32))) (fun h => by rw [Bd.returns] at h; cases h)
    refine ⟨_, _, pre_7 _ ?_, hrun, hended, _, _, rfl, ?_, ⟨_, rfl⟩, hW, hsame.mono (by decide) (by decide)⟩
    · show Steps p.tables e below (s₁.setTop (mkF m 24 #[.val (.ref b), .val (.int q), .val (.int (0 : Int32)), .val (.int (1 : Int32)), .val (.int (q.toInt8.toInt32)), .val (.int (0 : Int32))] [(.int (0 : Int32))])) _
      exact retI X0 hx Bd.returns (hb hby d18_24) hr
    · show Qoc1 Z b q v0 kb h0 n0 _ s₁.heap _
      rw [e0]
      exact ⟨by simp [ixo, c_5], N0, rfl⟩
  · skip
    have pre_8 : Rch p.tables e below (s₁.setTop (entryFrame m #[(.ref b), (.int q), (.int (0 : Int32)), (.int (1 : Int32))] 6)) (s₁.setTop (mkF m 25 #[.val (.ref b), .val (.int q), .val (.int (0 : Int32)), .val (.int (1 : Int32)), .val (.int (q.toInt8.toInt32)), .val (.int (0 : Int32))] [])) := fun tgt ktg => pre_4 tgt (by
      show Steps p.tables e below (s₁.setTop (mkF m 19 #[.val (.ref b), .val (.int q), .val (.int (0 : Int32)), .val (.int (1 : Int32)), .val (.int (q.toInt8.toInt32)), .val (.int (0 : Int32))] [(.int (q.toInt8.toInt32)), (.int v0)])) _
      refine XS.icmpYes X0.here hx rfl (pc0 := 19) (pc' := 25) rfl (hb hby d18_19) rfl (feq c_5).2 (by decide) (by decide) ?_
      exact ktg)
    have pre_9 : Rch p.tables e below (s₁.setTop (entryFrame m #[(.ref b), (.int q), (.int (0 : Int32)), (.int (1 : Int32))] 6)) (s₁.setTop (mkF m 7 #[.val (.ref b), .val (.int q), .val (.int (0 : Int32)), .val (.int (1 : Int32)), .val (.int (q.toInt8.toInt32)), .val (.int (1 : Int32))] [])) := fun tgt ktg => pre_8 tgt (by
      show Steps p.tables e below (s₁.setTop (mkF m 25 #[.val (.ref b), .val (.int q), .val (.int (0 : Int32)), .val (.int (1 : Int32)), .val (.int (q.toInt8.toInt32)), .val (.int (0 : Int32))] [])) _
      refine XS.iinc X0.here hx rfl (hb hby d18_25) rfl (l' := #[.val (.ref b), .val (.int q), .val (.int (0 : Int32)), .val (.int (1 : Int32)), .val (.int (q.toInt8.toInt32)), .val (.int (1 : Int32))]) rfl ?_
      show Steps p.tables e below (s₁.setTop (mkF m 28 #[.val (.ref b), .val (.int q), .val (.int (0 : Int32)), .val (.int (1 : Int32)), .val (.int (q.toInt8.toInt32)), .val (.int (1 : Int32))] [])) _
      refine XS.goto X0.here hx rfl (pc0 := 28) (pc' := 7) rfl (hb hby d18_28) (by decide) (by decide) ?_
      exact ktg)
    have pre_10 : Rch p.tables e below (s₁.setTop (entryFrame m #[(.ref b), (.int q), (.int (0 : Int32)), (.int (1 : Int32))] 6)) (s₁.setTop (mkF m 32 #[.val (.ref b), .val (.int q), .val (.int (0 : Int32)), .val (.int (1 : Int32)), .val (.int (q.toInt8.toInt32)), .val (.int (1 : Int32))] [(.int (-1 : Int32))])) := fun tgt ktg => pre_9 tgt (by
      show Steps p.tables e below (s₁.setTop (mkF m 7 #[.val (.ref b), .val (.int q), .val (.int (0 : Int32)), .val (.int (1 : Int32)), .val (.int (q.toInt8.toInt32)), .val (.int (1 : Int32))] [])) _
      refine XS.iload X0.here hx rfl (hb hby d18_7) rfl ?_
      show Steps p.tables e below (s₁.setTop (mkF m 9 #[.val (.ref b), .val (.int q), .val (.int (0 : Int32)), .val (.int (1 : Int32)), .val (.int (q.toInt8.toInt32)), .val (.int (1 : Int32))] [(.int (1 : Int32))])) _
      refine XS.iloadN X0.here hx rfl (hb hby d18_9) rfl ?_
      show Steps p.tables e below (s₁.setTop (mkF m 10 #[.val (.ref b), .val (.int q), .val (.int (0 : Int32)), .val (.int (1 : Int32)), .val (.int (q.toInt8.toInt32)), .val (.int (1 : Int32))] [(.int (1 : Int32)), (.int (1 : Int32))])) _
      refine XS.icmpYes X0.here hx rfl (pc0 := 10) (pc' := 31) rfl (hb hby d18_10) rfl (flt (by decide : ¬ ((1 : Int32) < (1 : Int32)))).2.1 (by decide) (by decide) ?_
      show Steps p.tables e below (s₁.setTop (mkF m 31 #[.val (.ref b), .val (.int q), .val (.int (0 : Int32)), .val (.int (1 : Int32)), .val (.int (q.toInt8.toInt32)), .val (.int (1 : Int32))] [])) _
      refine XS.iconst X0.here hx rfl (hb hby d18_31) ?_
      exact ktg)
    obtain ⟨fs, hr, hrun, hended, hW, hsame⟩ := X0.leave (v := some (.int (-1 : Int32))) (fun h => by rw [Bd.returns] at h; cases h)
    refine ⟨_, _, pre_10 _ ?_, hrun, hended, _, _, rfl, ?_, ⟨_, rfl⟩, hW, hsame.mono (by decide) (by decide)⟩
    · show Steps p.tables e below (s₁.setTop (mkF m 32 #[.val (.ref b), .val (.int q), .val (.int (0 : Int32)), .val (.int (1 : Int32)), .val (.int (q.toInt8.toInt32)), .val (.int (1 : Int32))] [(.int (-1 : Int32))])) _
      exact retI X0 hx Bd.returns (hb hby d18_32) hr
    · show Qoc1 Z b q v0 kb h0 n0 _ s₁.heap _
      rw [e0]
      exact ⟨by simp [ixo, c_5], N0, rfl⟩
theorem d14_29 : decode jdk_43_method_22_code 29 = .ok (.aload_n 0, 1) := by decide +kernel
theorem d14_30 : decode jdk_43_method_22_code 30 = .ok (.iload_n 1, 1) := by decide +kernel
theorem d14_31 : decode jdk_43_method_22_code 31 = .ok (.iload_n 2, 1) := by decide +kernel
theorem d14_32 : decode jdk_43_method_22_code 32 = .ok (.iload_n 3, 1) := by decide +kernel
theorem d14_33 : decode jdk_43_method_22_code 33 = .ok (.invokestatic 95, 3) := by decide +kernel
theorem d14_36 : decode jdk_43_method_22_code 36 = .ok (.ireturn, 1) := by decide +kernel
theorem ef_li1 (m : MethodId) (x0 : Addr) (x1 : Int32) (x2 : Int32) (x3 : Int32) : entryFrame m #[(.ref x0), (.int x1), (.int x2), (.int x3)] 4 = mkF m 0 #[.val (.ref x0), .val (.int x1), .val (.int x2), .val (.int x3)] [] := by first | (simp [entryFrame, mkF, argsToLocals, Value.category]; done) | rfl
def Qli1 (Z : State) (b : Addr) (q : Int32) (v0 : Int32) (kb : ClassId) (h0 : Heap) (n0 : Nat) (v : Option Value) (h : Heap) (L : List Loc) : Prop := v = some (.int (ixo [v0] (q.toInt8.toInt32) 0)) ∧ Fr n0 L ∧ h = h0
set_option maxRecDepth 65536 in
set_option maxHeartbeats 40000000 in
theorem rmli1 (l : Launch) (Z : State) (a0 : Array Value) (hw : ∀ d ∈ tables_1, d.before a0 Z = true) (ws : List Jvm.Cond) (b : Addr) (q : Int32) (v0 : Int32) (kb : ClassId) (h0 : Heap) (n0 : Nat) (Z0 : n0 ≤ h0.size) (A1 : Arv Z h0 b kb .byte (1 : Int32) [(.int v0)] (.int (0 : Int32))) (hq0 : ¬ q < 0) (hq : ¬ (255 : Int32) < q) :
    MetFree l (⟨"java/lang/StringLatin1", "indexOf", "([BIII)I"⟩ : MethodName) (head1 (Jvm.Cond.code (⟨"java/lang/StringLatin1", "indexOf", "([BIII)I"⟩ : MethodName) jdk_43_method_22_code 4 (some .int) :: ws) ({ frames := 1, cells := 0, slots := 0, locals := 20 } : Room)) (fun aA U => aA = #[(.ref b), (.int q), (.int (0 : Int32)), (.int (1 : Int32))] ∧ Z.Warmed39 U.vm ∧ U.heap = h0) (fun _ _ _ _ _ => True) (fun _ U oO U' => ∃ vV LL, oO = .returned vV ∧ Qli1 Z b q v0 kb h0 n0 vV U'.heap LL ∧ FrameEnd U oO U' LL ({ frames := 1, cells := 0, slots := 0, locals := 20 } : Room).cells ({ frames := 1, cells := 0, slots := 0, locals := 20 } : Room).slots) := by
  refine MetFree.of_bodySF (plainFor_of_name pn_1) hisR ?_
  intro p e s m args below meth c s₁ Bd hml0 hP hK
  obtain ⟨rfl, hZ, hh⟩ := hP
  have hx := Bd.exec
  have hby := Bd.bytes
  have hml : c.maxLocals = 4 := hml0
  have hown : s.vm.findClass "java/lang/StringLatin1" = some m.cls := findClass_of_methodNamed Bd.named
  have hnm := (name_of_methodNamed Bd.named Bd.method).1
  have X0 : Stand p l e ({ frames := 1, cells := 0, slots := 0, locals := 20 } : Room) s m #[(.ref b), (.int q), (.int (0 : Int32)), (.int (1 : Int32))] below meth c s₁ [] 0 0 := Stand.of_body Bd
  have e0 : s₁.heap = h0 := by rw [← hh, Bd.state]; rfl
  have N0 := Fr.nil n0
  have K0 : Keep h0 h0 [] := Keep.refl _ _
  have pre0 : Rch p.tables e below (s₁.setTop (entryFrame m #[(.ref b), (.int q), (.int (0 : Int32)), (.int (1 : Int32))] 4)) (s₁.setTop (mkF m 0 #[.val (.ref b), .val (.int q), .val (.int (0 : Int32)), .val (.int (1 : Int32))] [])) := fun tgt ktg => castTop (ef_li1 m b q (0 : Int32) (1 : Int32)) ktg
  have pre_1 : Rch p.tables e below (s₁.setTop (entryFrame m #[(.ref b), (.int q), (.int (0 : Int32)), (.int (1 : Int32))] 4)) (s₁.setTop (mkF m 1 #[.val (.ref b), .val (.int q), .val (.int (0 : Int32)), .val (.int (1 : Int32))] [(.int q)])) := fun tgt ktg => pre0 tgt (by
    show Steps p.tables e below (s₁.setTop (mkF m 0 #[.val (.ref b), .val (.int q), .val (.int (0 : Int32)), .val (.int (1 : Int32))] [])) _
    refine XS.iloadN X0.here hx rfl (hb hby d14_0) rfl ?_
    exact ktg)
  obtain ⟨_, _, ⟨T_2, L_2, k_2, n_2⟩, -, X_2, ⟨Lc_2, hQ_2, l_2, y_2, z_2⟩, st_2⟩ := Jvm.LawKit.callS X0 hx (y := (⟨"java/lang/StringLatin1", "canEncode", "(I)Z"⟩ : MethodName)) hown (mvT hZ (hw _ (List.mem_of_getElem? (i := 68) rfl))) (mvT hZ (hw _ (List.mem_of_getElem? (i := 69) rfl))) (mvT hZ (hw _ (List.mem_of_getElem? (i := 66) rfl))) (mvT hZ (hw _ (List.mem_of_getElem? (i := 70) rfl))) (by decide) (backOf (W := 0) (rmce l Z a0 hw [] q h0 n0 Z0 hq0 hq) hZ (hw _ (List.mem_of_getElem? (i := 70) rfl)) (hw _ (List.mem_of_getElem? (i := 66) rfl)) (by decide) (by decide)) (g := (mkF m 1 #[.val (.ref b), .val (.int q), .val (.int (0 : Int32)), .val (.int (1 : Int32))] [(.int q)])) rfl (by rw [hml]; rfl) (argsL := [(.int q)]) (rest := []) (lenOf pd_1 rfl) rfl (by show 2 * 0 + _ ≤ _; exact Nat.le_of_eq rfl) (hb hby d14_1) (fun _ _ => ⟨rfl, e0, (by decide : 0 + 0 ≤ _), (by decide : 0 + 0 ≤ _)⟩)
  dsimp only [Pt.U, Pt.locs, Pt.cells, Pt.slots] at X_2 l_2 y_2 z_2 st_2 hQ_2
  subst l_2 y_2 z_2
  obtain ⟨rfl, Nq_2, eh_2⟩ := hQ_2
  have N_3 := Fr.app N0 Nq_2
  have pre_2 : Rch p.tables e below (s₁.setTop (entryFrame m #[(.ref b), (.int q), (.int (0 : Int32)), (.int (1 : Int32))] 4)) (T_2.setTop (mkF m 4 #[.val (.ref b), .val (.int q), .val (.int (0 : Int32)), .val (.int (1 : Int32))] [(.int (1 : Int32))])) := fun tgt ktg => pre_1 tgt (st_2 tgt ktg)
  have pre_4 : Rch p.tables e below (s₁.setTop (entryFrame m #[(.ref b), (.int q), (.int (0 : Int32)), (.int (1 : Int32))] 4)) (T_2.setTop (mkF m 11 #[.val (.ref b), .val (.int q), .val (.int (0 : Int32)), .val (.int (1 : Int32))] [(.int (0 : Int32)), (.int (0 : Int32))])) := fun tgt ktg => pre_2 tgt (by
    show Steps p.tables e below (T_2.setTop (mkF m 4 #[.val (.ref b), .val (.int q), .val (.int (0 : Int32)), .val (.int (1 : Int32))] [(.int (1 : Int32))])) _
    refine XS.ifYes X_2.here hx rfl (pc0 := 4) (pc' := 9) rfl (hb hby d14_4) rfl ((if0 _ _).trans (feq (by decide : ¬ ((1 : Int32) = (0 : Int32)))).2) (by decide) (by decide) ?_
    show Steps p.tables e below (T_2.setTop (mkF m 9 #[.val (.ref b), .val (.int q), .val (.int (0 : Int32)), .val (.int (1 : Int32))] [])) _
    refine XS.iloadN X_2.here hx rfl (hb hby d14_9) rfl ?_
    show Steps p.tables e below (T_2.setTop (mkF m 10 #[.val (.ref b), .val (.int q), .val (.int (0 : Int32)), .val (.int (1 : Int32))] [(.int (0 : Int32))])) _
    refine XS.iconst X_2.here hx rfl (hb hby d14_10) ?_
    exact ktg)
  obtain ⟨_, _, ⟨T_5, L_5, k_5, n_5⟩, -, X_5, ⟨Lc_5, hQ_5, l_5, y_5, z_5⟩, st_5⟩ := Jvm.LawKit.callS X_2 hx (y := (⟨"java/lang/Math", "max", "(II)I"⟩ : MethodName)) hown (mvT hZ (hw _ (List.mem_of_getElem? (i := 71) rfl))) (mvT hZ (hw _ (List.mem_of_getElem? (i := 72) rfl))) (mvT hZ (hw _ (List.mem_of_getElem? (i := 73) rfl))) (mvT hZ (hw _ (List.mem_of_getElem? (i := 74) rfl))) (by decide) (backOf (W := 0) (rmmmax l Z a0 hw [] (0 : Int32) (0 : Int32) h0 n0 Z0) hZ (hw _ (List.mem_of_getElem? (i := 74) rfl)) (hw _ (List.mem_of_getElem? (i := 73) rfl)) (by decide) (by decide)) (g := (mkF m 11 #[.val (.ref b), .val (.int q), .val (.int (0 : Int32)), .val (.int (1 : Int32))] [(.int (0 : Int32)), (.int (0 : Int32))])) rfl (by rw [hml]; rfl) (argsL := [(.int (0 : Int32)), (.int (0 : Int32))]) (rest := []) (lenOf pd_2 rfl) rfl (by show 2 * 0 + _ ≤ _; exact Nat.le_of_eq rfl) (hb hby d14_11) (fun _ _ => ⟨rfl, eh_2, (by decide : 0 + 0 ≤ _), (by decide : 0 + 0 ≤ _)⟩)
  dsimp only [Pt.U, Pt.locs, Pt.cells, Pt.slots] at X_5 l_5 y_5 z_5 st_5 hQ_5
  subst l_5 y_5 z_5
  obtain ⟨rfl, Nq_5, eh_5⟩ := hQ_5
  have N_6 := Fr.app N_3 Nq_5
  have pre_5 : Rch p.tables e below (s₁.setTop (entryFrame m #[(.ref b), (.int q), (.int (0 : Int32)), (.int (1 : Int32))] 4)) (T_5.setTop (mkF m 14 #[.val (.ref b), .val (.int q), .val (.int (0 : Int32)), .val (.int (1 : Int32))] [(.int (0 : Int32))])) := fun tgt ktg => pre_4 tgt (st_5 tgt ktg)
  have pre_7 : Rch p.tables e below (s₁.setTop (entryFrame m #[(.ref b), (.int q), (.int (0 : Int32)), (.int (1 : Int32))] 4)) (T_5.setTop (mkF m 17 #[.val (.ref b), .val (.int q), .val (.int (0 : Int32)), .val (.int (1 : Int32))] [(.ref b), (.int (1 : Int32))])) := fun tgt ktg => pre_5 tgt (by
    show Steps p.tables e below (T_5.setTop (mkF m 14 #[.val (.ref b), .val (.int q), .val (.int (0 : Int32)), .val (.int (1 : Int32))] [(.int (0 : Int32))])) _
    refine XS.istoreN X_5.here hx rfl (hb hby d14_14) rfl (l' := #[.val (.ref b), .val (.int q), .val (.int (0 : Int32)), .val (.int (1 : Int32))]) rfl ?_
    show Steps p.tables e below (T_5.setTop (mkF m 15 #[.val (.ref b), .val (.int q), .val (.int (0 : Int32)), .val (.int (1 : Int32))] [])) _
    refine XS.iloadN X_5.here hx rfl (hb hby d14_15) rfl ?_
    show Steps p.tables e below (T_5.setTop (mkF m 16 #[.val (.ref b), .val (.int q), .val (.int (0 : Int32)), .val (.int (1 : Int32))] [(.int (1 : Int32))])) _
    refine XS.aloadN X_5.here hx rfl (hb hby d14_16) rfl rfl ?_
    exact ktg)
  obtain ⟨cl__8, Ar__8, q__8, S__8, N__8, H__8, G__8⟩ := id A1
  have pre_9 : Rch p.tables e below (s₁.setTop (entryFrame m #[(.ref b), (.int q), (.int (0 : Int32)), (.int (1 : Int32))] 4)) (T_5.setTop (mkF m 18 #[.val (.ref b), .val (.int q), .val (.int (0 : Int32)), .val (.int (1 : Int32))] [(.int (1 : Int32)), (.int (1 : Int32))])) := fun tgt ktg => pre_7 tgt (X_5.arraylength hx (by rw [eh_5]; exact Ar__8.1) (State.isArrayOf_alike hZ.alike Ar__8.2.1) (g := (mkF m 17 #[.val (.ref b), .val (.int q), .val (.int (0 : Int32)), .val (.int (1 : Int32))] [(.ref b), (.int (1 : Int32))])) rfl rfl (hb hby d14_17) _ (by rw [len_of S__8 N__8]; exact ktg))
  obtain ⟨_, _, ⟨T_10, L_10, k_10, n_10⟩, -, X_10, ⟨Lc_10, hQ_10, l_10, y_10, z_10⟩, st_10⟩ := Jvm.LawKit.callS X_5 hx (y := (⟨"java/lang/Math", "min", "(II)I"⟩ : MethodName)) hown (mvT hZ (hw _ (List.mem_of_getElem? (i := 75) rfl))) (mvT hZ (hw _ (List.mem_of_getElem? (i := 76) rfl))) (mvT hZ (hw _ (List.mem_of_getElem? (i := 73) rfl))) (mvT hZ (hw _ (List.mem_of_getElem? (i := 77) rfl))) (by decide) (backOf (W := 0) (rmmmin l Z a0 hw [] (1 : Int32) (1 : Int32) h0 n0 Z0) hZ (hw _ (List.mem_of_getElem? (i := 77) rfl)) (hw _ (List.mem_of_getElem? (i := 73) rfl)) (by decide) (by decide)) (g := (mkF m 18 #[.val (.ref b), .val (.int q), .val (.int (0 : Int32)), .val (.int (1 : Int32))] [(.int (1 : Int32)), (.int (1 : Int32))])) rfl (by rw [hml]; rfl) (argsL := [(.int (1 : Int32)), (.int (1 : Int32))]) (rest := []) (lenOf pd_2 rfl) rfl (by show 2 * 0 + _ ≤ _; exact Nat.le_of_eq rfl) (hb hby d14_18) (fun _ _ => ⟨rfl, eh_5, (by decide : 0 + 0 ≤ _), (by decide : 0 + 0 ≤ _)⟩)
  dsimp only [Pt.U, Pt.locs, Pt.cells, Pt.slots] at X_10 l_10 y_10 z_10 st_10 hQ_10
  subst l_10 y_10 z_10
  obtain ⟨rfl, Nq_10, eh_10⟩ := hQ_10
  have N_11 := Fr.app N_6 Nq_10
  have pre_10 : Rch p.tables e below (s₁.setTop (entryFrame m #[(.ref b), (.int q), (.int (0 : Int32)), (.int (1 : Int32))] 4)) (T_10.setTop (mkF m 21 #[.val (.ref b), .val (.int q), .val (.int (0 : Int32)), .val (.int (1 : Int32))] [(.int (1 : Int32))])) := fun tgt ktg => pre_9 tgt (st_10 tgt ktg)
  have pre_12 : Rch p.tables e below (s₁.setTop (entryFrame m #[(.ref b), (.int q), (.int (0 : Int32)), (.int (1 : Int32))] 4)) (T_10.setTop (mkF m 24 #[.val (.ref b), .val (.int q), .val (.int (0 : Int32)), .val (.int (1 : Int32))] [(.int (1 : Int32)), (.int (0 : Int32))])) := fun tgt ktg => pre_10 tgt (by
    show Steps p.tables e below (T_10.setTop (mkF m 21 #[.val (.ref b), .val (.int q), .val (.int (0 : Int32)), .val (.int (1 : Int32))] [(.int (1 : Int32))])) _
    refine XS.istoreN X_10.here hx rfl (hb hby d14_21) rfl (l' := #[.val (.ref b), .val (.int q), .val (.int (0 : Int32)), .val (.int (1 : Int32))]) rfl ?_
    show Steps p.tables e below (T_10.setTop (mkF m 22 #[.val (.ref b), .val (.int q), .val (.int (0 : Int32)), .val (.int (1 : Int32))] [])) _
    refine XS.iloadN X_10.here hx rfl (hb hby d14_22) rfl ?_
    show Steps p.tables e below (T_10.setTop (mkF m 23 #[.val (.ref b), .val (.int q), .val (.int (0 : Int32)), .val (.int (1 : Int32))] [(.int (0 : Int32))])) _
    refine XS.iloadN X_10.here hx rfl (hb hby d14_23) rfl ?_
    exact ktg)
  have pre_13 : Rch p.tables e below (s₁.setTop (entryFrame m #[(.ref b), (.int q), (.int (0 : Int32)), (.int (1 : Int32))] 4)) (T_10.setTop (mkF m 33 #[.val (.ref b), .val (.int q), .val (.int (0 : Int32)), .val (.int (1 : Int32))] [(.int (1 : Int32)), (.int (0 : Int32)), (.int q), (.ref b)])) := fun tgt ktg => pre_12 tgt (by
    show Steps p.tables e below (T_10.setTop (mkF m 24 #[.val (.ref b), .val (.int q), .val (.int (0 : Int32)), .val (.int (1 : Int32))] [(.int (1 : Int32)), (.int (0 : Int32))])) _
    refine XS.icmpYes X_10.here hx rfl (pc0 := 24) (pc' := 29) rfl (hb hby d14_24) rfl (tlt (by decide : (0 : Int32) < (1 : Int32))).1 (by decide) (by decide) ?_
    show Steps p.tables e below (T_10.setTop (mkF m 29 #[.val (.ref b), .val (.int q), .val (.int (0 : Int32)), .val (.int (1 : Int32))] [])) _
    refine XS.aloadN X_10.here hx rfl (hb hby d14_29) rfl rfl ?_
    show Steps p.tables e below (T_10.setTop (mkF m 30 #[.val (.ref b), .val (.int q), .val (.int (0 : Int32)), .val (.int (1 : Int32))] [(.ref b)])) _
    refine XS.iloadN X_10.here hx rfl (hb hby d14_30) rfl ?_
    show Steps p.tables e below (T_10.setTop (mkF m 31 #[.val (.ref b), .val (.int q), .val (.int (0 : Int32)), .val (.int (1 : Int32))] [(.int q), (.ref b)])) _
    refine XS.iloadN X_10.here hx rfl (hb hby d14_31) rfl ?_
    show Steps p.tables e below (T_10.setTop (mkF m 32 #[.val (.ref b), .val (.int q), .val (.int (0 : Int32)), .val (.int (1 : Int32))] [(.int (0 : Int32)), (.int q), (.ref b)])) _
    refine XS.iloadN X_10.here hx rfl (hb hby d14_32) rfl ?_
    exact ktg)
  obtain ⟨_, _, ⟨T_14, L_14, k_14, n_14⟩, -, X_14, ⟨Lc_14, hQ_14, l_14, y_14, z_14⟩, st_14⟩ := Jvm.LawKit.callS X_10 hx (y := (⟨"java/lang/StringLatin1", "indexOfChar", "([BIII)I"⟩ : MethodName)) hown (mvT hZ (hw _ (List.mem_of_getElem? (i := 78) rfl))) (mvT hZ (hw _ (List.mem_of_getElem? (i := 79) rfl))) (mvT hZ (hw _ (List.mem_of_getElem? (i := 66) rfl))) (mvT hZ (hw _ (List.mem_of_getElem? (i := 80) rfl))) (by decide) (backOf (W := 0) (rmoc1 l Z a0 hw [] b q v0 kb h0 n0 Z0 A1) hZ (hw _ (List.mem_of_getElem? (i := 80) rfl)) (hw _ (List.mem_of_getElem? (i := 66) rfl)) (by decide) (by decide)) (g := (mkF m 33 #[.val (.ref b), .val (.int q), .val (.int (0 : Int32)), .val (.int (1 : Int32))] [(.int (1 : Int32)), (.int (0 : Int32)), (.int q), (.ref b)])) rfl (by rw [hml]; rfl) (argsL := [(.ref b), (.int q), (.int (0 : Int32)), (.int (1 : Int32))]) (rest := []) (lenOf pd_5 rfl) rfl (by show 2 * 0 + _ ≤ _; exact Nat.le_of_eq rfl) (hb hby d14_33) (fun _ _ => ⟨rfl, eh_10, (by decide : 0 + 0 ≤ _), (by decide : 0 + 0 ≤ _)⟩)
  dsimp only [Pt.U, Pt.locs, Pt.cells, Pt.slots] at X_14 l_14 y_14 z_14 st_14 hQ_14
  subst l_14 y_14 z_14
  obtain ⟨rfl, Nq_14, eh_14⟩ := hQ_14
  have N_15 := Fr.app N_11 Nq_14
  have pre_14 : Rch p.tables e below (s₁.setTop (entryFrame m #[(.ref b), (.int q), (.int (0 : Int32)), (.int (1 : Int32))] 4)) (T_14.setTop (mkF m 36 #[.val (.ref b), .val (.int q), .val (.int (0 : Int32)), .val (.int (1 : Int32))] [(.int (ixo [v0] (q.toInt8.toInt32) 0))])) := fun tgt ktg => pre_13 tgt (st_14 tgt ktg)
  obtain ⟨fs, hr, hrun, hended, hW, hsame⟩ := X_14.leave (v := some (.int (ixo [v0] (q.toInt8.toInt32) 0))) (fun h => by rw [Bd.returns] at h; cases h)
  refine ⟨_, _, pre_14 _ ?_, hrun, hended, _, _, rfl, ?_, ⟨_, rfl⟩, hW, hsame.mono (by decide) (by decide)⟩
  · show Steps p.tables e below (T_14.setTop (mkF m 36 #[.val (.ref b), .val (.int q), .val (.int (0 : Int32)), .val (.int (1 : Int32))] [(.int (ixo [v0] (q.toInt8.toInt32) 0))])) _
    exact retI X_14 hx Bd.returns (hb hby d14_36) hr
  · show Qli1 Z b q v0 kb h0 n0 _ T_14.heap _
    rw [eh_14]
    exact ⟨rfl, N_15, rfl⟩
theorem ef_i21 (m : MethodId) (x0 : Addr) (x1 : Int32) (x2 : Int32) : entryFrame m #[(.ref x0), (.int x1), (.int x2)] 3 = mkF m 0 #[.val (.ref x0), .val (.int x1), .val (.int x2)] [] := by first | (simp [entryFrame, mkF, argsToLocals, Value.category]; done) | rfl
def Qi21 (Z : State) (a : Addr) (q : Int32) (v0 : Int32) (b : Addr) (kb : ClassId) (h0 : Heap) (n0 : Nat) (v : Option Value) (h : Heap) (L : List Loc) : Prop := v = some (.int (ixo [v0] (q.toInt8.toInt32) 0)) ∧ Fr n0 L ∧ h = h0
set_option maxRecDepth 65536 in
set_option maxHeartbeats 40000000 in
theorem rmi21 (l : Launch) (Z : State) (a0 : Array Value) (hw : ∀ d ∈ tables_1, d.before a0 Z = true) (ws : List Jvm.Cond) (a : Addr) (q : Int32) (v0 : Int32) (b : Addr) (kb : ClassId) (h0 : Heap) (n0 : Nat) (Z0 : n0 ≤ h0.size) (E1 : Exa Z h0 a "java/lang/String") (F1 : Fld Z h0 a "java/lang/String" "coder" "B" (.int (0 : Int32))) (F2 : Fld Z h0 a "java/lang/String" "value" "[B" (.ref b)) (A1 : Arv Z h0 b kb .byte (1 : Int32) [(.int v0)] (.int (0 : Int32))) (cs : Int32) (hcs : ¬ cs = 0) (S1 : Sta Z h0 "java/lang/String" "COMPACT_STRINGS" "Z" (.int cs)) (hq0 : ¬ q < 0) (hq : ¬ (255 : Int32) < q) :
    MetFree l (⟨"java/lang/String", "indexOf", "(II)I"⟩ : MethodName) (head1 (Jvm.Cond.code (⟨"java/lang/String", "indexOf", "(II)I"⟩ : MethodName) jdk_42_method_80_code 3 (some .int) :: ws) ({ frames := 2, cells := 0, slots := 0, locals := 35 } : Room)) (fun aA U => aA = #[(.ref a), (.int q), (.int (0 : Int32))] ∧ Z.Warmed39 U.vm ∧ U.heap = h0) (fun _ _ _ _ _ => True) (fun _ U oO U' => ∃ vV LL, oO = .returned vV ∧ Qi21 Z a q v0 b kb h0 n0 vV U'.heap LL ∧ FrameEnd U oO U' LL ({ frames := 2, cells := 0, slots := 0, locals := 35 } : Room).cells ({ frames := 2, cells := 0, slots := 0, locals := 35 } : Room).slots) := by
  refine MetFree.of_bodySF (plainFor_of_name pn_0) hisR ?_
  intro p e s m args below meth c s₁ Bd hml0 hP hK
  obtain ⟨rfl, hZ, hh⟩ := hP
  have hx := Bd.exec
  have hby := Bd.bytes
  have hml : c.maxLocals = 3 := hml0
  have hown : s.vm.findClass "java/lang/String" = some m.cls := findClass_of_methodNamed Bd.named
  have hnm := (name_of_methodNamed Bd.named Bd.method).1
  have X0 : Stand p l e ({ frames := 2, cells := 0, slots := 0, locals := 35 } : Room) s m #[(.ref a), (.int q), (.int (0 : Int32))] below meth c s₁ [] 0 0 := Stand.of_body Bd
  have e0 : s₁.heap = h0 := by rw [← hh, Bd.state]; rfl
  have N0 := Fr.nil n0
  have K0 : Keep h0 h0 [] := Keep.refl _ _
  have pre0 : Rch p.tables e below (s₁.setTop (entryFrame m #[(.ref a), (.int q), (.int (0 : Int32))] 3)) (s₁.setTop (mkF m 0 #[.val (.ref a), .val (.int q), .val (.int (0 : Int32))] [])) := fun tgt ktg => castTop (ef_i21 m a q (0 : Int32)) ktg
  have pre_1 : Rch p.tables e below (s₁.setTop (entryFrame m #[(.ref a), (.int q), (.int (0 : Int32))] 3)) (s₁.setTop (mkF m 1 #[.val (.ref a), .val (.int q), .val (.int (0 : Int32))] [(.ref a)])) := fun tgt ktg => pre0 tgt (by
    show Steps p.tables e below (s₁.setTop (mkF m 0 #[.val (.ref a), .val (.int q), .val (.int (0 : Int32))] [])) _
    refine XS.aloadN X0.here hx rfl (hb hby d10_0) rfl rfl ?_
    exact ktg)
  obtain ⟨cq_2, kq_2, q_2a, q_2b, q_2c⟩ := isOf hZ e0 E1
  obtain ⟨_, _, ⟨T_2, L_2, k_2, n_2⟩, -, X_2, ⟨Lc_2, hQ_2, l_2, y_2, z_2⟩, st_2⟩ := X0.virtualBack hx (y := (⟨"java/lang/String", "isLatin1", "()Z"⟩ : MethodName)) (z := (⟨"java/lang/String", "isLatin1", "()Z"⟩ : MethodName)) hown (mvT hZ (hw _ (List.mem_of_getElem? (i := 49) rfl))) (mvT hZ (hw _ (List.mem_of_getElem? (i := 50) rfl))) (notFace_of_selects (args := #[]) (mvT hZ (hw _ (List.mem_of_getElem? (i := 52) rfl)))) (mvT hZ (hw _ (List.mem_of_getElem? (i := 52) rfl))) (mvT hZ (hw _ (List.mem_of_getElem? (i := 51) rfl))) (by decide) (backOf (W := 0) (rmisL l Z a0 hw [] a h0 n0 Z0 F1 cs hcs S1) hZ (hw _ (List.mem_of_getElem? (i := 53) rfl)) (hw _ (List.mem_of_getElem? (i := 6) rfl)) (by decide) (by decide)) q_2a q_2c (g := (mkF m 1 #[.val (.ref a), .val (.int q), .val (.int (0 : Int32))] [(.ref a)])) rfl (by rw [hml]; rfl) (Steps.refl _) (argsL := []) (rest := []) (lenOf pd_3 rfl) rfl (by show 2 * 0 + _ ≤ _; exact Nat.le_of_eq rfl) (hb hby d10_1) (fun _ _ => ⟨rfl, e0, (by decide : 0 + 0 ≤ _), (by decide : 0 + 0 ≤ _)⟩)
  dsimp only [Pt.U, Pt.locs, Pt.cells, Pt.slots] at X_2 l_2 y_2 z_2 st_2 hQ_2
  subst l_2 y_2 z_2
  obtain ⟨rfl, Nq_2, eh_2⟩ := hQ_2
  have N_3 := Fr.app N0 Nq_2
  have pre_2 : Rch p.tables e below (s₁.setTop (entryFrame m #[(.ref a), (.int q), (.int (0 : Int32))] 3)) (T_2.setTop (mkF m 4 #[.val (.ref a), .val (.int q), .val (.int (0 : Int32))] [(.int (1 : Int32))])) := fun tgt ktg => pre_1 tgt (st_2.trans ktg)
  have pre_4 : Rch p.tables e below (s₁.setTop (entryFrame m #[(.ref a), (.int q), (.int (0 : Int32))] 3)) (T_2.setTop (mkF m 8 #[.val (.ref a), .val (.int q), .val (.int (0 : Int32))] [(.ref a)])) := fun tgt ktg => pre_2 tgt (by
    show Steps p.tables e below (T_2.setTop (mkF m 4 #[.val (.ref a), .val (.int q), .val (.int (0 : Int32))] [(.int (1 : Int32))])) _
    refine XS.ifNo X_2.here hx rfl (hb hby d10_4) rfl ((if0 _ _).trans (feq (by decide : ¬ ((1 : Int32) = (0 : Int32)))).1) ?_
    show Steps p.tables e below (T_2.setTop (mkF m 7 #[.val (.ref a), .val (.int q), .val (.int (0 : Int32))] [])) _
    refine XS.aloadN X_2.here hx rfl (hb hby d10_7) rfl rfl ?_
    exact ktg)
  obtain ⟨T_5, X_5, e_5, st_5⟩ := getF X_2 hx hZ hown (host := "") (Or.inl (hw _ (List.mem_of_getElem? (i := 32) rfl))) Via.refl eh_2 F2 (g := (mkF m 8 #[.val (.ref a), .val (.int q), .val (.int (0 : Int32))] [(.ref a)])) rfl rfl (hb hby d10_8)
  have pre_5 : Rch p.tables e below (s₁.setTop (entryFrame m #[(.ref a), (.int q), (.int (0 : Int32))] 3)) (T_5.setTop (mkF m 11 #[.val (.ref a), .val (.int q), .val (.int (0 : Int32))] [(.ref b)])) := fun tgt ktg => pre_4 tgt (st_5 tgt ktg)
  have pre_6 : Rch p.tables e below (s₁.setTop (entryFrame m #[(.ref a), (.int q), (.int (0 : Int32))] 3)) (T_5.setTop (mkF m 14 #[.val (.ref a), .val (.int q), .val (.int (0 : Int32))] [(.ref a), (.int (0 : Int32)), (.int q), (.ref b)])) := fun tgt ktg => pre_5 tgt (by
    show Steps p.tables e below (T_5.setTop (mkF m 11 #[.val (.ref a), .val (.int q), .val (.int (0 : Int32))] [(.ref b)])) _
    refine XS.iloadN X_5.here hx rfl (hb hby d10_11) rfl ?_
    show Steps p.tables e below (T_5.setTop (mkF m 12 #[.val (.ref a), .val (.int q), .val (.int (0 : Int32))] [(.int q), (.ref b)])) _
    refine XS.iloadN X_5.here hx rfl (hb hby d10_12) rfl ?_
    show Steps p.tables e below (T_5.setTop (mkF m 13 #[.val (.ref a), .val (.int q), .val (.int (0 : Int32))] [(.int (0 : Int32)), (.int q), (.ref b)])) _
    refine XS.aloadN X_5.here hx rfl (hb hby d10_13) rfl rfl ?_
    exact ktg)
  obtain ⟨cq_7, kq_7, q_7a, q_7b, q_7c⟩ := isOf hZ e_5 E1
  obtain ⟨_, _, ⟨T_7, L_7, k_7, n_7⟩, -, X_7, ⟨Lc_7, hQ_7, l_7, y_7, z_7⟩, st_7⟩ := X_5.virtualBack hx (y := (⟨"java/lang/String", "length", "()I"⟩ : MethodName)) (z := (⟨"java/lang/String", "length", "()I"⟩ : MethodName)) hown (mvT hZ (hw _ (List.mem_of_getElem? (i := 54) rfl))) (mvT hZ (hw _ (List.mem_of_getElem? (i := 55) rfl))) (notFace_of_selects (args := #[]) (mvT hZ (hw _ (List.mem_of_getElem? (i := 57) rfl)))) (mvT hZ (hw _ (List.mem_of_getElem? (i := 57) rfl))) (mvT hZ (hw _ (List.mem_of_getElem? (i := 56) rfl))) (by decide) (backOf (W := 3) (rmlen l Z a0 hw [] a b kb (1 : Int32) [(.int v0)] h0 n0 Z0 E1 F1 F2 A1 cs hcs S1) hZ (hw _ (List.mem_of_getElem? (i := 58) rfl)) (hw _ (List.mem_of_getElem? (i := 6) rfl)) (by decide) (by decide)) q_7a q_7c (g := (mkF m 14 #[.val (.ref a), .val (.int q), .val (.int (0 : Int32))] [(.ref a), (.int (0 : Int32)), (.int q), (.ref b)])) rfl (by rw [hml]; rfl) (Steps.refl _) (argsL := []) (rest := [(.int (0 : Int32)), (.int q), (.ref b)]) (lenOf pd_4 rfl) rfl (by show 2 * 0 + _ ≤ _; exact Nat.le_of_eq rfl) (hb hby d10_14) (fun _ _ => ⟨rfl, e_5, (by decide : 0 + 0 ≤ _), (by decide : 0 + 0 ≤ _)⟩)
  dsimp only [Pt.U, Pt.locs, Pt.cells, Pt.slots] at X_7 l_7 y_7 z_7 st_7 hQ_7
  subst l_7 y_7 z_7
  obtain ⟨rfl, Nq_7, eh_7⟩ := hQ_7
  have N_8 := Fr.app N_3 Nq_7
  have pre_7 : Rch p.tables e below (s₁.setTop (entryFrame m #[(.ref a), (.int q), (.int (0 : Int32))] 3)) (T_7.setTop (mkF m 17 #[.val (.ref a), .val (.int q), .val (.int (0 : Int32))] [(.int (1 : Int32)), (.int (0 : Int32)), (.int q), (.ref b)])) := fun tgt ktg => pre_6 tgt (st_7.trans ktg)
  obtain ⟨_, _, ⟨T_9, L_9, k_9, n_9⟩, -, X_9, ⟨Lc_9, hQ_9, l_9, y_9, z_9⟩, st_9⟩ := Jvm.LawKit.callS X_7 hx (y := (⟨"java/lang/StringLatin1", "indexOf", "([BIII)I"⟩ : MethodName)) hown (mvT hZ (hw _ (List.mem_of_getElem? (i := 64) rfl))) (mvT hZ (hw _ (List.mem_of_getElem? (i := 65) rfl))) (mvT hZ (hw _ (List.mem_of_getElem? (i := 66) rfl))) (mvT hZ (hw _ (List.mem_of_getElem? (i := 67) rfl))) (by decide) (backOf (W := 0) (rmli1 l Z a0 hw [] b q v0 kb h0 n0 Z0 A1 hq0 hq) hZ (hw _ (List.mem_of_getElem? (i := 67) rfl)) (hw _ (List.mem_of_getElem? (i := 66) rfl)) (by decide) (by decide)) (g := (mkF m 17 #[.val (.ref a), .val (.int q), .val (.int (0 : Int32))] [(.int (1 : Int32)), (.int (0 : Int32)), (.int q), (.ref b)])) rfl (by rw [hml]; rfl) (argsL := [(.ref b), (.int q), (.int (0 : Int32)), (.int (1 : Int32))]) (rest := []) (lenOf pd_5 rfl) rfl (by show 2 * 0 + _ ≤ _; exact Nat.le_of_eq rfl) (hb hby d10_17) (fun _ _ => ⟨rfl, eh_7, (by decide : 0 + 0 ≤ _), (by decide : 0 + 0 ≤ _)⟩)
  dsimp only [Pt.U, Pt.locs, Pt.cells, Pt.slots] at X_9 l_9 y_9 z_9 st_9 hQ_9
  subst l_9 y_9 z_9
  obtain ⟨rfl, Nq_9, eh_9⟩ := hQ_9
  have N_10 := Fr.app N_8 Nq_9
  have pre_9 : Rch p.tables e below (s₁.setTop (entryFrame m #[(.ref a), (.int q), (.int (0 : Int32))] 3)) (T_9.setTop (mkF m 20 #[.val (.ref a), .val (.int q), .val (.int (0 : Int32))] [(.int (ixo [v0] (q.toInt8.toInt32) 0))])) := fun tgt ktg => pre_7 tgt (st_9 tgt ktg)
  have pre_11 : Rch p.tables e below (s₁.setTop (entryFrame m #[(.ref a), (.int q), (.int (0 : Int32))] 3)) (T_9.setTop (mkF m 36 #[.val (.ref a), .val (.int q), .val (.int (0 : Int32))] [(.int (ixo [v0] (q.toInt8.toInt32) 0))])) := fun tgt ktg => pre_9 tgt (by
    show Steps p.tables e below (T_9.setTop (mkF m 20 #[.val (.ref a), .val (.int q), .val (.int (0 : Int32))] [(.int (ixo [v0] (q.toInt8.toInt32) 0))])) _
    refine XS.goto X_9.here hx rfl (pc0 := 20) (pc' := 36) rfl (hb hby d10_20) (by decide) (by decide) ?_
    exact ktg)
  obtain ⟨fs, hr, hrun, hended, hW, hsame⟩ := X_9.leave (v := some (.int (ixo [v0] (q.toInt8.toInt32) 0))) (fun h => by rw [Bd.returns] at h; cases h)
  refine ⟨_, _, pre_11 _ ?_, hrun, hended, _, _, rfl, ?_, ⟨_, rfl⟩, hW, hsame.mono (by decide) (by decide)⟩
  · show Steps p.tables e below (T_9.setTop (mkF m 36 #[.val (.ref a), .val (.int q), .val (.int (0 : Int32))] [(.int (ixo [v0] (q.toInt8.toInt32) 0))])) _
    exact retI X_9 hx Bd.returns (hb hby d10_36) hr
  · show Qi21 Z a q v0 b kb h0 n0 _ T_9.heap _
    rw [eh_9]
    exact ⟨rfl, N_10, rfl⟩
theorem ef_i11 (m : MethodId) (x0 : Addr) (x1 : Int32) : entryFrame m #[(.ref x0), (.int x1)] 2 = mkF m 0 #[.val (.ref x0), .val (.int x1)] [] := by first | (simp [entryFrame, mkF, argsToLocals, Value.category]; done) | rfl
def Qi11 (Z : State) (a : Addr) (q : Int32) (v0 : Int32) (b : Addr) (kb : ClassId) (h0 : Heap) (n0 : Nat) (v : Option Value) (h : Heap) (L : List Loc) : Prop := v = some (.int (ixo [v0] (q.toInt8.toInt32) 0)) ∧ Fr n0 L ∧ h = h0
set_option maxRecDepth 65536 in
set_option maxHeartbeats 40000000 in
theorem rmi11 (l : Launch) (Z : State) (a0 : Array Value) (hw : ∀ d ∈ tables_1, d.before a0 Z = true) (ws : List Jvm.Cond) (a : Addr) (q : Int32) (v0 : Int32) (b : Addr) (kb : ClassId) (h0 : Heap) (n0 : Nat) (Z0 : n0 ≤ h0.size) (E1 : Exa Z h0 a "java/lang/String") (F1 : Fld Z h0 a "java/lang/String" "coder" "B" (.int (0 : Int32))) (F2 : Fld Z h0 a "java/lang/String" "value" "[B" (.ref b)) (A1 : Arv Z h0 b kb .byte (1 : Int32) [(.int v0)] (.int (0 : Int32))) (cs : Int32) (hcs : ¬ cs = 0) (S1 : Sta Z h0 "java/lang/String" "COMPACT_STRINGS" "Z" (.int cs)) (hq0 : ¬ q < 0) (hq : ¬ (255 : Int32) < q) :
    MetFree l (⟨"java/lang/String", "indexOf", "(I)I"⟩ : MethodName) (head1 (Jvm.Cond.code (⟨"java/lang/String", "indexOf", "(I)I"⟩ : MethodName) jdk_42_method_79_code 2 (some .int) :: ws) ({ frames := 3, cells := 0, slots := 0, locals := 50 } : Room)) (fun aA U => aA = #[(.ref a), (.int q)] ∧ Z.Warmed39 U.vm ∧ U.heap = h0) (fun _ _ _ _ _ => True) (fun _ U oO U' => ∃ vV LL, oO = .returned vV ∧ Qi11 Z a q v0 b kb h0 n0 vV U'.heap LL ∧ FrameEnd U oO U' LL ({ frames := 3, cells := 0, slots := 0, locals := 50 } : Room).cells ({ frames := 3, cells := 0, slots := 0, locals := 50 } : Room).slots) := by
  refine MetFree.of_bodySF (plainFor_of_name pn_0) hisR ?_
  intro p e s m args below meth c s₁ Bd hml0 hP hK
  obtain ⟨rfl, hZ, hh⟩ := hP
  have hx := Bd.exec
  have hby := Bd.bytes
  have hml : c.maxLocals = 2 := hml0
  have hown : s.vm.findClass "java/lang/String" = some m.cls := findClass_of_methodNamed Bd.named
  have hnm := (name_of_methodNamed Bd.named Bd.method).1
  have X0 : Stand p l e ({ frames := 3, cells := 0, slots := 0, locals := 50 } : Room) s m #[(.ref a), (.int q)] below meth c s₁ [] 0 0 := Stand.of_body Bd
  have e0 : s₁.heap = h0 := by rw [← hh, Bd.state]; rfl
  have N0 := Fr.nil n0
  have K0 : Keep h0 h0 [] := Keep.refl _ _
  have pre0 : Rch p.tables e below (s₁.setTop (entryFrame m #[(.ref a), (.int q)] 2)) (s₁.setTop (mkF m 0 #[.val (.ref a), .val (.int q)] [])) := fun tgt ktg => castTop (ef_i11 m a q) ktg
  have pre_1 : Rch p.tables e below (s₁.setTop (entryFrame m #[(.ref a), (.int q)] 2)) (s₁.setTop (mkF m 3 #[.val (.ref a), .val (.int q)] [(.int (0 : Int32)), (.int q), (.ref a)])) := fun tgt ktg => pre0 tgt (by
    show Steps p.tables e below (s₁.setTop (mkF m 0 #[.val (.ref a), .val (.int q)] [])) _
    refine XS.aloadN X0.here hx rfl (hb hby d9_0) rfl rfl ?_
    show Steps p.tables e below (s₁.setTop (mkF m 1 #[.val (.ref a), .val (.int q)] [(.ref a)])) _
    refine XS.iloadN X0.here hx rfl (hb hby d9_1) rfl ?_
    show Steps p.tables e below (s₁.setTop (mkF m 2 #[.val (.ref a), .val (.int q)] [(.int q), (.ref a)])) _
    refine XS.iconst X0.here hx rfl (hb hby d9_2) ?_
    exact ktg)
  obtain ⟨cq_2, kq_2, q_2a, q_2b, q_2c⟩ := isOf hZ e0 E1
  obtain ⟨_, _, ⟨T_2, L_2, k_2, n_2⟩, -, X_2, ⟨Lc_2, hQ_2, l_2, y_2, z_2⟩, st_2⟩ := X0.virtualBack hx (y := (⟨"java/lang/String", "indexOf", "(II)I"⟩ : MethodName)) (z := (⟨"java/lang/String", "indexOf", "(II)I"⟩ : MethodName)) hown (mvT hZ (hw _ (List.mem_of_getElem? (i := 44) rfl))) (mvT hZ (hw _ (List.mem_of_getElem? (i := 45) rfl))) (notFace_of_selects (args := #[]) (mvT hZ (hw _ (List.mem_of_getElem? (i := 47) rfl)))) (mvT hZ (hw _ (List.mem_of_getElem? (i := 47) rfl))) (mvT hZ (hw _ (List.mem_of_getElem? (i := 46) rfl))) (by decide) (backOf (W := 0) (rmi21 l Z a0 hw [] a q v0 b kb h0 n0 Z0 E1 F1 F2 A1 cs hcs S1 hq0 hq) hZ (hw _ (List.mem_of_getElem? (i := 48) rfl)) (hw _ (List.mem_of_getElem? (i := 6) rfl)) (by decide) (by decide)) q_2a q_2c (g := (mkF m 3 #[.val (.ref a), .val (.int q)] [(.int (0 : Int32)), (.int q), (.ref a)])) rfl (by rw [hml]; rfl) (Steps.refl _) (argsL := [(.int q), (.int (0 : Int32))]) (rest := []) (lenOf pd_2 rfl) rfl (by show 2 * 0 + _ ≤ _; exact Nat.le_of_eq rfl) (hb hby d9_3) (fun _ _ => ⟨rfl, e0, (by decide : 0 + 0 ≤ _), (by decide : 0 + 0 ≤ _)⟩)
  dsimp only [Pt.U, Pt.locs, Pt.cells, Pt.slots] at X_2 l_2 y_2 z_2 st_2 hQ_2
  subst l_2 y_2 z_2
  obtain ⟨rfl, Nq_2, eh_2⟩ := hQ_2
  have N_3 := Fr.app N0 Nq_2
  have pre_2 : Rch p.tables e below (s₁.setTop (entryFrame m #[(.ref a), (.int q)] 2)) (T_2.setTop (mkF m 6 #[.val (.ref a), .val (.int q)] [(.int (ixo [v0] (q.toInt8.toInt32) 0))])) := fun tgt ktg => pre_1 tgt (st_2.trans ktg)
  obtain ⟨fs, hr, hrun, hended, hW, hsame⟩ := X_2.leave (v := some (.int (ixo [v0] (q.toInt8.toInt32) 0))) (fun h => by rw [Bd.returns] at h; cases h)
  refine ⟨_, _, pre_2 _ ?_, hrun, hended, _, _, rfl, ?_, ⟨_, rfl⟩, hW, hsame.mono (by decide) (by decide)⟩
  · show Steps p.tables e below (T_2.setTop (mkF m 6 #[.val (.ref a), .val (.int q)] [(.int (ixo [v0] (q.toInt8.toInt32) 0))])) _
    exact retI X_2 hx Bd.returns (hb hby d9_6) hr
  · show Qi11 Z a q v0 b kb h0 n0 _ T_2.heap _
    rw [eh_2]
    exact ⟨rfl, N_3, rfl⟩
theorem ef_oc2 (m : MethodId) (x0 : Addr) (x1 : Int32) (x2 : Int32) (x3 : Int32) : entryFrame m #[(.ref x0), (.int x1), (.int x2), (.int x3)] 6 = mkF m 0 #[.val (.ref x0), .val (.int x1), .val (.int x2), .val (.int x3), .unset, .unset] [] := by first | (simp [entryFrame, mkF, argsToLocals, Value.category]; done) | rfl
def Qoc2 (Z : State) (b : Addr) (q : Int32) (v0 : Int32) (v1 : Int32) (kb : ClassId) (h0 : Heap) (n0 : Nat) (v : Option Value) (h : Heap) (L : List Loc) : Prop := v = some (.int (ixo [v0, v1] (q.toInt8.toInt32) 0)) ∧ Fr n0 L ∧ h = h0
set_option maxRecDepth 65536 in
set_option maxHeartbeats 40000000 in
theorem rmoc2 (l : Launch) (Z : State) (a0 : Array Value) (hw : ∀ d ∈ tables_1, d.before a0 Z = true) (ws : List Jvm.Cond) (b : Addr) (q : Int32) (v0 : Int32) (v1 : Int32) (kb : ClassId) (h0 : Heap) (n0 : Nat) (Z0 : n0 ≤ h0.size) (A1 : Arv Z h0 b kb .byte (2 : Int32) [(.int v0), (.int v1)] (.int (0 : Int32))) :
    MetFree l (⟨"java/lang/StringLatin1", "indexOfChar", "([BIII)I"⟩ : MethodName) (head1 (Jvm.Cond.code (⟨"java/lang/StringLatin1", "indexOfChar", "([BIII)I"⟩ : MethodName) jdk_43_method_23_code 6 (some .int) :: ws) ({ frames := 0, cells := 0, slots := 0, locals := 0 } : Room)) (fun aA U => aA = #[(.ref b), (.int q), (.int (0 : Int32)), (.int (2 : Int32))] ∧ Z.Warmed39 U.vm ∧ U.heap = h0) (fun _ _ _ _ _ => True) (fun _ U oO U' => ∃ vV LL, oO = .returned vV ∧ Qoc2 Z b q v0 v1 kb h0 n0 vV U'.heap LL ∧ FrameEnd U oO U' LL ({ frames := 0, cells := 0, slots := 0, locals := 0 } : Room).cells ({ frames := 0, cells := 0, slots := 0, locals := 0 } : Room).slots) := by
  refine MetFree.of_bodySF (plainFor_of_name pn_1) hisR ?_
  intro p e s m args below meth c s₁ Bd hml0 hP hK
  obtain ⟨rfl, hZ, hh⟩ := hP
  have hx := Bd.exec
  have hby := Bd.bytes
  have hml : c.maxLocals = 6 := hml0
  have hown : s.vm.findClass "java/lang/StringLatin1" = some m.cls := findClass_of_methodNamed Bd.named
  have hnm := (name_of_methodNamed Bd.named Bd.method).1
  have X0 : Stand p l e ({ frames := 0, cells := 0, slots := 0, locals := 0 } : Room) s m #[(.ref b), (.int q), (.int (0 : Int32)), (.int (2 : Int32))] below meth c s₁ [] 0 0 := Stand.of_body Bd
  have e0 : s₁.heap = h0 := by rw [← hh, Bd.state]; rfl
  have N0 := Fr.nil n0
  have K0 : Keep h0 h0 [] := Keep.refl _ _
  have pre0 : Rch p.tables e below (s₁.setTop (entryFrame m #[(.ref b), (.int q), (.int (0 : Int32)), (.int (2 : Int32))] 6)) (s₁.setTop (mkF m 0 #[.val (.ref b), .val (.int q), .val (.int (0 : Int32)), .val (.int (2 : Int32)), .unset, .unset] [])) := fun tgt ktg => castTop (ef_oc2 m b q (0 : Int32) (2 : Int32)) ktg
  have pre_1 : Rch p.tables e below (s₁.setTop (entryFrame m #[(.ref b), (.int q), (.int (0 : Int32)), (.int (2 : Int32))] 6)) (s₁.setTop (mkF m 16 #[.val (.ref b), .val (.int q), .val (.int (0 : Int32)), .val (.int (2 : Int32)), .val (.int (q.toInt8.toInt32)), .val (.int (0 : Int32))] [(.int (0 : Int32)), (.ref b)])) := fun tgt ktg => pre0 tgt (by
    show Steps p.tables e below (s₁.setTop (mkF m 0 #[.val (.ref b), .val (.int q), .val (.int (0 : Int32)), .val (.int (2 : Int32)), .unset, .unset] [])) _
    refine XS.iloadN X0.here hx rfl (hb hby d18_0) rfl ?_
    show Steps p.tables e below (s₁.setTop (mkF m 1 #[.val (.ref b), .val (.int q), .val (.int (0 : Int32)), .val (.int (2 : Int32)), .unset, .unset] [(.int q)])) _
    refine XT.i2b X0.here hx rfl (hb hby d18_1) rfl ?_
    show Steps p.tables e below (s₁.setTop (mkF m 2 #[.val (.ref b), .val (.int q), .val (.int (0 : Int32)), .val (.int (2 : Int32)), .unset, .unset] [(.int (q.toInt8.toInt32))])) _
    refine XS.istore X0.here hx rfl (hb hby d18_2) rfl (l' := #[.val (.ref b), .val (.int q), .val (.int (0 : Int32)), .val (.int (2 : Int32)), .val (.int (q.toInt8.toInt32)), .unset]) rfl ?_
    show Steps p.tables e below (s₁.setTop (mkF m 4 #[.val (.ref b), .val (.int q), .val (.int (0 : Int32)), .val (.int (2 : Int32)), .val (.int (q.toInt8.toInt32)), .unset] [])) _
    refine XS.iloadN X0.here hx rfl (hb hby d18_4) rfl ?_
    show Steps p.tables e below (s₁.setTop (mkF m 5 #[.val (.ref b), .val (.int q), .val (.int (0 : Int32)), .val (.int (2 : Int32)), .val (.int (q.toInt8.toInt32)), .unset] [(.int (0 : Int32))])) _
    refine XS.istore X0.here hx rfl (hb hby d18_5) rfl (l' := #[.val (.ref b), .val (.int q), .val (.int (0 : Int32)), .val (.int (2 : Int32)), .val (.int (q.toInt8.toInt32)), .val (.int (0 : Int32))]) rfl ?_
    show Steps p.tables e below (s₁.setTop (mkF m 7 #[.val (.ref b), .val (.int q), .val (.int (0 : Int32)), .val (.int (2 : Int32)), .val (.int (q.toInt8.toInt32)), .val (.int (0 : Int32))] [])) _
    refine XS.iload X0.here hx rfl (hb hby d18_7) rfl ?_
    show Steps p.tables e below (s₁.setTop (mkF m 9 #[.val (.ref b), .val (.int q), .val (.int (0 : Int32)), .val (.int (2 : Int32)), .val (.int (q.toInt8.toInt32)), .val (.int (0 : Int32))] [(.int (0 : Int32))])) _
    refine XS.iloadN X0.here hx rfl (hb hby d18_9) rfl ?_
    show Steps p.tables e below (s₁.setTop (mkF m 10 #[.val (.ref b), .val (.int q), .val (.int (0 : Int32)), .val (.int (2 : Int32)), .val (.int (q.toInt8.toInt32)), .val (.int (0 : Int32))] [(.int (2 : Int32)), (.int (0 : Int32))])) _
    refine XS.icmpNo X0.here hx rfl (hb hby d18_10) rfl (tlt (by decide : (0 : Int32) < (2 : Int32))).2.1 ?_
    show Steps p.tables e below (s₁.setTop (mkF m 13 #[.val (.ref b), .val (.int q), .val (.int (0 : Int32)), .val (.int (2 : Int32)), .val (.int (q.toInt8.toInt32)), .val (.int (0 : Int32))] [])) _
    refine XS.aloadN X0.here hx rfl (hb hby d18_13) rfl rfl ?_
    show Steps p.tables e below (s₁.setTop (mkF m 14 #[.val (.ref b), .val (.int q), .val (.int (0 : Int32)), .val (.int (2 : Int32)), .val (.int (q.toInt8.toInt32)), .val (.int (0 : Int32))] [(.ref b)])) _
    refine XS.iload X0.here hx rfl (hb hby d18_14) rfl ?_
    exact ktg)
  obtain ⟨cl__2, Ar__2, q__2, S__2, N__2, H__2, G__2⟩ := id A1
  have hin__2 : ¬ ((0 : Int32) < 0 ∨ cl__2.slots.size ≤ ((0 : Int32)).toNatClampNeg) := inb_of S__2 ⟨by decide, by decide⟩
  have hat__2 : cl__2.slots[((0 : Int32)).toNatClampNeg]? = some (.int v0) := H__2.at hin__2 rfl
  have pre_3 : Rch p.tables e below (s₁.setTop (entryFrame m #[(.ref b), (.int q), (.int (0 : Int32)), (.int (2 : Int32))] 6)) (s₁.setTop (mkF m 17 #[.val (.ref b), .val (.int q), .val (.int (0 : Int32)), .val (.int (2 : Int32)), .val (.int (q.toInt8.toInt32)), .val (.int (0 : Int32))] [(.int v0)])) := fun tgt ktg => pre_1 tgt (X0.baloadBytes hx (j := (0 : Int32)) (v := (.int v0)) (by rw [e0]; exact Ar__2.1) (State.isArrayOf_alike hZ.alike Ar__2.2.1) Ar__2.2.2 hin__2 hat__2 (g := (mkF m 16 #[.val (.ref b), .val (.int q), .val (.int (0 : Int32)), .val (.int (2 : Int32)), .val (.int (q.toInt8.toInt32)), .val (.int (0 : Int32))] [(.int (0 : Int32)), (.ref b)])) rfl rfl (hb hby d18_16) _ ktg)
  have pre_4 : Rch p.tables e below (s₁.setTop (entryFrame m #[(.ref b), (.int q), (.int (0 : Int32)), (.int (2 : Int32))] 6)) (s₁.setTop (mkF m 19 #[.val (.ref b), .val (.int q), .val (.int (0 : Int32)), .val (.int (2 : Int32)), .val (.int (q.toInt8.toInt32)), .val (.int (0 : Int32))] [(.int (q.toInt8.toInt32)), (.int v0)])) := fun tgt ktg => pre_3 tgt (by
    show Steps p.tables e below (s₁.setTop (mkF m 17 #[.val (.ref b), .val (.int q), .val (.int (0 : Int32)), .val (.int (2 : Int32)), .val (.int (q.toInt8.toInt32)), .val (.int (0 : Int32))] [(.int v0)])) _
    refine XS.iload X0.here hx rfl (hb hby d18_17) rfl ?_
    exact ktg)
  by_cases c_5 : v0 = (q.toInt8.toInt32)
  · skip
    have pre_6 : Rch p.tables e below (s₁.setTop (entryFrame m #[(.ref b), (.int q), (.int (0 : Int32)), (.int (2 : Int32))] 6)) (s₁.setTop (mkF m 22 #[.val (.ref b), .val (.int q), .val (.int (0 : Int32)), .val (.int (2 : Int32)), .val (.int (q.toInt8.toInt32)), .val (.int (0 : Int32))] [])) := fun tgt ktg => pre_4 tgt (by
      show Steps p.tables e below (s₁.setTop (mkF m 19 #[.val (.ref b), .val (.int q), .val (.int (0 : Int32)), .val (.int (2 : Int32)), .val (.int (q.toInt8.toInt32)), .val (.int (0 : Int32))] [(.int (q.toInt8.toInt32)), (.int v0)])) _
      refine XS.icmpNo X0.here hx rfl (hb hby d18_19) rfl (teq c_5).2 ?_
      exact ktg)
    have pre_7 : Rch p.tables e below (s₁.setTop (entryFrame m #[(.ref b), (.int q), (.int (0 : Int32)), (.int (2 : Int32))] 6)) (s₁.setTop (mkF m 24 #[.val (.ref b), .val (.int q), .val (.int (0 : Int32)), .val (.int (2 : Int32)), .val (.int (q.toInt8.toInt32)), .val (.int (0 : Int32))] [(.int (0 : Int32))])) := fun tgt ktg => pre_6 tgt (by
      show Steps p.tables e below (s₁.setTop (mkF m 22 #[.val (.ref b), .val (.int q), .val (.int (0 : Int32)), .val (.int (2 : Int32)), .val (.int (q.toInt8.toInt32)), .val (.int (0 : Int32))] [])) _
      refine XS.iload X0.here hx rfl (hb hby d18_22) rfl ?_
      exact ktg)
    obtain ⟨fs, hr, hrun, hended, hW, hsame⟩ := X0.leave (v := some (.int (0 : Int32))) (fun h => by rw [Bd.returns] at h; cases h)
    refine ⟨_, _, pre_7 _ ?_, hrun, hended, _, _, rfl, ?_, ⟨_, rfl⟩, hW, hsame.mono (by decide) (by decide)⟩
    · show Steps p.tables e below (s₁.setTop (mkF m 24 #[.val (.ref b), .val (.int q), .val (.int (0 : Int32)), .val (.int (2 : Int32)), .val (.int (q.toInt8.toInt32)), .val (.int (0 : Int32))] [(.int (0 : Int32))])) _
      exact retI X0 hx Bd.returns (hb hby d18_24) hr
    · show Qoc2 Z b q v0 v1 kb h0 n0 _ s₁.heap _
      rw [e0]
      exact ⟨by simp [ixo, c_5], N0, rfl⟩
  · skip
    have pre_8 : Rch p.tables e below (s₁.setTop (entryFrame m #[(.ref b), (.int q), (.int (0 : Int32)), (.int (2 : Int32))] 6)) (s₁.setTop (mkF m 25 #[.val (.ref b), .val (.int q), .val (.int (0 : Int32)), .val (.int (2 : Int32)), .val (.int (q.toInt8.toInt32)), .val (.int (0 : Int32))] [])) := fun tgt ktg => pre_4 tgt (by
      show Steps p.tables e below (s₁.setTop (mkF m 19 #[.val (.ref b), .val (.int q), .val (.int (0 : Int32)), .val (.int (2 : Int32)), .val (.int (q.toInt8.toInt32)), .val (.int (0 : Int32))] [(.int (q.toInt8.toInt32)), (.int v0)])) _
      refine XS.icmpYes X0.here hx rfl (pc0 := 19) (pc' := 25) rfl (hb hby d18_19) rfl (feq c_5).2 (by decide) (by decide) ?_
      exact ktg)
    have pre_9 : Rch p.tables e below (s₁.setTop (entryFrame m #[(.ref b), (.int q), (.int (0 : Int32)), (.int (2 : Int32))] 6)) (s₁.setTop (mkF m 7 #[.val (.ref b), .val (.int q), .val (.int (0 : Int32)), .val (.int (2 : Int32)), .val (.int (q.toInt8.toInt32)), .val (.int (1 : Int32))] [])) := fun tgt ktg => pre_8 tgt (by
      show Steps p.tables e below (s₁.setTop (mkF m 25 #[.val (.ref b), .val (.int q), .val (.int (0 : Int32)), .val (.int (2 : Int32)), .val (.int (q.toInt8.toInt32)), .val (.int (0 : Int32))] [])) _
      refine XS.iinc X0.here hx rfl (hb hby d18_25) rfl (l' := #[.val (.ref b), .val (.int q), .val (.int (0 : Int32)), .val (.int (2 : Int32)), .val (.int (q.toInt8.toInt32)), .val (.int (1 : Int32))]) rfl ?_
      show Steps p.tables e below (s₁.setTop (mkF m 28 #[.val (.ref b), .val (.int q), .val (.int (0 : Int32)), .val (.int (2 : Int32)), .val (.int (q.toInt8.toInt32)), .val (.int (1 : Int32))] [])) _
      refine XS.goto X0.here hx rfl (pc0 := 28) (pc' := 7) rfl (hb hby d18_28) (by decide) (by decide) ?_
      exact ktg)
    have pre_10 : Rch p.tables e below (s₁.setTop (entryFrame m #[(.ref b), (.int q), (.int (0 : Int32)), (.int (2 : Int32))] 6)) (s₁.setTop (mkF m 16 #[.val (.ref b), .val (.int q), .val (.int (0 : Int32)), .val (.int (2 : Int32)), .val (.int (q.toInt8.toInt32)), .val (.int (1 : Int32))] [(.int (1 : Int32)), (.ref b)])) := fun tgt ktg => pre_9 tgt (by
      show Steps p.tables e below (s₁.setTop (mkF m 7 #[.val (.ref b), .val (.int q), .val (.int (0 : Int32)), .val (.int (2 : Int32)), .val (.int (q.toInt8.toInt32)), .val (.int (1 : Int32))] [])) _
      refine XS.iload X0.here hx rfl (hb hby d18_7) rfl ?_
      show Steps p.tables e below (s₁.setTop (mkF m 9 #[.val (.ref b), .val (.int q), .val (.int (0 : Int32)), .val (.int (2 : Int32)), .val (.int (q.toInt8.toInt32)), .val (.int (1 : Int32))] [(.int (1 : Int32))])) _
      refine XS.iloadN X0.here hx rfl (hb hby d18_9) rfl ?_
      show Steps p.tables e below (s₁.setTop (mkF m 10 #[.val (.ref b), .val (.int q), .val (.int (0 : Int32)), .val (.int (2 : Int32)), .val (.int (q.toInt8.toInt32)), .val (.int (1 : Int32))] [(.int (2 : Int32)), (.int (1 : Int32))])) _
      refine XS.icmpNo X0.here hx rfl (hb hby d18_10) rfl (tlt (by decide : (1 : Int32) < (2 : Int32))).2.1 ?_
      show Steps p.tables e below (s₁.setTop (mkF m 13 #[.val (.ref b), .val (.int q), .val (.int (0 : Int32)), .val (.int (2 : Int32)), .val (.int (q.toInt8.toInt32)), .val (.int (1 : Int32))] [])) _
      refine XS.aloadN X0.here hx rfl (hb hby d18_13) rfl rfl ?_
      show Steps p.tables e below (s₁.setTop (mkF m 14 #[.val (.ref b), .val (.int q), .val (.int (0 : Int32)), .val (.int (2 : Int32)), .val (.int (q.toInt8.toInt32)), .val (.int (1 : Int32))] [(.ref b)])) _
      refine XS.iload X0.here hx rfl (hb hby d18_14) rfl ?_
      exact ktg)
    obtain ⟨cl__11, Ar__11, q__11, S__11, N__11, H__11, G__11⟩ := id A1
    have hin__11 : ¬ ((1 : Int32) < 0 ∨ cl__11.slots.size ≤ ((1 : Int32)).toNatClampNeg) := inb_of S__11 ⟨by decide, by decide⟩
    have hat__11 : cl__11.slots[((1 : Int32)).toNatClampNeg]? = some (.int v1) := H__11.at hin__11 rfl
    have pre_12 : Rch p.tables e below (s₁.setTop (entryFrame m #[(.ref b), (.int q), (.int (0 : Int32)), (.int (2 : Int32))] 6)) (s₁.setTop (mkF m 17 #[.val (.ref b), .val (.int q), .val (.int (0 : Int32)), .val (.int (2 : Int32)), .val (.int (q.toInt8.toInt32)), .val (.int (1 : Int32))] [(.int v1)])) := fun tgt ktg => pre_10 tgt (X0.baloadBytes hx (j := (1 : Int32)) (v := (.int v1)) (by rw [e0]; exact Ar__11.1) (State.isArrayOf_alike hZ.alike Ar__11.2.1) Ar__11.2.2 hin__11 hat__11 (g := (mkF m 16 #[.val (.ref b), .val (.int q), .val (.int (0 : Int32)), .val (.int (2 : Int32)), .val (.int (q.toInt8.toInt32)), .val (.int (1 : Int32))] [(.int (1 : Int32)), (.ref b)])) rfl rfl (hb hby d18_16) _ ktg)
    have pre_13 : Rch p.tables e below (s₁.setTop (entryFrame m #[(.ref b), (.int q), (.int (0 : Int32)), (.int (2 : Int32))] 6)) (s₁.setTop (mkF m 19 #[.val (.ref b), .val (.int q), .val (.int (0 : Int32)), .val (.int (2 : Int32)), .val (.int (q.toInt8.toInt32)), .val (.int (1 : Int32))] [(.int (q.toInt8.toInt32)), (.int v1)])) := fun tgt ktg => pre_12 tgt (by
      show Steps p.tables e below (s₁.setTop (mkF m 17 #[.val (.ref b), .val (.int q), .val (.int (0 : Int32)), .val (.int (2 : Int32)), .val (.int (q.toInt8.toInt32)), .val (.int (1 : Int32))] [(.int v1)])) _
      refine XS.iload X0.here hx rfl (hb hby d18_17) rfl ?_
      exact ktg)
    by_cases c_14 : v1 = (q.toInt8.toInt32)
    · skip
      have pre_15 : Rch p.tables e below (s₁.setTop (entryFrame m #[(.ref b), (.int q), (.int (0 : Int32)), (.int (2 : Int32))] 6)) (s₁.setTop (mkF m 22 #[.val (.ref b), .val (.int q), .val (.int (0 : Int32)), .val (.int (2 : Int32)), .val (.int (q.toInt8.toInt32)), .val (.int (1 : Int32))] [])) := fun tgt ktg => pre_13 tgt (by
        show Steps p.tables e below (s₁.setTop (mkF m 19 #[.val (.ref b), .val (.int q), .val (.int (0 : Int32)), .val (.int (2 : Int32)), .val (.int (q.toInt8.toInt32)), .val (.int (1 : Int32))] [(.int (q.toInt8.toInt32)), (.int v1)])) _
        refine XS.icmpNo X0.here hx rfl (hb hby d18_19) rfl (teq c_14).2 ?_
        exact ktg)
      have pre_16 : Rch p.tables e below (s₁.setTop (entryFrame m #[(.ref b), (.int q), (.int (0 : Int32)), (.int (2 : Int32))] 6)) (s₁.setTop (mkF m 24 #[.val (.ref b), .val (.int q), .val (.int (0 : Int32)), .val (.int (2 : Int32)), .val (.int (q.toInt8.toInt32)), .val (.int (1 : Int32))] [(.int (1 : Int32))])) := fun tgt ktg => pre_15 tgt (by
        show Steps p.tables e below (s₁.setTop (mkF m 22 #[.val (.ref b), .val (.int q), .val (.int (0 : Int32)), .val (.int (2 : Int32)), .val (.int (q.toInt8.toInt32)), .val (.int (1 : Int32))] [])) _
        refine XS.iload X0.here hx rfl (hb hby d18_22) rfl ?_
        exact ktg)
      obtain ⟨fs, hr, hrun, hended, hW, hsame⟩ := X0.leave (v := some (.int (1 : Int32))) (fun h => by rw [Bd.returns] at h; cases h)
      refine ⟨_, _, pre_16 _ ?_, hrun, hended, _, _, rfl, ?_, ⟨_, rfl⟩, hW, hsame.mono (by decide) (by decide)⟩
      · show Steps p.tables e below (s₁.setTop (mkF m 24 #[.val (.ref b), .val (.int q), .val (.int (0 : Int32)), .val (.int (2 : Int32)), .val (.int (q.toInt8.toInt32)), .val (.int (1 : Int32))] [(.int (1 : Int32))])) _
        exact retI X0 hx Bd.returns (hb hby d18_24) hr
      · show Qoc2 Z b q v0 v1 kb h0 n0 _ s₁.heap _
        rw [e0]
        exact ⟨by simp [ixo, c_5, c_14], N0, rfl⟩
    · skip
      have pre_17 : Rch p.tables e below (s₁.setTop (entryFrame m #[(.ref b), (.int q), (.int (0 : Int32)), (.int (2 : Int32))] 6)) (s₁.setTop (mkF m 25 #[.val (.ref b), .val (.int q), .val (.int (0 : Int32)), .val (.int (2 : Int32)), .val (.int (q.toInt8.toInt32)), .val (.int (1 : Int32))] [])) := fun tgt ktg => pre_13 tgt (by
        show Steps p.tables e below (s₁.setTop (mkF m 19 #[.val (.ref b), .val (.int q), .val (.int (0 : Int32)), .val (.int (2 : Int32)), .val (.int (q.toInt8.toInt32)), .val (.int (1 : Int32))] [(.int (q.toInt8.toInt32)), (.int v1)])) _
        refine XS.icmpYes X0.here hx rfl (pc0 := 19) (pc' := 25) rfl (hb hby d18_19) rfl (feq c_14).2 (by decide) (by decide) ?_
        exact ktg)
      have pre_18 : Rch p.tables e below (s₁.setTop (entryFrame m #[(.ref b), (.int q), (.int (0 : Int32)), (.int (2 : Int32))] 6)) (s₁.setTop (mkF m 7 #[.val (.ref b), .val (.int q), .val (.int (0 : Int32)), .val (.int (2 : Int32)), .val (.int (q.toInt8.toInt32)), .val (.int (2 : Int32))] [])) := fun tgt ktg => pre_17 tgt (by
        show Steps p.tables e below (s₁.setTop (mkF m 25 #[.val (.ref b), .val (.int q), .val (.int (0 : Int32)), .val (.int (2 : Int32)), .val (.int (q.toInt8.toInt32)), .val (.int (1 : Int32))] [])) _
        refine XS.iinc X0.here hx rfl (hb hby d18_25) rfl (l' := #[.val (.ref b), .val (.int q), .val (.int (0 : Int32)), .val (.int (2 : Int32)), .val (.int (q.toInt8.toInt32)), .val (.int (2 : Int32))]) rfl ?_
        show Steps p.tables e below (s₁.setTop (mkF m 28 #[.val (.ref b), .val (.int q), .val (.int (0 : Int32)), .val (.int (2 : Int32)), .val (.int (q.toInt8.toInt32)), .val (.int (2 : Int32))] [])) _
        refine XS.goto X0.here hx rfl (pc0 := 28) (pc' := 7) rfl (hb hby d18_28) (by decide) (by decide) ?_
        exact ktg)
      have pre_19 : Rch p.tables e below (s₁.setTop (entryFrame m #[(.ref b), (.int q), (.int (0 : Int32)), (.int (2 : Int32))] 6)) (s₁.setTop (mkF m 32 #[.val (.ref b), .val (.int q), .val (.int (0 : Int32)), .val (.int (2 : Int32)), .val (.int (q.toInt8.toInt32)), .val (.int (2 : Int32))] [(.int (-1 : Int32))])) := fun tgt ktg => pre_18 tgt (by
        show Steps p.tables e below (s₁.setTop (mkF m 7 #[.val (.ref b), .val (.int q), .val (.int (0 : Int32)), .val (.int (2 : Int32)), .val (.int (q.toInt8.toInt32)), .val (.int (2 : Int32))] [])) _
        refine XS.iload X0.here hx rfl (hb hby d18_7) rfl ?_
        show Steps p.tables e below (s₁.setTop (mkF m 9 #[.val (.ref b), .val (.int q), .val (.int (0 : Int32)), .val (.int (2 : Int32)), .val (.int (q.toInt8.toInt32)), .val (.int (2 : Int32))] [(.int (2 : Int32))])) _
        refine XS.iloadN X0.here hx rfl (hb hby d18_9) rfl ?_
        show Steps p.tables e below (s₁.setTop (mkF m 10 #[.val (.ref b), .val (.int q), .val (.int (0 : Int32)), .val (.int (2 : Int32)), .val (.int (q.toInt8.toInt32)), .val (.int (2 : Int32))] [(.int (2 : Int32)), (.int (2 : Int32))])) _
        refine XS.icmpYes X0.here hx rfl (pc0 := 10) (pc' := 31) rfl (hb hby d18_10) rfl (flt (by decide : ¬ ((2 : Int32) < (2 : Int32)))).2.1 (by decide) (by decide) ?_
        show Steps p.tables e below (s₁.setTop (mkF m 31 #[.val (.ref b), .val (.int q), .val (.int (0 : Int32)), .val (.int (2 : Int32)), .val (.int (q.toInt8.toInt32)), .val (.int (2 : Int32))] [])) _
        refine XS.iconst X0.here hx rfl (hb hby d18_31) ?_
        exact ktg)
      obtain ⟨fs, hr, hrun, hended, hW, hsame⟩ := X0.leave (v := some (.int (-1 : Int32))) (fun h => by rw [Bd.returns] at h; cases h)
      refine ⟨_, _, pre_19 _ ?_, hrun, hended, _, _, rfl, ?_, ⟨_, rfl⟩, hW, hsame.mono (by decide) (by decide)⟩
      · show Steps p.tables e below (s₁.setTop (mkF m 32 #[.val (.ref b), .val (.int q), .val (.int (0 : Int32)), .val (.int (2 : Int32)), .val (.int (q.toInt8.toInt32)), .val (.int (2 : Int32))] [(.int (-1 : Int32))])) _
        exact retI X0 hx Bd.returns (hb hby d18_32) hr
      · show Qoc2 Z b q v0 v1 kb h0 n0 _ s₁.heap _
        rw [e0]
        exact ⟨by simp [ixo, c_5, c_14], N0, rfl⟩
theorem ef_li2 (m : MethodId) (x0 : Addr) (x1 : Int32) (x2 : Int32) (x3 : Int32) : entryFrame m #[(.ref x0), (.int x1), (.int x2), (.int x3)] 4 = mkF m 0 #[.val (.ref x0), .val (.int x1), .val (.int x2), .val (.int x3)] [] := by first | (simp [entryFrame, mkF, argsToLocals, Value.category]; done) | rfl
def Qli2 (Z : State) (b : Addr) (q : Int32) (v0 : Int32) (v1 : Int32) (kb : ClassId) (h0 : Heap) (n0 : Nat) (v : Option Value) (h : Heap) (L : List Loc) : Prop := v = some (.int (ixo [v0, v1] (q.toInt8.toInt32) 0)) ∧ Fr n0 L ∧ h = h0
set_option maxRecDepth 65536 in
set_option maxHeartbeats 40000000 in
theorem rmli2 (l : Launch) (Z : State) (a0 : Array Value) (hw : ∀ d ∈ tables_1, d.before a0 Z = true) (ws : List Jvm.Cond) (b : Addr) (q : Int32) (v0 : Int32) (v1 : Int32) (kb : ClassId) (h0 : Heap) (n0 : Nat) (Z0 : n0 ≤ h0.size) (A1 : Arv Z h0 b kb .byte (2 : Int32) [(.int v0), (.int v1)] (.int (0 : Int32))) (hq0 : ¬ q < 0) (hq : ¬ (255 : Int32) < q) :
    MetFree l (⟨"java/lang/StringLatin1", "indexOf", "([BIII)I"⟩ : MethodName) (head1 (Jvm.Cond.code (⟨"java/lang/StringLatin1", "indexOf", "([BIII)I"⟩ : MethodName) jdk_43_method_22_code 4 (some .int) :: ws) ({ frames := 1, cells := 0, slots := 0, locals := 20 } : Room)) (fun aA U => aA = #[(.ref b), (.int q), (.int (0 : Int32)), (.int (2 : Int32))] ∧ Z.Warmed39 U.vm ∧ U.heap = h0) (fun _ _ _ _ _ => True) (fun _ U oO U' => ∃ vV LL, oO = .returned vV ∧ Qli2 Z b q v0 v1 kb h0 n0 vV U'.heap LL ∧ FrameEnd U oO U' LL ({ frames := 1, cells := 0, slots := 0, locals := 20 } : Room).cells ({ frames := 1, cells := 0, slots := 0, locals := 20 } : Room).slots) := by
  refine MetFree.of_bodySF (plainFor_of_name pn_1) hisR ?_
  intro p e s m args below meth c s₁ Bd hml0 hP hK
  obtain ⟨rfl, hZ, hh⟩ := hP
  have hx := Bd.exec
  have hby := Bd.bytes
  have hml : c.maxLocals = 4 := hml0
  have hown : s.vm.findClass "java/lang/StringLatin1" = some m.cls := findClass_of_methodNamed Bd.named
  have hnm := (name_of_methodNamed Bd.named Bd.method).1
  have X0 : Stand p l e ({ frames := 1, cells := 0, slots := 0, locals := 20 } : Room) s m #[(.ref b), (.int q), (.int (0 : Int32)), (.int (2 : Int32))] below meth c s₁ [] 0 0 := Stand.of_body Bd
  have e0 : s₁.heap = h0 := by rw [← hh, Bd.state]; rfl
  have N0 := Fr.nil n0
  have K0 : Keep h0 h0 [] := Keep.refl _ _
  have pre0 : Rch p.tables e below (s₁.setTop (entryFrame m #[(.ref b), (.int q), (.int (0 : Int32)), (.int (2 : Int32))] 4)) (s₁.setTop (mkF m 0 #[.val (.ref b), .val (.int q), .val (.int (0 : Int32)), .val (.int (2 : Int32))] [])) := fun tgt ktg => castTop (ef_li2 m b q (0 : Int32) (2 : Int32)) ktg
  have pre_1 : Rch p.tables e below (s₁.setTop (entryFrame m #[(.ref b), (.int q), (.int (0 : Int32)), (.int (2 : Int32))] 4)) (s₁.setTop (mkF m 1 #[.val (.ref b), .val (.int q), .val (.int (0 : Int32)), .val (.int (2 : Int32))] [(.int q)])) := fun tgt ktg => pre0 tgt (by
    show Steps p.tables e below (s₁.setTop (mkF m 0 #[.val (.ref b), .val (.int q), .val (.int (0 : Int32)), .val (.int (2 : Int32))] [])) _
    refine XS.iloadN X0.here hx rfl (hb hby d14_0) rfl ?_
    exact ktg)
  obtain ⟨_, _, ⟨T_2, L_2, k_2, n_2⟩, -, X_2, ⟨Lc_2, hQ_2, l_2, y_2, z_2⟩, st_2⟩ := Jvm.LawKit.callS X0 hx (y := (⟨"java/lang/StringLatin1", "canEncode", "(I)Z"⟩ : MethodName)) hown (mvT hZ (hw _ (List.mem_of_getElem? (i := 68) rfl))) (mvT hZ (hw _ (List.mem_of_getElem? (i := 69) rfl))) (mvT hZ (hw _ (List.mem_of_getElem? (i := 66) rfl))) (mvT hZ (hw _ (List.mem_of_getElem? (i := 70) rfl))) (by decide) (backOf (W := 0) (rmce l Z a0 hw [] q h0 n0 Z0 hq0 hq) hZ (hw _ (List.mem_of_getElem? (i := 70) rfl)) (hw _ (List.mem_of_getElem? (i := 66) rfl)) (by decide) (by decide)) (g := (mkF m 1 #[.val (.ref b), .val (.int q), .val (.int (0 : Int32)), .val (.int (2 : Int32))] [(.int q)])) rfl (by rw [hml]; rfl) (argsL := [(.int q)]) (rest := []) (lenOf pd_1 rfl) rfl (by show 2 * 0 + _ ≤ _; exact Nat.le_of_eq rfl) (hb hby d14_1) (fun _ _ => ⟨rfl, e0, (by decide : 0 + 0 ≤ _), (by decide : 0 + 0 ≤ _)⟩)
  dsimp only [Pt.U, Pt.locs, Pt.cells, Pt.slots] at X_2 l_2 y_2 z_2 st_2 hQ_2
  subst l_2 y_2 z_2
  obtain ⟨rfl, Nq_2, eh_2⟩ := hQ_2
  have N_3 := Fr.app N0 Nq_2
  have pre_2 : Rch p.tables e below (s₁.setTop (entryFrame m #[(.ref b), (.int q), (.int (0 : Int32)), (.int (2 : Int32))] 4)) (T_2.setTop (mkF m 4 #[.val (.ref b), .val (.int q), .val (.int (0 : Int32)), .val (.int (2 : Int32))] [(.int (1 : Int32))])) := fun tgt ktg => pre_1 tgt (st_2 tgt ktg)
  have pre_4 : Rch p.tables e below (s₁.setTop (entryFrame m #[(.ref b), (.int q), (.int (0 : Int32)), (.int (2 : Int32))] 4)) (T_2.setTop (mkF m 11 #[.val (.ref b), .val (.int q), .val (.int (0 : Int32)), .val (.int (2 : Int32))] [(.int (0 : Int32)), (.int (0 : Int32))])) := fun tgt ktg => pre_2 tgt (by
    show Steps p.tables e below (T_2.setTop (mkF m 4 #[.val (.ref b), .val (.int q), .val (.int (0 : Int32)), .val (.int (2 : Int32))] [(.int (1 : Int32))])) _
    refine XS.ifYes X_2.here hx rfl (pc0 := 4) (pc' := 9) rfl (hb hby d14_4) rfl ((if0 _ _).trans (feq (by decide : ¬ ((1 : Int32) = (0 : Int32)))).2) (by decide) (by decide) ?_
    show Steps p.tables e below (T_2.setTop (mkF m 9 #[.val (.ref b), .val (.int q), .val (.int (0 : Int32)), .val (.int (2 : Int32))] [])) _
    refine XS.iloadN X_2.here hx rfl (hb hby d14_9) rfl ?_
    show Steps p.tables e below (T_2.setTop (mkF m 10 #[.val (.ref b), .val (.int q), .val (.int (0 : Int32)), .val (.int (2 : Int32))] [(.int (0 : Int32))])) _
    refine XS.iconst X_2.here hx rfl (hb hby d14_10) ?_
    exact ktg)
  obtain ⟨_, _, ⟨T_5, L_5, k_5, n_5⟩, -, X_5, ⟨Lc_5, hQ_5, l_5, y_5, z_5⟩, st_5⟩ := Jvm.LawKit.callS X_2 hx (y := (⟨"java/lang/Math", "max", "(II)I"⟩ : MethodName)) hown (mvT hZ (hw _ (List.mem_of_getElem? (i := 71) rfl))) (mvT hZ (hw _ (List.mem_of_getElem? (i := 72) rfl))) (mvT hZ (hw _ (List.mem_of_getElem? (i := 73) rfl))) (mvT hZ (hw _ (List.mem_of_getElem? (i := 74) rfl))) (by decide) (backOf (W := 0) (rmmmax l Z a0 hw [] (0 : Int32) (0 : Int32) h0 n0 Z0) hZ (hw _ (List.mem_of_getElem? (i := 74) rfl)) (hw _ (List.mem_of_getElem? (i := 73) rfl)) (by decide) (by decide)) (g := (mkF m 11 #[.val (.ref b), .val (.int q), .val (.int (0 : Int32)), .val (.int (2 : Int32))] [(.int (0 : Int32)), (.int (0 : Int32))])) rfl (by rw [hml]; rfl) (argsL := [(.int (0 : Int32)), (.int (0 : Int32))]) (rest := []) (lenOf pd_2 rfl) rfl (by show 2 * 0 + _ ≤ _; exact Nat.le_of_eq rfl) (hb hby d14_11) (fun _ _ => ⟨rfl, eh_2, (by decide : 0 + 0 ≤ _), (by decide : 0 + 0 ≤ _)⟩)
  dsimp only [Pt.U, Pt.locs, Pt.cells, Pt.slots] at X_5 l_5 y_5 z_5 st_5 hQ_5
  subst l_5 y_5 z_5
  obtain ⟨rfl, Nq_5, eh_5⟩ := hQ_5
  have N_6 := Fr.app N_3 Nq_5
  have pre_5 : Rch p.tables e below (s₁.setTop (entryFrame m #[(.ref b), (.int q), (.int (0 : Int32)), (.int (2 : Int32))] 4)) (T_5.setTop (mkF m 14 #[.val (.ref b), .val (.int q), .val (.int (0 : Int32)), .val (.int (2 : Int32))] [(.int (0 : Int32))])) := fun tgt ktg => pre_4 tgt (st_5 tgt ktg)
  have pre_7 : Rch p.tables e below (s₁.setTop (entryFrame m #[(.ref b), (.int q), (.int (0 : Int32)), (.int (2 : Int32))] 4)) (T_5.setTop (mkF m 17 #[.val (.ref b), .val (.int q), .val (.int (0 : Int32)), .val (.int (2 : Int32))] [(.ref b), (.int (2 : Int32))])) := fun tgt ktg => pre_5 tgt (by
    show Steps p.tables e below (T_5.setTop (mkF m 14 #[.val (.ref b), .val (.int q), .val (.int (0 : Int32)), .val (.int (2 : Int32))] [(.int (0 : Int32))])) _
    refine XS.istoreN X_5.here hx rfl (hb hby d14_14) rfl (l' := #[.val (.ref b), .val (.int q), .val (.int (0 : Int32)), .val (.int (2 : Int32))]) rfl ?_
    show Steps p.tables e below (T_5.setTop (mkF m 15 #[.val (.ref b), .val (.int q), .val (.int (0 : Int32)), .val (.int (2 : Int32))] [])) _
    refine XS.iloadN X_5.here hx rfl (hb hby d14_15) rfl ?_
    show Steps p.tables e below (T_5.setTop (mkF m 16 #[.val (.ref b), .val (.int q), .val (.int (0 : Int32)), .val (.int (2 : Int32))] [(.int (2 : Int32))])) _
    refine XS.aloadN X_5.here hx rfl (hb hby d14_16) rfl rfl ?_
    exact ktg)
  obtain ⟨cl__8, Ar__8, q__8, S__8, N__8, H__8, G__8⟩ := id A1
  have pre_9 : Rch p.tables e below (s₁.setTop (entryFrame m #[(.ref b), (.int q), (.int (0 : Int32)), (.int (2 : Int32))] 4)) (T_5.setTop (mkF m 18 #[.val (.ref b), .val (.int q), .val (.int (0 : Int32)), .val (.int (2 : Int32))] [(.int (2 : Int32)), (.int (2 : Int32))])) := fun tgt ktg => pre_7 tgt (X_5.arraylength hx (by rw [eh_5]; exact Ar__8.1) (State.isArrayOf_alike hZ.alike Ar__8.2.1) (g := (mkF m 17 #[.val (.ref b), .val (.int q), .val (.int (0 : Int32)), .val (.int (2 : Int32))] [(.ref b), (.int (2 : Int32))])) rfl rfl (hb hby d14_17) _ (by rw [len_of S__8 N__8]; exact ktg))
  obtain ⟨_, _, ⟨T_10, L_10, k_10, n_10⟩, -, X_10, ⟨Lc_10, hQ_10, l_10, y_10, z_10⟩, st_10⟩ := Jvm.LawKit.callS X_5 hx (y := (⟨"java/lang/Math", "min", "(II)I"⟩ : MethodName)) hown (mvT hZ (hw _ (List.mem_of_getElem? (i := 75) rfl))) (mvT hZ (hw _ (List.mem_of_getElem? (i := 76) rfl))) (mvT hZ (hw _ (List.mem_of_getElem? (i := 73) rfl))) (mvT hZ (hw _ (List.mem_of_getElem? (i := 77) rfl))) (by decide) (backOf (W := 0) (rmmmin l Z a0 hw [] (2 : Int32) (2 : Int32) h0 n0 Z0) hZ (hw _ (List.mem_of_getElem? (i := 77) rfl)) (hw _ (List.mem_of_getElem? (i := 73) rfl)) (by decide) (by decide)) (g := (mkF m 18 #[.val (.ref b), .val (.int q), .val (.int (0 : Int32)), .val (.int (2 : Int32))] [(.int (2 : Int32)), (.int (2 : Int32))])) rfl (by rw [hml]; rfl) (argsL := [(.int (2 : Int32)), (.int (2 : Int32))]) (rest := []) (lenOf pd_2 rfl) rfl (by show 2 * 0 + _ ≤ _; exact Nat.le_of_eq rfl) (hb hby d14_18) (fun _ _ => ⟨rfl, eh_5, (by decide : 0 + 0 ≤ _), (by decide : 0 + 0 ≤ _)⟩)
  dsimp only [Pt.U, Pt.locs, Pt.cells, Pt.slots] at X_10 l_10 y_10 z_10 st_10 hQ_10
  subst l_10 y_10 z_10
  obtain ⟨rfl, Nq_10, eh_10⟩ := hQ_10
  have N_11 := Fr.app N_6 Nq_10
  have pre_10 : Rch p.tables e below (s₁.setTop (entryFrame m #[(.ref b), (.int q), (.int (0 : Int32)), (.int (2 : Int32))] 4)) (T_10.setTop (mkF m 21 #[.val (.ref b), .val (.int q), .val (.int (0 : Int32)), .val (.int (2 : Int32))] [(.int (2 : Int32))])) := fun tgt ktg => pre_9 tgt (st_10 tgt ktg)
  have pre_12 : Rch p.tables e below (s₁.setTop (entryFrame m #[(.ref b), (.int q), (.int (0 : Int32)), (.int (2 : Int32))] 4)) (T_10.setTop (mkF m 24 #[.val (.ref b), .val (.int q), .val (.int (0 : Int32)), .val (.int (2 : Int32))] [(.int (2 : Int32)), (.int (0 : Int32))])) := fun tgt ktg => pre_10 tgt (by
    show Steps p.tables e below (T_10.setTop (mkF m 21 #[.val (.ref b), .val (.int q), .val (.int (0 : Int32)), .val (.int (2 : Int32))] [(.int (2 : Int32))])) _
    refine XS.istoreN X_10.here hx rfl (hb hby d14_21) rfl (l' := #[.val (.ref b), .val (.int q), .val (.int (0 : Int32)), .val (.int (2 : Int32))]) rfl ?_
    show Steps p.tables e below (T_10.setTop (mkF m 22 #[.val (.ref b), .val (.int q), .val (.int (0 : Int32)), .val (.int (2 : Int32))] [])) _
    refine XS.iloadN X_10.here hx rfl (hb hby d14_22) rfl ?_
    show Steps p.tables e below (T_10.setTop (mkF m 23 #[.val (.ref b), .val (.int q), .val (.int (0 : Int32)), .val (.int (2 : Int32))] [(.int (0 : Int32))])) _
    refine XS.iloadN X_10.here hx rfl (hb hby d14_23) rfl ?_
    exact ktg)
  have pre_13 : Rch p.tables e below (s₁.setTop (entryFrame m #[(.ref b), (.int q), (.int (0 : Int32)), (.int (2 : Int32))] 4)) (T_10.setTop (mkF m 33 #[.val (.ref b), .val (.int q), .val (.int (0 : Int32)), .val (.int (2 : Int32))] [(.int (2 : Int32)), (.int (0 : Int32)), (.int q), (.ref b)])) := fun tgt ktg => pre_12 tgt (by
    show Steps p.tables e below (T_10.setTop (mkF m 24 #[.val (.ref b), .val (.int q), .val (.int (0 : Int32)), .val (.int (2 : Int32))] [(.int (2 : Int32)), (.int (0 : Int32))])) _
    refine XS.icmpYes X_10.here hx rfl (pc0 := 24) (pc' := 29) rfl (hb hby d14_24) rfl (tlt (by decide : (0 : Int32) < (2 : Int32))).1 (by decide) (by decide) ?_
    show Steps p.tables e below (T_10.setTop (mkF m 29 #[.val (.ref b), .val (.int q), .val (.int (0 : Int32)), .val (.int (2 : Int32))] [])) _
    refine XS.aloadN X_10.here hx rfl (hb hby d14_29) rfl rfl ?_
    show Steps p.tables e below (T_10.setTop (mkF m 30 #[.val (.ref b), .val (.int q), .val (.int (0 : Int32)), .val (.int (2 : Int32))] [(.ref b)])) _
    refine XS.iloadN X_10.here hx rfl (hb hby d14_30) rfl ?_
    show Steps p.tables e below (T_10.setTop (mkF m 31 #[.val (.ref b), .val (.int q), .val (.int (0 : Int32)), .val (.int (2 : Int32))] [(.int q), (.ref b)])) _
    refine XS.iloadN X_10.here hx rfl (hb hby d14_31) rfl ?_
    show Steps p.tables e below (T_10.setTop (mkF m 32 #[.val (.ref b), .val (.int q), .val (.int (0 : Int32)), .val (.int (2 : Int32))] [(.int (0 : Int32)), (.int q), (.ref b)])) _
    refine XS.iloadN X_10.here hx rfl (hb hby d14_32) rfl ?_
    exact ktg)
  obtain ⟨_, _, ⟨T_14, L_14, k_14, n_14⟩, -, X_14, ⟨Lc_14, hQ_14, l_14, y_14, z_14⟩, st_14⟩ := Jvm.LawKit.callS X_10 hx (y := (⟨"java/lang/StringLatin1", "indexOfChar", "([BIII)I"⟩ : MethodName)) hown (mvT hZ (hw _ (List.mem_of_getElem? (i := 78) rfl))) (mvT hZ (hw _ (List.mem_of_getElem? (i := 79) rfl))) (mvT hZ (hw _ (List.mem_of_getElem? (i := 66) rfl))) (mvT hZ (hw _ (List.mem_of_getElem? (i := 80) rfl))) (by decide) (backOf (W := 0) (rmoc2 l Z a0 hw [] b q v0 v1 kb h0 n0 Z0 A1) hZ (hw _ (List.mem_of_getElem? (i := 80) rfl)) (hw _ (List.mem_of_getElem? (i := 66) rfl)) (by decide) (by decide)) (g := (mkF m 33 #[.val (.ref b), .val (.int q), .val (.int (0 : Int32)), .val (.int (2 : Int32))] [(.int (2 : Int32)), (.int (0 : Int32)), (.int q), (.ref b)])) rfl (by rw [hml]; rfl) (argsL := [(.ref b), (.int q), (.int (0 : Int32)), (.int (2 : Int32))]) (rest := []) (lenOf pd_5 rfl) rfl (by show 2 * 0 + _ ≤ _; exact Nat.le_of_eq rfl) (hb hby d14_33) (fun _ _ => ⟨rfl, eh_10, (by decide : 0 + 0 ≤ _), (by decide : 0 + 0 ≤ _)⟩)
  dsimp only [Pt.U, Pt.locs, Pt.cells, Pt.slots] at X_14 l_14 y_14 z_14 st_14 hQ_14
  subst l_14 y_14 z_14
  obtain ⟨rfl, Nq_14, eh_14⟩ := hQ_14
  have N_15 := Fr.app N_11 Nq_14
  have pre_14 : Rch p.tables e below (s₁.setTop (entryFrame m #[(.ref b), (.int q), (.int (0 : Int32)), (.int (2 : Int32))] 4)) (T_14.setTop (mkF m 36 #[.val (.ref b), .val (.int q), .val (.int (0 : Int32)), .val (.int (2 : Int32))] [(.int (ixo [v0, v1] (q.toInt8.toInt32) 0))])) := fun tgt ktg => pre_13 tgt (st_14 tgt ktg)
  obtain ⟨fs, hr, hrun, hended, hW, hsame⟩ := X_14.leave (v := some (.int (ixo [v0, v1] (q.toInt8.toInt32) 0))) (fun h => by rw [Bd.returns] at h; cases h)
  refine ⟨_, _, pre_14 _ ?_, hrun, hended, _, _, rfl, ?_, ⟨_, rfl⟩, hW, hsame.mono (by decide) (by decide)⟩
  · show Steps p.tables e below (T_14.setTop (mkF m 36 #[.val (.ref b), .val (.int q), .val (.int (0 : Int32)), .val (.int (2 : Int32))] [(.int (ixo [v0, v1] (q.toInt8.toInt32) 0))])) _
    exact retI X_14 hx Bd.returns (hb hby d14_36) hr
  · show Qli2 Z b q v0 v1 kb h0 n0 _ T_14.heap _
    rw [eh_14]
    exact ⟨rfl, N_15, rfl⟩
theorem ef_i22 (m : MethodId) (x0 : Addr) (x1 : Int32) (x2 : Int32) : entryFrame m #[(.ref x0), (.int x1), (.int x2)] 3 = mkF m 0 #[.val (.ref x0), .val (.int x1), .val (.int x2)] [] := by first | (simp [entryFrame, mkF, argsToLocals, Value.category]; done) | rfl
def Qi22 (Z : State) (a : Addr) (q : Int32) (v0 : Int32) (v1 : Int32) (b : Addr) (kb : ClassId) (h0 : Heap) (n0 : Nat) (v : Option Value) (h : Heap) (L : List Loc) : Prop := v = some (.int (ixo [v0, v1] (q.toInt8.toInt32) 0)) ∧ Fr n0 L ∧ h = h0
set_option maxRecDepth 65536 in
set_option maxHeartbeats 40000000 in
theorem rmi22 (l : Launch) (Z : State) (a0 : Array Value) (hw : ∀ d ∈ tables_1, d.before a0 Z = true) (ws : List Jvm.Cond) (a : Addr) (q : Int32) (v0 : Int32) (v1 : Int32) (b : Addr) (kb : ClassId) (h0 : Heap) (n0 : Nat) (Z0 : n0 ≤ h0.size) (E1 : Exa Z h0 a "java/lang/String") (F1 : Fld Z h0 a "java/lang/String" "coder" "B" (.int (0 : Int32))) (F2 : Fld Z h0 a "java/lang/String" "value" "[B" (.ref b)) (A1 : Arv Z h0 b kb .byte (2 : Int32) [(.int v0), (.int v1)] (.int (0 : Int32))) (cs : Int32) (hcs : ¬ cs = 0) (S1 : Sta Z h0 "java/lang/String" "COMPACT_STRINGS" "Z" (.int cs)) (hq0 : ¬ q < 0) (hq : ¬ (255 : Int32) < q) :
    MetFree l (⟨"java/lang/String", "indexOf", "(II)I"⟩ : MethodName) (head1 (Jvm.Cond.code (⟨"java/lang/String", "indexOf", "(II)I"⟩ : MethodName) jdk_42_method_80_code 3 (some .int) :: ws) ({ frames := 2, cells := 0, slots := 0, locals := 35 } : Room)) (fun aA U => aA = #[(.ref a), (.int q), (.int (0 : Int32))] ∧ Z.Warmed39 U.vm ∧ U.heap = h0) (fun _ _ _ _ _ => True) (fun _ U oO U' => ∃ vV LL, oO = .returned vV ∧ Qi22 Z a q v0 v1 b kb h0 n0 vV U'.heap LL ∧ FrameEnd U oO U' LL ({ frames := 2, cells := 0, slots := 0, locals := 35 } : Room).cells ({ frames := 2, cells := 0, slots := 0, locals := 35 } : Room).slots) := by
  refine MetFree.of_bodySF (plainFor_of_name pn_0) hisR ?_
  intro p e s m args below meth c s₁ Bd hml0 hP hK
  obtain ⟨rfl, hZ, hh⟩ := hP
  have hx := Bd.exec
  have hby := Bd.bytes
  have hml : c.maxLocals = 3 := hml0
  have hown : s.vm.findClass "java/lang/String" = some m.cls := findClass_of_methodNamed Bd.named
  have hnm := (name_of_methodNamed Bd.named Bd.method).1
  have X0 : Stand p l e ({ frames := 2, cells := 0, slots := 0, locals := 35 } : Room) s m #[(.ref a), (.int q), (.int (0 : Int32))] below meth c s₁ [] 0 0 := Stand.of_body Bd
  have e0 : s₁.heap = h0 := by rw [← hh, Bd.state]; rfl
  have N0 := Fr.nil n0
  have K0 : Keep h0 h0 [] := Keep.refl _ _
  have pre0 : Rch p.tables e below (s₁.setTop (entryFrame m #[(.ref a), (.int q), (.int (0 : Int32))] 3)) (s₁.setTop (mkF m 0 #[.val (.ref a), .val (.int q), .val (.int (0 : Int32))] [])) := fun tgt ktg => castTop (ef_i22 m a q (0 : Int32)) ktg
  have pre_1 : Rch p.tables e below (s₁.setTop (entryFrame m #[(.ref a), (.int q), (.int (0 : Int32))] 3)) (s₁.setTop (mkF m 1 #[.val (.ref a), .val (.int q), .val (.int (0 : Int32))] [(.ref a)])) := fun tgt ktg => pre0 tgt (by
    show Steps p.tables e below (s₁.setTop (mkF m 0 #[.val (.ref a), .val (.int q), .val (.int (0 : Int32))] [])) _
    refine XS.aloadN X0.here hx rfl (hb hby d10_0) rfl rfl ?_
    exact ktg)
  obtain ⟨cq_2, kq_2, q_2a, q_2b, q_2c⟩ := isOf hZ e0 E1
  obtain ⟨_, _, ⟨T_2, L_2, k_2, n_2⟩, -, X_2, ⟨Lc_2, hQ_2, l_2, y_2, z_2⟩, st_2⟩ := X0.virtualBack hx (y := (⟨"java/lang/String", "isLatin1", "()Z"⟩ : MethodName)) (z := (⟨"java/lang/String", "isLatin1", "()Z"⟩ : MethodName)) hown (mvT hZ (hw _ (List.mem_of_getElem? (i := 49) rfl))) (mvT hZ (hw _ (List.mem_of_getElem? (i := 50) rfl))) (notFace_of_selects (args := #[]) (mvT hZ (hw _ (List.mem_of_getElem? (i := 52) rfl)))) (mvT hZ (hw _ (List.mem_of_getElem? (i := 52) rfl))) (mvT hZ (hw _ (List.mem_of_getElem? (i := 51) rfl))) (by decide) (backOf (W := 0) (rmisL l Z a0 hw [] a h0 n0 Z0 F1 cs hcs S1) hZ (hw _ (List.mem_of_getElem? (i := 53) rfl)) (hw _ (List.mem_of_getElem? (i := 6) rfl)) (by decide) (by decide)) q_2a q_2c (g := (mkF m 1 #[.val (.ref a), .val (.int q), .val (.int (0 : Int32))] [(.ref a)])) rfl (by rw [hml]; rfl) (Steps.refl _) (argsL := []) (rest := []) (lenOf pd_3 rfl) rfl (by show 2 * 0 + _ ≤ _; exact Nat.le_of_eq rfl) (hb hby d10_1) (fun _ _ => ⟨rfl, e0, (by decide : 0 + 0 ≤ _), (by decide : 0 + 0 ≤ _)⟩)
  dsimp only [Pt.U, Pt.locs, Pt.cells, Pt.slots] at X_2 l_2 y_2 z_2 st_2 hQ_2
  subst l_2 y_2 z_2
  obtain ⟨rfl, Nq_2, eh_2⟩ := hQ_2
  have N_3 := Fr.app N0 Nq_2
  have pre_2 : Rch p.tables e below (s₁.setTop (entryFrame m #[(.ref a), (.int q), (.int (0 : Int32))] 3)) (T_2.setTop (mkF m 4 #[.val (.ref a), .val (.int q), .val (.int (0 : Int32))] [(.int (1 : Int32))])) := fun tgt ktg => pre_1 tgt (st_2.trans ktg)
  have pre_4 : Rch p.tables e below (s₁.setTop (entryFrame m #[(.ref a), (.int q), (.int (0 : Int32))] 3)) (T_2.setTop (mkF m 8 #[.val (.ref a), .val (.int q), .val (.int (0 : Int32))] [(.ref a)])) := fun tgt ktg => pre_2 tgt (by
    show Steps p.tables e below (T_2.setTop (mkF m 4 #[.val (.ref a), .val (.int q), .val (.int (0 : Int32))] [(.int (1 : Int32))])) _
    refine XS.ifNo X_2.here hx rfl (hb hby d10_4) rfl ((if0 _ _).trans (feq (by decide : ¬ ((1 : Int32) = (0 : Int32)))).1) ?_
    show Steps p.tables e below (T_2.setTop (mkF m 7 #[.val (.ref a), .val (.int q), .val (.int (0 : Int32))] [])) _
    refine XS.aloadN X_2.here hx rfl (hb hby d10_7) rfl rfl ?_
    exact ktg)
  obtain ⟨T_5, X_5, e_5, st_5⟩ := getF X_2 hx hZ hown (host := "") (Or.inl (hw _ (List.mem_of_getElem? (i := 32) rfl))) Via.refl eh_2 F2 (g := (mkF m 8 #[.val (.ref a), .val (.int q), .val (.int (0 : Int32))] [(.ref a)])) rfl rfl (hb hby d10_8)
  have pre_5 : Rch p.tables e below (s₁.setTop (entryFrame m #[(.ref a), (.int q), (.int (0 : Int32))] 3)) (T_5.setTop (mkF m 11 #[.val (.ref a), .val (.int q), .val (.int (0 : Int32))] [(.ref b)])) := fun tgt ktg => pre_4 tgt (st_5 tgt ktg)
  have pre_6 : Rch p.tables e below (s₁.setTop (entryFrame m #[(.ref a), (.int q), (.int (0 : Int32))] 3)) (T_5.setTop (mkF m 14 #[.val (.ref a), .val (.int q), .val (.int (0 : Int32))] [(.ref a), (.int (0 : Int32)), (.int q), (.ref b)])) := fun tgt ktg => pre_5 tgt (by
    show Steps p.tables e below (T_5.setTop (mkF m 11 #[.val (.ref a), .val (.int q), .val (.int (0 : Int32))] [(.ref b)])) _
    refine XS.iloadN X_5.here hx rfl (hb hby d10_11) rfl ?_
    show Steps p.tables e below (T_5.setTop (mkF m 12 #[.val (.ref a), .val (.int q), .val (.int (0 : Int32))] [(.int q), (.ref b)])) _
    refine XS.iloadN X_5.here hx rfl (hb hby d10_12) rfl ?_
    show Steps p.tables e below (T_5.setTop (mkF m 13 #[.val (.ref a), .val (.int q), .val (.int (0 : Int32))] [(.int (0 : Int32)), (.int q), (.ref b)])) _
    refine XS.aloadN X_5.here hx rfl (hb hby d10_13) rfl rfl ?_
    exact ktg)
  obtain ⟨cq_7, kq_7, q_7a, q_7b, q_7c⟩ := isOf hZ e_5 E1
  obtain ⟨_, _, ⟨T_7, L_7, k_7, n_7⟩, -, X_7, ⟨Lc_7, hQ_7, l_7, y_7, z_7⟩, st_7⟩ := X_5.virtualBack hx (y := (⟨"java/lang/String", "length", "()I"⟩ : MethodName)) (z := (⟨"java/lang/String", "length", "()I"⟩ : MethodName)) hown (mvT hZ (hw _ (List.mem_of_getElem? (i := 54) rfl))) (mvT hZ (hw _ (List.mem_of_getElem? (i := 55) rfl))) (notFace_of_selects (args := #[]) (mvT hZ (hw _ (List.mem_of_getElem? (i := 57) rfl)))) (mvT hZ (hw _ (List.mem_of_getElem? (i := 57) rfl))) (mvT hZ (hw _ (List.mem_of_getElem? (i := 56) rfl))) (by decide) (backOf (W := 3) (rmlen l Z a0 hw [] a b kb (2 : Int32) [(.int v0), (.int v1)] h0 n0 Z0 E1 F1 F2 A1 cs hcs S1) hZ (hw _ (List.mem_of_getElem? (i := 58) rfl)) (hw _ (List.mem_of_getElem? (i := 6) rfl)) (by decide) (by decide)) q_7a q_7c (g := (mkF m 14 #[.val (.ref a), .val (.int q), .val (.int (0 : Int32))] [(.ref a), (.int (0 : Int32)), (.int q), (.ref b)])) rfl (by rw [hml]; rfl) (Steps.refl _) (argsL := []) (rest := [(.int (0 : Int32)), (.int q), (.ref b)]) (lenOf pd_4 rfl) rfl (by show 2 * 0 + _ ≤ _; exact Nat.le_of_eq rfl) (hb hby d10_14) (fun _ _ => ⟨rfl, e_5, (by decide : 0 + 0 ≤ _), (by decide : 0 + 0 ≤ _)⟩)
  dsimp only [Pt.U, Pt.locs, Pt.cells, Pt.slots] at X_7 l_7 y_7 z_7 st_7 hQ_7
  subst l_7 y_7 z_7
  obtain ⟨rfl, Nq_7, eh_7⟩ := hQ_7
  have N_8 := Fr.app N_3 Nq_7
  have pre_7 : Rch p.tables e below (s₁.setTop (entryFrame m #[(.ref a), (.int q), (.int (0 : Int32))] 3)) (T_7.setTop (mkF m 17 #[.val (.ref a), .val (.int q), .val (.int (0 : Int32))] [(.int (2 : Int32)), (.int (0 : Int32)), (.int q), (.ref b)])) := fun tgt ktg => pre_6 tgt (st_7.trans ktg)
  obtain ⟨_, _, ⟨T_9, L_9, k_9, n_9⟩, -, X_9, ⟨Lc_9, hQ_9, l_9, y_9, z_9⟩, st_9⟩ := Jvm.LawKit.callS X_7 hx (y := (⟨"java/lang/StringLatin1", "indexOf", "([BIII)I"⟩ : MethodName)) hown (mvT hZ (hw _ (List.mem_of_getElem? (i := 64) rfl))) (mvT hZ (hw _ (List.mem_of_getElem? (i := 65) rfl))) (mvT hZ (hw _ (List.mem_of_getElem? (i := 66) rfl))) (mvT hZ (hw _ (List.mem_of_getElem? (i := 67) rfl))) (by decide) (backOf (W := 0) (rmli2 l Z a0 hw [] b q v0 v1 kb h0 n0 Z0 A1 hq0 hq) hZ (hw _ (List.mem_of_getElem? (i := 67) rfl)) (hw _ (List.mem_of_getElem? (i := 66) rfl)) (by decide) (by decide)) (g := (mkF m 17 #[.val (.ref a), .val (.int q), .val (.int (0 : Int32))] [(.int (2 : Int32)), (.int (0 : Int32)), (.int q), (.ref b)])) rfl (by rw [hml]; rfl) (argsL := [(.ref b), (.int q), (.int (0 : Int32)), (.int (2 : Int32))]) (rest := []) (lenOf pd_5 rfl) rfl (by show 2 * 0 + _ ≤ _; exact Nat.le_of_eq rfl) (hb hby d10_17) (fun _ _ => ⟨rfl, eh_7, (by decide : 0 + 0 ≤ _), (by decide : 0 + 0 ≤ _)⟩)
  dsimp only [Pt.U, Pt.locs, Pt.cells, Pt.slots] at X_9 l_9 y_9 z_9 st_9 hQ_9
  subst l_9 y_9 z_9
  obtain ⟨rfl, Nq_9, eh_9⟩ := hQ_9
  have N_10 := Fr.app N_8 Nq_9
  have pre_9 : Rch p.tables e below (s₁.setTop (entryFrame m #[(.ref a), (.int q), (.int (0 : Int32))] 3)) (T_9.setTop (mkF m 20 #[.val (.ref a), .val (.int q), .val (.int (0 : Int32))] [(.int (ixo [v0, v1] (q.toInt8.toInt32) 0))])) := fun tgt ktg => pre_7 tgt (st_9 tgt ktg)
  have pre_11 : Rch p.tables e below (s₁.setTop (entryFrame m #[(.ref a), (.int q), (.int (0 : Int32))] 3)) (T_9.setTop (mkF m 36 #[.val (.ref a), .val (.int q), .val (.int (0 : Int32))] [(.int (ixo [v0, v1] (q.toInt8.toInt32) 0))])) := fun tgt ktg => pre_9 tgt (by
    show Steps p.tables e below (T_9.setTop (mkF m 20 #[.val (.ref a), .val (.int q), .val (.int (0 : Int32))] [(.int (ixo [v0, v1] (q.toInt8.toInt32) 0))])) _
    refine XS.goto X_9.here hx rfl (pc0 := 20) (pc' := 36) rfl (hb hby d10_20) (by decide) (by decide) ?_
    exact ktg)
  obtain ⟨fs, hr, hrun, hended, hW, hsame⟩ := X_9.leave (v := some (.int (ixo [v0, v1] (q.toInt8.toInt32) 0))) (fun h => by rw [Bd.returns] at h; cases h)
  refine ⟨_, _, pre_11 _ ?_, hrun, hended, _, _, rfl, ?_, ⟨_, rfl⟩, hW, hsame.mono (by decide) (by decide)⟩
  · show Steps p.tables e below (T_9.setTop (mkF m 36 #[.val (.ref a), .val (.int q), .val (.int (0 : Int32))] [(.int (ixo [v0, v1] (q.toInt8.toInt32) 0))])) _
    exact retI X_9 hx Bd.returns (hb hby d10_36) hr
  · show Qi22 Z a q v0 v1 b kb h0 n0 _ T_9.heap _
    rw [eh_9]
    exact ⟨rfl, N_10, rfl⟩
theorem ef_i12 (m : MethodId) (x0 : Addr) (x1 : Int32) : entryFrame m #[(.ref x0), (.int x1)] 2 = mkF m 0 #[.val (.ref x0), .val (.int x1)] [] := by first | (simp [entryFrame, mkF, argsToLocals, Value.category]; done) | rfl
def Qi12 (Z : State) (a : Addr) (q : Int32) (v0 : Int32) (v1 : Int32) (b : Addr) (kb : ClassId) (h0 : Heap) (n0 : Nat) (v : Option Value) (h : Heap) (L : List Loc) : Prop := v = some (.int (ixo [v0, v1] (q.toInt8.toInt32) 0)) ∧ Fr n0 L ∧ h = h0
set_option maxRecDepth 65536 in
set_option maxHeartbeats 40000000 in
theorem rmi12 (l : Launch) (Z : State) (a0 : Array Value) (hw : ∀ d ∈ tables_1, d.before a0 Z = true) (ws : List Jvm.Cond) (a : Addr) (q : Int32) (v0 : Int32) (v1 : Int32) (b : Addr) (kb : ClassId) (h0 : Heap) (n0 : Nat) (Z0 : n0 ≤ h0.size) (E1 : Exa Z h0 a "java/lang/String") (F1 : Fld Z h0 a "java/lang/String" "coder" "B" (.int (0 : Int32))) (F2 : Fld Z h0 a "java/lang/String" "value" "[B" (.ref b)) (A1 : Arv Z h0 b kb .byte (2 : Int32) [(.int v0), (.int v1)] (.int (0 : Int32))) (cs : Int32) (hcs : ¬ cs = 0) (S1 : Sta Z h0 "java/lang/String" "COMPACT_STRINGS" "Z" (.int cs)) (hq0 : ¬ q < 0) (hq : ¬ (255 : Int32) < q) :
    MetFree l (⟨"java/lang/String", "indexOf", "(I)I"⟩ : MethodName) (head1 (Jvm.Cond.code (⟨"java/lang/String", "indexOf", "(I)I"⟩ : MethodName) jdk_42_method_79_code 2 (some .int) :: ws) ({ frames := 3, cells := 0, slots := 0, locals := 50 } : Room)) (fun aA U => aA = #[(.ref a), (.int q)] ∧ Z.Warmed39 U.vm ∧ U.heap = h0) (fun _ _ _ _ _ => True) (fun _ U oO U' => ∃ vV LL, oO = .returned vV ∧ Qi12 Z a q v0 v1 b kb h0 n0 vV U'.heap LL ∧ FrameEnd U oO U' LL ({ frames := 3, cells := 0, slots := 0, locals := 50 } : Room).cells ({ frames := 3, cells := 0, slots := 0, locals := 50 } : Room).slots) := by
  refine MetFree.of_bodySF (plainFor_of_name pn_0) hisR ?_
  intro p e s m args below meth c s₁ Bd hml0 hP hK
  obtain ⟨rfl, hZ, hh⟩ := hP
  have hx := Bd.exec
  have hby := Bd.bytes
  have hml : c.maxLocals = 2 := hml0
  have hown : s.vm.findClass "java/lang/String" = some m.cls := findClass_of_methodNamed Bd.named
  have hnm := (name_of_methodNamed Bd.named Bd.method).1
  have X0 : Stand p l e ({ frames := 3, cells := 0, slots := 0, locals := 50 } : Room) s m #[(.ref a), (.int q)] below meth c s₁ [] 0 0 := Stand.of_body Bd
  have e0 : s₁.heap = h0 := by rw [← hh, Bd.state]; rfl
  have N0 := Fr.nil n0
  have K0 : Keep h0 h0 [] := Keep.refl _ _
  have pre0 : Rch p.tables e below (s₁.setTop (entryFrame m #[(.ref a), (.int q)] 2)) (s₁.setTop (mkF m 0 #[.val (.ref a), .val (.int q)] [])) := fun tgt ktg => castTop (ef_i12 m a q) ktg
  have pre_1 : Rch p.tables e below (s₁.setTop (entryFrame m #[(.ref a), (.int q)] 2)) (s₁.setTop (mkF m 3 #[.val (.ref a), .val (.int q)] [(.int (0 : Int32)), (.int q), (.ref a)])) := fun tgt ktg => pre0 tgt (by
    show Steps p.tables e below (s₁.setTop (mkF m 0 #[.val (.ref a), .val (.int q)] [])) _
    refine XS.aloadN X0.here hx rfl (hb hby d9_0) rfl rfl ?_
    show Steps p.tables e below (s₁.setTop (mkF m 1 #[.val (.ref a), .val (.int q)] [(.ref a)])) _
    refine XS.iloadN X0.here hx rfl (hb hby d9_1) rfl ?_
    show Steps p.tables e below (s₁.setTop (mkF m 2 #[.val (.ref a), .val (.int q)] [(.int q), (.ref a)])) _
    refine XS.iconst X0.here hx rfl (hb hby d9_2) ?_
    exact ktg)
  obtain ⟨cq_2, kq_2, q_2a, q_2b, q_2c⟩ := isOf hZ e0 E1
  obtain ⟨_, _, ⟨T_2, L_2, k_2, n_2⟩, -, X_2, ⟨Lc_2, hQ_2, l_2, y_2, z_2⟩, st_2⟩ := X0.virtualBack hx (y := (⟨"java/lang/String", "indexOf", "(II)I"⟩ : MethodName)) (z := (⟨"java/lang/String", "indexOf", "(II)I"⟩ : MethodName)) hown (mvT hZ (hw _ (List.mem_of_getElem? (i := 44) rfl))) (mvT hZ (hw _ (List.mem_of_getElem? (i := 45) rfl))) (notFace_of_selects (args := #[]) (mvT hZ (hw _ (List.mem_of_getElem? (i := 47) rfl)))) (mvT hZ (hw _ (List.mem_of_getElem? (i := 47) rfl))) (mvT hZ (hw _ (List.mem_of_getElem? (i := 46) rfl))) (by decide) (backOf (W := 0) (rmi22 l Z a0 hw [] a q v0 v1 b kb h0 n0 Z0 E1 F1 F2 A1 cs hcs S1 hq0 hq) hZ (hw _ (List.mem_of_getElem? (i := 48) rfl)) (hw _ (List.mem_of_getElem? (i := 6) rfl)) (by decide) (by decide)) q_2a q_2c (g := (mkF m 3 #[.val (.ref a), .val (.int q)] [(.int (0 : Int32)), (.int q), (.ref a)])) rfl (by rw [hml]; rfl) (Steps.refl _) (argsL := [(.int q), (.int (0 : Int32))]) (rest := []) (lenOf pd_2 rfl) rfl (by show 2 * 0 + _ ≤ _; exact Nat.le_of_eq rfl) (hb hby d9_3) (fun _ _ => ⟨rfl, e0, (by decide : 0 + 0 ≤ _), (by decide : 0 + 0 ≤ _)⟩)
  dsimp only [Pt.U, Pt.locs, Pt.cells, Pt.slots] at X_2 l_2 y_2 z_2 st_2 hQ_2
  subst l_2 y_2 z_2
  obtain ⟨rfl, Nq_2, eh_2⟩ := hQ_2
  have N_3 := Fr.app N0 Nq_2
  have pre_2 : Rch p.tables e below (s₁.setTop (entryFrame m #[(.ref a), (.int q)] 2)) (T_2.setTop (mkF m 6 #[.val (.ref a), .val (.int q)] [(.int (ixo [v0, v1] (q.toInt8.toInt32) 0))])) := fun tgt ktg => pre_1 tgt (st_2.trans ktg)
  obtain ⟨fs, hr, hrun, hended, hW, hsame⟩ := X_2.leave (v := some (.int (ixo [v0, v1] (q.toInt8.toInt32) 0))) (fun h => by rw [Bd.returns] at h; cases h)
  refine ⟨_, _, pre_2 _ ?_, hrun, hended, _, _, rfl, ?_, ⟨_, rfl⟩, hW, hsame.mono (by decide) (by decide)⟩
  · show Steps p.tables e below (T_2.setTop (mkF m 6 #[.val (.ref a), .val (.int q)] [(.int (ixo [v0, v1] (q.toInt8.toInt32) 0))])) _
    exact retI X_2 hx Bd.returns (hb hby d9_6) hr
  · show Qi12 Z a q v0 v1 b kb h0 n0 _ T_2.heap _
    rw [eh_2]
    exact ⟨rfl, N_3, rfl⟩
theorem ef_oc3 (m : MethodId) (x0 : Addr) (x1 : Int32) (x2 : Int32) (x3 : Int32) : entryFrame m #[(.ref x0), (.int x1), (.int x2), (.int x3)] 6 = mkF m 0 #[.val (.ref x0), .val (.int x1), .val (.int x2), .val (.int x3), .unset, .unset] [] := by first | (simp [entryFrame, mkF, argsToLocals, Value.category]; done) | rfl
def Qoc3 (Z : State) (b : Addr) (q : Int32) (v0 : Int32) (v1 : Int32) (v2 : Int32) (kb : ClassId) (h0 : Heap) (n0 : Nat) (v : Option Value) (h : Heap) (L : List Loc) : Prop := v = some (.int (ixo [v0, v1, v2] (q.toInt8.toInt32) 0)) ∧ Fr n0 L ∧ h = h0
set_option maxRecDepth 65536 in
set_option maxHeartbeats 40000000 in
theorem rmoc3 (l : Launch) (Z : State) (a0 : Array Value) (hw : ∀ d ∈ tables_1, d.before a0 Z = true) (ws : List Jvm.Cond) (b : Addr) (q : Int32) (v0 : Int32) (v1 : Int32) (v2 : Int32) (kb : ClassId) (h0 : Heap) (n0 : Nat) (Z0 : n0 ≤ h0.size) (A1 : Arv Z h0 b kb .byte (3 : Int32) [(.int v0), (.int v1), (.int v2)] (.int (0 : Int32))) :
    MetFree l (⟨"java/lang/StringLatin1", "indexOfChar", "([BIII)I"⟩ : MethodName) (head1 (Jvm.Cond.code (⟨"java/lang/StringLatin1", "indexOfChar", "([BIII)I"⟩ : MethodName) jdk_43_method_23_code 6 (some .int) :: ws) ({ frames := 0, cells := 0, slots := 0, locals := 0 } : Room)) (fun aA U => aA = #[(.ref b), (.int q), (.int (0 : Int32)), (.int (3 : Int32))] ∧ Z.Warmed39 U.vm ∧ U.heap = h0) (fun _ _ _ _ _ => True) (fun _ U oO U' => ∃ vV LL, oO = .returned vV ∧ Qoc3 Z b q v0 v1 v2 kb h0 n0 vV U'.heap LL ∧ FrameEnd U oO U' LL ({ frames := 0, cells := 0, slots := 0, locals := 0 } : Room).cells ({ frames := 0, cells := 0, slots := 0, locals := 0 } : Room).slots) := by
  refine MetFree.of_bodySF (plainFor_of_name pn_1) hisR ?_
  intro p e s m args below meth c s₁ Bd hml0 hP hK
  obtain ⟨rfl, hZ, hh⟩ := hP
  have hx := Bd.exec
  have hby := Bd.bytes
  have hml : c.maxLocals = 6 := hml0
  have hown : s.vm.findClass "java/lang/StringLatin1" = some m.cls := findClass_of_methodNamed Bd.named
  have hnm := (name_of_methodNamed Bd.named Bd.method).1
  have X0 : Stand p l e ({ frames := 0, cells := 0, slots := 0, locals := 0 } : Room) s m #[(.ref b), (.int q), (.int (0 : Int32)), (.int (3 : Int32))] below meth c s₁ [] 0 0 := Stand.of_body Bd
  have e0 : s₁.heap = h0 := by rw [← hh, Bd.state]; rfl
  have N0 := Fr.nil n0
  have K0 : Keep h0 h0 [] := Keep.refl _ _
  have pre0 : Rch p.tables e below (s₁.setTop (entryFrame m #[(.ref b), (.int q), (.int (0 : Int32)), (.int (3 : Int32))] 6)) (s₁.setTop (mkF m 0 #[.val (.ref b), .val (.int q), .val (.int (0 : Int32)), .val (.int (3 : Int32)), .unset, .unset] [])) := fun tgt ktg => castTop (ef_oc3 m b q (0 : Int32) (3 : Int32)) ktg
  have pre_1 : Rch p.tables e below (s₁.setTop (entryFrame m #[(.ref b), (.int q), (.int (0 : Int32)), (.int (3 : Int32))] 6)) (s₁.setTop (mkF m 16 #[.val (.ref b), .val (.int q), .val (.int (0 : Int32)), .val (.int (3 : Int32)), .val (.int (q.toInt8.toInt32)), .val (.int (0 : Int32))] [(.int (0 : Int32)), (.ref b)])) := fun tgt ktg => pre0 tgt (by
    show Steps p.tables e below (s₁.setTop (mkF m 0 #[.val (.ref b), .val (.int q), .val (.int (0 : Int32)), .val (.int (3 : Int32)), .unset, .unset] [])) _
    refine XS.iloadN X0.here hx rfl (hb hby d18_0) rfl ?_
    show Steps p.tables e below (s₁.setTop (mkF m 1 #[.val (.ref b), .val (.int q), .val (.int (0 : Int32)), .val (.int (3 : Int32)), .unset, .unset] [(.int q)])) _
    refine XT.i2b X0.here hx rfl (hb hby d18_1) rfl ?_
    show Steps p.tables e below (s₁.setTop (mkF m 2 #[.val (.ref b), .val (.int q), .val (.int (0 : Int32)), .val (.int (3 : Int32)), .unset, .unset] [(.int (q.toInt8.toInt32))])) _
    refine XS.istore X0.here hx rfl (hb hby d18_2) rfl (l' := #[.val (.ref b), .val (.int q), .val (.int (0 : Int32)), .val (.int (3 : Int32)), .val (.int (q.toInt8.toInt32)), .unset]) rfl ?_
    show Steps p.tables e below (s₁.setTop (mkF m 4 #[.val (.ref b), .val (.int q), .val (.int (0 : Int32)), .val (.int (3 : Int32)), .val (.int (q.toInt8.toInt32)), .unset] [])) _
    refine XS.iloadN X0.here hx rfl (hb hby d18_4) rfl ?_
    show Steps p.tables e below (s₁.setTop (mkF m 5 #[.val (.ref b), .val (.int q), .val (.int (0 : Int32)), .val (.int (3 : Int32)), .val (.int (q.toInt8.toInt32)), .unset] [(.int (0 : Int32))])) _
    refine XS.istore X0.here hx rfl (hb hby d18_5) rfl (l' := #[.val (.ref b), .val (.int q), .val (.int (0 : Int32)), .val (.int (3 : Int32)), .val (.int (q.toInt8.toInt32)), .val (.int (0 : Int32))]) rfl ?_
    show Steps p.tables e below (s₁.setTop (mkF m 7 #[.val (.ref b), .val (.int q), .val (.int (0 : Int32)), .val (.int (3 : Int32)), .val (.int (q.toInt8.toInt32)), .val (.int (0 : Int32))] [])) _
    refine XS.iload X0.here hx rfl (hb hby d18_7) rfl ?_
    show Steps p.tables e below (s₁.setTop (mkF m 9 #[.val (.ref b), .val (.int q), .val (.int (0 : Int32)), .val (.int (3 : Int32)), .val (.int (q.toInt8.toInt32)), .val (.int (0 : Int32))] [(.int (0 : Int32))])) _
    refine XS.iloadN X0.here hx rfl (hb hby d18_9) rfl ?_
    show Steps p.tables e below (s₁.setTop (mkF m 10 #[.val (.ref b), .val (.int q), .val (.int (0 : Int32)), .val (.int (3 : Int32)), .val (.int (q.toInt8.toInt32)), .val (.int (0 : Int32))] [(.int (3 : Int32)), (.int (0 : Int32))])) _
    refine XS.icmpNo X0.here hx rfl (hb hby d18_10) rfl (tlt (by decide : (0 : Int32) < (3 : Int32))).2.1 ?_
    show Steps p.tables e below (s₁.setTop (mkF m 13 #[.val (.ref b), .val (.int q), .val (.int (0 : Int32)), .val (.int (3 : Int32)), .val (.int (q.toInt8.toInt32)), .val (.int (0 : Int32))] [])) _
    refine XS.aloadN X0.here hx rfl (hb hby d18_13) rfl rfl ?_
    show Steps p.tables e below (s₁.setTop (mkF m 14 #[.val (.ref b), .val (.int q), .val (.int (0 : Int32)), .val (.int (3 : Int32)), .val (.int (q.toInt8.toInt32)), .val (.int (0 : Int32))] [(.ref b)])) _
    refine XS.iload X0.here hx rfl (hb hby d18_14) rfl ?_
    exact ktg)
  obtain ⟨cl__2, Ar__2, q__2, S__2, N__2, H__2, G__2⟩ := id A1
  have hin__2 : ¬ ((0 : Int32) < 0 ∨ cl__2.slots.size ≤ ((0 : Int32)).toNatClampNeg) := inb_of S__2 ⟨by decide, by decide⟩
  have hat__2 : cl__2.slots[((0 : Int32)).toNatClampNeg]? = some (.int v0) := H__2.at hin__2 rfl
  have pre_3 : Rch p.tables e below (s₁.setTop (entryFrame m #[(.ref b), (.int q), (.int (0 : Int32)), (.int (3 : Int32))] 6)) (s₁.setTop (mkF m 17 #[.val (.ref b), .val (.int q), .val (.int (0 : Int32)), .val (.int (3 : Int32)), .val (.int (q.toInt8.toInt32)), .val (.int (0 : Int32))] [(.int v0)])) := fun tgt ktg => pre_1 tgt (X0.baloadBytes hx (j := (0 : Int32)) (v := (.int v0)) (by rw [e0]; exact Ar__2.1) (State.isArrayOf_alike hZ.alike Ar__2.2.1) Ar__2.2.2 hin__2 hat__2 (g := (mkF m 16 #[.val (.ref b), .val (.int q), .val (.int (0 : Int32)), .val (.int (3 : Int32)), .val (.int (q.toInt8.toInt32)), .val (.int (0 : Int32))] [(.int (0 : Int32)), (.ref b)])) rfl rfl (hb hby d18_16) _ ktg)
  have pre_4 : Rch p.tables e below (s₁.setTop (entryFrame m #[(.ref b), (.int q), (.int (0 : Int32)), (.int (3 : Int32))] 6)) (s₁.setTop (mkF m 19 #[.val (.ref b), .val (.int q), .val (.int (0 : Int32)), .val (.int (3 : Int32)), .val (.int (q.toInt8.toInt32)), .val (.int (0 : Int32))] [(.int (q.toInt8.toInt32)), (.int v0)])) := fun tgt ktg => pre_3 tgt (by
    show Steps p.tables e below (s₁.setTop (mkF m 17 #[.val (.ref b), .val (.int q), .val (.int (0 : Int32)), .val (.int (3 : Int32)), .val (.int (q.toInt8.toInt32)), .val (.int (0 : Int32))] [(.int v0)])) _
    refine XS.iload X0.here hx rfl (hb hby d18_17) rfl ?_
    exact ktg)
  by_cases c_5 : v0 = (q.toInt8.toInt32)
  · skip
    have pre_6 : Rch p.tables e below (s₁.setTop (entryFrame m #[(.ref b), (.int q), (.int (0 : Int32)), (.int (3 : Int32))] 6)) (s₁.setTop (mkF m 22 #[.val (.ref b), .val (.int q), .val (.int (0 : Int32)), .val (.int (3 : Int32)), .val (.int (q.toInt8.toInt32)), .val (.int (0 : Int32))] [])) := fun tgt ktg => pre_4 tgt (by
      show Steps p.tables e below (s₁.setTop (mkF m 19 #[.val (.ref b), .val (.int q), .val (.int (0 : Int32)), .val (.int (3 : Int32)), .val (.int (q.toInt8.toInt32)), .val (.int (0 : Int32))] [(.int (q.toInt8.toInt32)), (.int v0)])) _
      refine XS.icmpNo X0.here hx rfl (hb hby d18_19) rfl (teq c_5).2 ?_
      exact ktg)
    have pre_7 : Rch p.tables e below (s₁.setTop (entryFrame m #[(.ref b), (.int q), (.int (0 : Int32)), (.int (3 : Int32))] 6)) (s₁.setTop (mkF m 24 #[.val (.ref b), .val (.int q), .val (.int (0 : Int32)), .val (.int (3 : Int32)), .val (.int (q.toInt8.toInt32)), .val (.int (0 : Int32))] [(.int (0 : Int32))])) := fun tgt ktg => pre_6 tgt (by
      show Steps p.tables e below (s₁.setTop (mkF m 22 #[.val (.ref b), .val (.int q), .val (.int (0 : Int32)), .val (.int (3 : Int32)), .val (.int (q.toInt8.toInt32)), .val (.int (0 : Int32))] [])) _
      refine XS.iload X0.here hx rfl (hb hby d18_22) rfl ?_
      exact ktg)
    obtain ⟨fs, hr, hrun, hended, hW, hsame⟩ := X0.leave (v := some (.int (0 : Int32))) (fun h => by rw [Bd.returns] at h; cases h)
    refine ⟨_, _, pre_7 _ ?_, hrun, hended, _, _, rfl, ?_, ⟨_, rfl⟩, hW, hsame.mono (by decide) (by decide)⟩
    · show Steps p.tables e below (s₁.setTop (mkF m 24 #[.val (.ref b), .val (.int q), .val (.int (0 : Int32)), .val (.int (3 : Int32)), .val (.int (q.toInt8.toInt32)), .val (.int (0 : Int32))] [(.int (0 : Int32))])) _
      exact retI X0 hx Bd.returns (hb hby d18_24) hr
    · show Qoc3 Z b q v0 v1 v2 kb h0 n0 _ s₁.heap _
      rw [e0]
      exact ⟨by simp [ixo, c_5], N0, rfl⟩
  · skip
    have pre_8 : Rch p.tables e below (s₁.setTop (entryFrame m #[(.ref b), (.int q), (.int (0 : Int32)), (.int (3 : Int32))] 6)) (s₁.setTop (mkF m 25 #[.val (.ref b), .val (.int q), .val (.int (0 : Int32)), .val (.int (3 : Int32)), .val (.int (q.toInt8.toInt32)), .val (.int (0 : Int32))] [])) := fun tgt ktg => pre_4 tgt (by
      show Steps p.tables e below (s₁.setTop (mkF m 19 #[.val (.ref b), .val (.int q), .val (.int (0 : Int32)), .val (.int (3 : Int32)), .val (.int (q.toInt8.toInt32)), .val (.int (0 : Int32))] [(.int (q.toInt8.toInt32)), (.int v0)])) _
      refine XS.icmpYes X0.here hx rfl (pc0 := 19) (pc' := 25) rfl (hb hby d18_19) rfl (feq c_5).2 (by decide) (by decide) ?_
      exact ktg)
    have pre_9 : Rch p.tables e below (s₁.setTop (entryFrame m #[(.ref b), (.int q), (.int (0 : Int32)), (.int (3 : Int32))] 6)) (s₁.setTop (mkF m 7 #[.val (.ref b), .val (.int q), .val (.int (0 : Int32)), .val (.int (3 : Int32)), .val (.int (q.toInt8.toInt32)), .val (.int (1 : Int32))] [])) := fun tgt ktg => pre_8 tgt (by
      show Steps p.tables e below (s₁.setTop (mkF m 25 #[.val (.ref b), .val (.int q), .val (.int (0 : Int32)), .val (.int (3 : Int32)), .val (.int (q.toInt8.toInt32)), .val (.int (0 : Int32))] [])) _
      refine XS.iinc X0.here hx rfl (hb hby d18_25) rfl (l' := #[.val (.ref b), .val (.int q), .val (.int (0 : Int32)), .val (.int (3 : Int32)), .val (.int (q.toInt8.toInt32)), .val (.int (1 : Int32))]) rfl ?_
      show Steps p.tables e below (s₁.setTop (mkF m 28 #[.val (.ref b), .val (.int q), .val (.int (0 : Int32)), .val (.int (3 : Int32)), .val (.int (q.toInt8.toInt32)), .val (.int (1 : Int32))] [])) _
      refine XS.goto X0.here hx rfl (pc0 := 28) (pc' := 7) rfl (hb hby d18_28) (by decide) (by decide) ?_
      exact ktg)
    have pre_10 : Rch p.tables e below (s₁.setTop (entryFrame m #[(.ref b), (.int q), (.int (0 : Int32)), (.int (3 : Int32))] 6)) (s₁.setTop (mkF m 16 #[.val (.ref b), .val (.int q), .val (.int (0 : Int32)), .val (.int (3 : Int32)), .val (.int (q.toInt8.toInt32)), .val (.int (1 : Int32))] [(.int (1 : Int32)), (.ref b)])) := fun tgt ktg => pre_9 tgt (by
      show Steps p.tables e below (s₁.setTop (mkF m 7 #[.val (.ref b), .val (.int q), .val (.int (0 : Int32)), .val (.int (3 : Int32)), .val (.int (q.toInt8.toInt32)), .val (.int (1 : Int32))] [])) _
      refine XS.iload X0.here hx rfl (hb hby d18_7) rfl ?_
      show Steps p.tables e below (s₁.setTop (mkF m 9 #[.val (.ref b), .val (.int q), .val (.int (0 : Int32)), .val (.int (3 : Int32)), .val (.int (q.toInt8.toInt32)), .val (.int (1 : Int32))] [(.int (1 : Int32))])) _
      refine XS.iloadN X0.here hx rfl (hb hby d18_9) rfl ?_
      show Steps p.tables e below (s₁.setTop (mkF m 10 #[.val (.ref b), .val (.int q), .val (.int (0 : Int32)), .val (.int (3 : Int32)), .val (.int (q.toInt8.toInt32)), .val (.int (1 : Int32))] [(.int (3 : Int32)), (.int (1 : Int32))])) _
      refine XS.icmpNo X0.here hx rfl (hb hby d18_10) rfl (tlt (by decide : (1 : Int32) < (3 : Int32))).2.1 ?_
      show Steps p.tables e below (s₁.setTop (mkF m 13 #[.val (.ref b), .val (.int q), .val (.int (0 : Int32)), .val (.int (3 : Int32)), .val (.int (q.toInt8.toInt32)), .val (.int (1 : Int32))] [])) _
      refine XS.aloadN X0.here hx rfl (hb hby d18_13) rfl rfl ?_
      show Steps p.tables e below (s₁.setTop (mkF m 14 #[.val (.ref b), .val (.int q), .val (.int (0 : Int32)), .val (.int (3 : Int32)), .val (.int (q.toInt8.toInt32)), .val (.int (1 : Int32))] [(.ref b)])) _
      refine XS.iload X0.here hx rfl (hb hby d18_14) rfl ?_
      exact ktg)
    obtain ⟨cl__11, Ar__11, q__11, S__11, N__11, H__11, G__11⟩ := id A1
    have hin__11 : ¬ ((1 : Int32) < 0 ∨ cl__11.slots.size ≤ ((1 : Int32)).toNatClampNeg) := inb_of S__11 ⟨by decide, by decide⟩
    have hat__11 : cl__11.slots[((1 : Int32)).toNatClampNeg]? = some (.int v1) := H__11.at hin__11 rfl
    have pre_12 : Rch p.tables e below (s₁.setTop (entryFrame m #[(.ref b), (.int q), (.int (0 : Int32)), (.int (3 : Int32))] 6)) (s₁.setTop (mkF m 17 #[.val (.ref b), .val (.int q), .val (.int (0 : Int32)), .val (.int (3 : Int32)), .val (.int (q.toInt8.toInt32)), .val (.int (1 : Int32))] [(.int v1)])) := fun tgt ktg => pre_10 tgt (X0.baloadBytes hx (j := (1 : Int32)) (v := (.int v1)) (by rw [e0]; exact Ar__11.1) (State.isArrayOf_alike hZ.alike Ar__11.2.1) Ar__11.2.2 hin__11 hat__11 (g := (mkF m 16 #[.val (.ref b), .val (.int q), .val (.int (0 : Int32)), .val (.int (3 : Int32)), .val (.int (q.toInt8.toInt32)), .val (.int (1 : Int32))] [(.int (1 : Int32)), (.ref b)])) rfl rfl (hb hby d18_16) _ ktg)
    have pre_13 : Rch p.tables e below (s₁.setTop (entryFrame m #[(.ref b), (.int q), (.int (0 : Int32)), (.int (3 : Int32))] 6)) (s₁.setTop (mkF m 19 #[.val (.ref b), .val (.int q), .val (.int (0 : Int32)), .val (.int (3 : Int32)), .val (.int (q.toInt8.toInt32)), .val (.int (1 : Int32))] [(.int (q.toInt8.toInt32)), (.int v1)])) := fun tgt ktg => pre_12 tgt (by
      show Steps p.tables e below (s₁.setTop (mkF m 17 #[.val (.ref b), .val (.int q), .val (.int (0 : Int32)), .val (.int (3 : Int32)), .val (.int (q.toInt8.toInt32)), .val (.int (1 : Int32))] [(.int v1)])) _
      refine XS.iload X0.here hx rfl (hb hby d18_17) rfl ?_
      exact ktg)
    by_cases c_14 : v1 = (q.toInt8.toInt32)
    · skip
      have pre_15 : Rch p.tables e below (s₁.setTop (entryFrame m #[(.ref b), (.int q), (.int (0 : Int32)), (.int (3 : Int32))] 6)) (s₁.setTop (mkF m 22 #[.val (.ref b), .val (.int q), .val (.int (0 : Int32)), .val (.int (3 : Int32)), .val (.int (q.toInt8.toInt32)), .val (.int (1 : Int32))] [])) := fun tgt ktg => pre_13 tgt (by
        show Steps p.tables e below (s₁.setTop (mkF m 19 #[.val (.ref b), .val (.int q), .val (.int (0 : Int32)), .val (.int (3 : Int32)), .val (.int (q.toInt8.toInt32)), .val (.int (1 : Int32))] [(.int (q.toInt8.toInt32)), (.int v1)])) _
        refine XS.icmpNo X0.here hx rfl (hb hby d18_19) rfl (teq c_14).2 ?_
        exact ktg)
      have pre_16 : Rch p.tables e below (s₁.setTop (entryFrame m #[(.ref b), (.int q), (.int (0 : Int32)), (.int (3 : Int32))] 6)) (s₁.setTop (mkF m 24 #[.val (.ref b), .val (.int q), .val (.int (0 : Int32)), .val (.int (3 : Int32)), .val (.int (q.toInt8.toInt32)), .val (.int (1 : Int32))] [(.int (1 : Int32))])) := fun tgt ktg => pre_15 tgt (by
        show Steps p.tables e below (s₁.setTop (mkF m 22 #[.val (.ref b), .val (.int q), .val (.int (0 : Int32)), .val (.int (3 : Int32)), .val (.int (q.toInt8.toInt32)), .val (.int (1 : Int32))] [])) _
        refine XS.iload X0.here hx rfl (hb hby d18_22) rfl ?_
        exact ktg)
      obtain ⟨fs, hr, hrun, hended, hW, hsame⟩ := X0.leave (v := some (.int (1 : Int32))) (fun h => by rw [Bd.returns] at h; cases h)
      refine ⟨_, _, pre_16 _ ?_, hrun, hended, _, _, rfl, ?_, ⟨_, rfl⟩, hW, hsame.mono (by decide) (by decide)⟩
      · show Steps p.tables e below (s₁.setTop (mkF m 24 #[.val (.ref b), .val (.int q), .val (.int (0 : Int32)), .val (.int (3 : Int32)), .val (.int (q.toInt8.toInt32)), .val (.int (1 : Int32))] [(.int (1 : Int32))])) _
        exact retI X0 hx Bd.returns (hb hby d18_24) hr
      · show Qoc3 Z b q v0 v1 v2 kb h0 n0 _ s₁.heap _
        rw [e0]
        exact ⟨by simp [ixo, c_5, c_14], N0, rfl⟩
    · skip
      have pre_17 : Rch p.tables e below (s₁.setTop (entryFrame m #[(.ref b), (.int q), (.int (0 : Int32)), (.int (3 : Int32))] 6)) (s₁.setTop (mkF m 25 #[.val (.ref b), .val (.int q), .val (.int (0 : Int32)), .val (.int (3 : Int32)), .val (.int (q.toInt8.toInt32)), .val (.int (1 : Int32))] [])) := fun tgt ktg => pre_13 tgt (by
        show Steps p.tables e below (s₁.setTop (mkF m 19 #[.val (.ref b), .val (.int q), .val (.int (0 : Int32)), .val (.int (3 : Int32)), .val (.int (q.toInt8.toInt32)), .val (.int (1 : Int32))] [(.int (q.toInt8.toInt32)), (.int v1)])) _
        refine XS.icmpYes X0.here hx rfl (pc0 := 19) (pc' := 25) rfl (hb hby d18_19) rfl (feq c_14).2 (by decide) (by decide) ?_
        exact ktg)
      have pre_18 : Rch p.tables e below (s₁.setTop (entryFrame m #[(.ref b), (.int q), (.int (0 : Int32)), (.int (3 : Int32))] 6)) (s₁.setTop (mkF m 7 #[.val (.ref b), .val (.int q), .val (.int (0 : Int32)), .val (.int (3 : Int32)), .val (.int (q.toInt8.toInt32)), .val (.int (2 : Int32))] [])) := fun tgt ktg => pre_17 tgt (by
        show Steps p.tables e below (s₁.setTop (mkF m 25 #[.val (.ref b), .val (.int q), .val (.int (0 : Int32)), .val (.int (3 : Int32)), .val (.int (q.toInt8.toInt32)), .val (.int (1 : Int32))] [])) _
        refine XS.iinc X0.here hx rfl (hb hby d18_25) rfl (l' := #[.val (.ref b), .val (.int q), .val (.int (0 : Int32)), .val (.int (3 : Int32)), .val (.int (q.toInt8.toInt32)), .val (.int (2 : Int32))]) rfl ?_
        show Steps p.tables e below (s₁.setTop (mkF m 28 #[.val (.ref b), .val (.int q), .val (.int (0 : Int32)), .val (.int (3 : Int32)), .val (.int (q.toInt8.toInt32)), .val (.int (2 : Int32))] [])) _
        refine XS.goto X0.here hx rfl (pc0 := 28) (pc' := 7) rfl (hb hby d18_28) (by decide) (by decide) ?_
        exact ktg)
      have pre_19 : Rch p.tables e below (s₁.setTop (entryFrame m #[(.ref b), (.int q), (.int (0 : Int32)), (.int (3 : Int32))] 6)) (s₁.setTop (mkF m 16 #[.val (.ref b), .val (.int q), .val (.int (0 : Int32)), .val (.int (3 : Int32)), .val (.int (q.toInt8.toInt32)), .val (.int (2 : Int32))] [(.int (2 : Int32)), (.ref b)])) := fun tgt ktg => pre_18 tgt (by
        show Steps p.tables e below (s₁.setTop (mkF m 7 #[.val (.ref b), .val (.int q), .val (.int (0 : Int32)), .val (.int (3 : Int32)), .val (.int (q.toInt8.toInt32)), .val (.int (2 : Int32))] [])) _
        refine XS.iload X0.here hx rfl (hb hby d18_7) rfl ?_
        show Steps p.tables e below (s₁.setTop (mkF m 9 #[.val (.ref b), .val (.int q), .val (.int (0 : Int32)), .val (.int (3 : Int32)), .val (.int (q.toInt8.toInt32)), .val (.int (2 : Int32))] [(.int (2 : Int32))])) _
        refine XS.iloadN X0.here hx rfl (hb hby d18_9) rfl ?_
        show Steps p.tables e below (s₁.setTop (mkF m 10 #[.val (.ref b), .val (.int q), .val (.int (0 : Int32)), .val (.int (3 : Int32)), .val (.int (q.toInt8.toInt32)), .val (.int (2 : Int32))] [(.int (3 : Int32)), (.int (2 : Int32))])) _
        refine XS.icmpNo X0.here hx rfl (hb hby d18_10) rfl (tlt (by decide : (2 : Int32) < (3 : Int32))).2.1 ?_
        show Steps p.tables e below (s₁.setTop (mkF m 13 #[.val (.ref b), .val (.int q), .val (.int (0 : Int32)), .val (.int (3 : Int32)), .val (.int (q.toInt8.toInt32)), .val (.int (2 : Int32))] [])) _
        refine XS.aloadN X0.here hx rfl (hb hby d18_13) rfl rfl ?_
        show Steps p.tables e below (s₁.setTop (mkF m 14 #[.val (.ref b), .val (.int q), .val (.int (0 : Int32)), .val (.int (3 : Int32)), .val (.int (q.toInt8.toInt32)), .val (.int (2 : Int32))] [(.ref b)])) _
        refine XS.iload X0.here hx rfl (hb hby d18_14) rfl ?_
        exact ktg)
      obtain ⟨cl__20, Ar__20, q__20, S__20, N__20, H__20, G__20⟩ := id A1
      have hin__20 : ¬ ((2 : Int32) < 0 ∨ cl__20.slots.size ≤ ((2 : Int32)).toNatClampNeg) := inb_of S__20 ⟨by decide, by decide⟩
      have hat__20 : cl__20.slots[((2 : Int32)).toNatClampNeg]? = some (.int v2) := H__20.at hin__20 rfl
      have pre_21 : Rch p.tables e below (s₁.setTop (entryFrame m #[(.ref b), (.int q), (.int (0 : Int32)), (.int (3 : Int32))] 6)) (s₁.setTop (mkF m 17 #[.val (.ref b), .val (.int q), .val (.int (0 : Int32)), .val (.int (3 : Int32)), .val (.int (q.toInt8.toInt32)), .val (.int (2 : Int32))] [(.int v2)])) := fun tgt ktg => pre_19 tgt (X0.baloadBytes hx (j := (2 : Int32)) (v := (.int v2)) (by rw [e0]; exact Ar__20.1) (State.isArrayOf_alike hZ.alike Ar__20.2.1) Ar__20.2.2 hin__20 hat__20 (g := (mkF m 16 #[.val (.ref b), .val (.int q), .val (.int (0 : Int32)), .val (.int (3 : Int32)), .val (.int (q.toInt8.toInt32)), .val (.int (2 : Int32))] [(.int (2 : Int32)), (.ref b)])) rfl rfl (hb hby d18_16) _ ktg)
      have pre_22 : Rch p.tables e below (s₁.setTop (entryFrame m #[(.ref b), (.int q), (.int (0 : Int32)), (.int (3 : Int32))] 6)) (s₁.setTop (mkF m 19 #[.val (.ref b), .val (.int q), .val (.int (0 : Int32)), .val (.int (3 : Int32)), .val (.int (q.toInt8.toInt32)), .val (.int (2 : Int32))] [(.int (q.toInt8.toInt32)), (.int v2)])) := fun tgt ktg => pre_21 tgt (by
        show Steps p.tables e below (s₁.setTop (mkF m 17 #[.val (.ref b), .val (.int q), .val (.int (0 : Int32)), .val (.int (3 : Int32)), .val (.int (q.toInt8.toInt32)), .val (.int (2 : Int32))] [(.int v2)])) _
        refine XS.iload X0.here hx rfl (hb hby d18_17) rfl ?_
        exact ktg)
      by_cases c_23 : v2 = (q.toInt8.toInt32)
      · skip
        have pre_24 : Rch p.tables e below (s₁.setTop (entryFrame m #[(.ref b), (.int q), (.int (0 : Int32)), (.int (3 : Int32))] 6)) (s₁.setTop (mkF m 22 #[.val (.ref b), .val (.int q), .val (.int (0 : Int32)), .val (.int (3 : Int32)), .val (.int (q.toInt8.toInt32)), .val (.int (2 : Int32))] [])) := fun tgt ktg => pre_22 tgt (by
          show Steps p.tables e below (s₁.setTop (mkF m 19 #[.val (.ref b), .val (.int q), .val (.int (0 : Int32)), .val (.int (3 : Int32)), .val (.int (q.toInt8.toInt32)), .val (.int (2 : Int32))] [(.int (q.toInt8.toInt32)), (.int v2)])) _
          refine XS.icmpNo X0.here hx rfl (hb hby d18_19) rfl (teq c_23).2 ?_
          exact ktg)
        have pre_25 : Rch p.tables e below (s₁.setTop (entryFrame m #[(.ref b), (.int q), (.int (0 : Int32)), (.int (3 : Int32))] 6)) (s₁.setTop (mkF m 24 #[.val (.ref b), .val (.int q), .val (.int (0 : Int32)), .val (.int (3 : Int32)), .val (.int (q.toInt8.toInt32)), .val (.int (2 : Int32))] [(.int (2 : Int32))])) := fun tgt ktg => pre_24 tgt (by
          show Steps p.tables e below (s₁.setTop (mkF m 22 #[.val (.ref b), .val (.int q), .val (.int (0 : Int32)), .val (.int (3 : Int32)), .val (.int (q.toInt8.toInt32)), .val (.int (2 : Int32))] [])) _
          refine XS.iload X0.here hx rfl (hb hby d18_22) rfl ?_
          exact ktg)
        obtain ⟨fs, hr, hrun, hended, hW, hsame⟩ := X0.leave (v := some (.int (2 : Int32))) (fun h => by rw [Bd.returns] at h; cases h)
        refine ⟨_, _, pre_25 _ ?_, hrun, hended, _, _, rfl, ?_, ⟨_, rfl⟩, hW, hsame.mono (by decide) (by decide)⟩
        · show Steps p.tables e below (s₁.setTop (mkF m 24 #[.val (.ref b), .val (.int q), .val (.int (0 : Int32)), .val (.int (3 : Int32)), .val (.int (q.toInt8.toInt32)), .val (.int (2 : Int32))] [(.int (2 : Int32))])) _
          exact retI X0 hx Bd.returns (hb hby d18_24) hr
        · show Qoc3 Z b q v0 v1 v2 kb h0 n0 _ s₁.heap _
          rw [e0]
          exact ⟨by simp [ixo, c_5, c_14, c_23], N0, rfl⟩
      · skip
        have pre_26 : Rch p.tables e below (s₁.setTop (entryFrame m #[(.ref b), (.int q), (.int (0 : Int32)), (.int (3 : Int32))] 6)) (s₁.setTop (mkF m 25 #[.val (.ref b), .val (.int q), .val (.int (0 : Int32)), .val (.int (3 : Int32)), .val (.int (q.toInt8.toInt32)), .val (.int (2 : Int32))] [])) := fun tgt ktg => pre_22 tgt (by
          show Steps p.tables e below (s₁.setTop (mkF m 19 #[.val (.ref b), .val (.int q), .val (.int (0 : Int32)), .val (.int (3 : Int32)), .val (.int (q.toInt8.toInt32)), .val (.int (2 : Int32))] [(.int (q.toInt8.toInt32)), (.int v2)])) _
          refine XS.icmpYes X0.here hx rfl (pc0 := 19) (pc' := 25) rfl (hb hby d18_19) rfl (feq c_23).2 (by decide) (by decide) ?_
          exact ktg)
        have pre_27 : Rch p.tables e below (s₁.setTop (entryFrame m #[(.ref b), (.int q), (.int (0 : Int32)), (.int (3 : Int32))] 6)) (s₁.setTop (mkF m 7 #[.val (.ref b), .val (.int q), .val (.int (0 : Int32)), .val (.int (3 : Int32)), .val (.int (q.toInt8.toInt32)), .val (.int (3 : Int32))] [])) := fun tgt ktg => pre_26 tgt (by
          show Steps p.tables e below (s₁.setTop (mkF m 25 #[.val (.ref b), .val (.int q), .val (.int (0 : Int32)), .val (.int (3 : Int32)), .val (.int (q.toInt8.toInt32)), .val (.int (2 : Int32))] [])) _
          refine XS.iinc X0.here hx rfl (hb hby d18_25) rfl (l' := #[.val (.ref b), .val (.int q), .val (.int (0 : Int32)), .val (.int (3 : Int32)), .val (.int (q.toInt8.toInt32)), .val (.int (3 : Int32))]) rfl ?_
          show Steps p.tables e below (s₁.setTop (mkF m 28 #[.val (.ref b), .val (.int q), .val (.int (0 : Int32)), .val (.int (3 : Int32)), .val (.int (q.toInt8.toInt32)), .val (.int (3 : Int32))] [])) _
          refine XS.goto X0.here hx rfl (pc0 := 28) (pc' := 7) rfl (hb hby d18_28) (by decide) (by decide) ?_
          exact ktg)
        have pre_28 : Rch p.tables e below (s₁.setTop (entryFrame m #[(.ref b), (.int q), (.int (0 : Int32)), (.int (3 : Int32))] 6)) (s₁.setTop (mkF m 32 #[.val (.ref b), .val (.int q), .val (.int (0 : Int32)), .val (.int (3 : Int32)), .val (.int (q.toInt8.toInt32)), .val (.int (3 : Int32))] [(.int (-1 : Int32))])) := fun tgt ktg => pre_27 tgt (by
          show Steps p.tables e below (s₁.setTop (mkF m 7 #[.val (.ref b), .val (.int q), .val (.int (0 : Int32)), .val (.int (3 : Int32)), .val (.int (q.toInt8.toInt32)), .val (.int (3 : Int32))] [])) _
          refine XS.iload X0.here hx rfl (hb hby d18_7) rfl ?_
          show Steps p.tables e below (s₁.setTop (mkF m 9 #[.val (.ref b), .val (.int q), .val (.int (0 : Int32)), .val (.int (3 : Int32)), .val (.int (q.toInt8.toInt32)), .val (.int (3 : Int32))] [(.int (3 : Int32))])) _
          refine XS.iloadN X0.here hx rfl (hb hby d18_9) rfl ?_
          show Steps p.tables e below (s₁.setTop (mkF m 10 #[.val (.ref b), .val (.int q), .val (.int (0 : Int32)), .val (.int (3 : Int32)), .val (.int (q.toInt8.toInt32)), .val (.int (3 : Int32))] [(.int (3 : Int32)), (.int (3 : Int32))])) _
          refine XS.icmpYes X0.here hx rfl (pc0 := 10) (pc' := 31) rfl (hb hby d18_10) rfl (flt (by decide : ¬ ((3 : Int32) < (3 : Int32)))).2.1 (by decide) (by decide) ?_
          show Steps p.tables e below (s₁.setTop (mkF m 31 #[.val (.ref b), .val (.int q), .val (.int (0 : Int32)), .val (.int (3 : Int32)), .val (.int (q.toInt8.toInt32)), .val (.int (3 : Int32))] [])) _
          refine XS.iconst X0.here hx rfl (hb hby d18_31) ?_
          exact ktg)
        obtain ⟨fs, hr, hrun, hended, hW, hsame⟩ := X0.leave (v := some (.int (-1 : Int32))) (fun h => by rw [Bd.returns] at h; cases h)
        refine ⟨_, _, pre_28 _ ?_, hrun, hended, _, _, rfl, ?_, ⟨_, rfl⟩, hW, hsame.mono (by decide) (by decide)⟩
        · show Steps p.tables e below (s₁.setTop (mkF m 32 #[.val (.ref b), .val (.int q), .val (.int (0 : Int32)), .val (.int (3 : Int32)), .val (.int (q.toInt8.toInt32)), .val (.int (3 : Int32))] [(.int (-1 : Int32))])) _
          exact retI X0 hx Bd.returns (hb hby d18_32) hr
        · show Qoc3 Z b q v0 v1 v2 kb h0 n0 _ s₁.heap _
          rw [e0]
          exact ⟨by simp [ixo, c_5, c_14, c_23], N0, rfl⟩
theorem ef_li3 (m : MethodId) (x0 : Addr) (x1 : Int32) (x2 : Int32) (x3 : Int32) : entryFrame m #[(.ref x0), (.int x1), (.int x2), (.int x3)] 4 = mkF m 0 #[.val (.ref x0), .val (.int x1), .val (.int x2), .val (.int x3)] [] := by first | (simp [entryFrame, mkF, argsToLocals, Value.category]; done) | rfl
def Qli3 (Z : State) (b : Addr) (q : Int32) (v0 : Int32) (v1 : Int32) (v2 : Int32) (kb : ClassId) (h0 : Heap) (n0 : Nat) (v : Option Value) (h : Heap) (L : List Loc) : Prop := v = some (.int (ixo [v0, v1, v2] (q.toInt8.toInt32) 0)) ∧ Fr n0 L ∧ h = h0
set_option maxRecDepth 65536 in
set_option maxHeartbeats 40000000 in
theorem rmli3 (l : Launch) (Z : State) (a0 : Array Value) (hw : ∀ d ∈ tables_1, d.before a0 Z = true) (ws : List Jvm.Cond) (b : Addr) (q : Int32) (v0 : Int32) (v1 : Int32) (v2 : Int32) (kb : ClassId) (h0 : Heap) (n0 : Nat) (Z0 : n0 ≤ h0.size) (A1 : Arv Z h0 b kb .byte (3 : Int32) [(.int v0), (.int v1), (.int v2)] (.int (0 : Int32))) (hq0 : ¬ q < 0) (hq : ¬ (255 : Int32) < q) :
    MetFree l (⟨"java/lang/StringLatin1", "indexOf", "([BIII)I"⟩ : MethodName) (head1 (Jvm.Cond.code (⟨"java/lang/StringLatin1", "indexOf", "([BIII)I"⟩ : MethodName) jdk_43_method_22_code 4 (some .int) :: ws) ({ frames := 1, cells := 0, slots := 0, locals := 20 } : Room)) (fun aA U => aA = #[(.ref b), (.int q), (.int (0 : Int32)), (.int (3 : Int32))] ∧ Z.Warmed39 U.vm ∧ U.heap = h0) (fun _ _ _ _ _ => True) (fun _ U oO U' => ∃ vV LL, oO = .returned vV ∧ Qli3 Z b q v0 v1 v2 kb h0 n0 vV U'.heap LL ∧ FrameEnd U oO U' LL ({ frames := 1, cells := 0, slots := 0, locals := 20 } : Room).cells ({ frames := 1, cells := 0, slots := 0, locals := 20 } : Room).slots) := by
  refine MetFree.of_bodySF (plainFor_of_name pn_1) hisR ?_
  intro p e s m args below meth c s₁ Bd hml0 hP hK
  obtain ⟨rfl, hZ, hh⟩ := hP
  have hx := Bd.exec
  have hby := Bd.bytes
  have hml : c.maxLocals = 4 := hml0
  have hown : s.vm.findClass "java/lang/StringLatin1" = some m.cls := findClass_of_methodNamed Bd.named
  have hnm := (name_of_methodNamed Bd.named Bd.method).1
  have X0 : Stand p l e ({ frames := 1, cells := 0, slots := 0, locals := 20 } : Room) s m #[(.ref b), (.int q), (.int (0 : Int32)), (.int (3 : Int32))] below meth c s₁ [] 0 0 := Stand.of_body Bd
  have e0 : s₁.heap = h0 := by rw [← hh, Bd.state]; rfl
  have N0 := Fr.nil n0
  have K0 : Keep h0 h0 [] := Keep.refl _ _
  have pre0 : Rch p.tables e below (s₁.setTop (entryFrame m #[(.ref b), (.int q), (.int (0 : Int32)), (.int (3 : Int32))] 4)) (s₁.setTop (mkF m 0 #[.val (.ref b), .val (.int q), .val (.int (0 : Int32)), .val (.int (3 : Int32))] [])) := fun tgt ktg => castTop (ef_li3 m b q (0 : Int32) (3 : Int32)) ktg
  have pre_1 : Rch p.tables e below (s₁.setTop (entryFrame m #[(.ref b), (.int q), (.int (0 : Int32)), (.int (3 : Int32))] 4)) (s₁.setTop (mkF m 1 #[.val (.ref b), .val (.int q), .val (.int (0 : Int32)), .val (.int (3 : Int32))] [(.int q)])) := fun tgt ktg => pre0 tgt (by
    show Steps p.tables e below (s₁.setTop (mkF m 0 #[.val (.ref b), .val (.int q), .val (.int (0 : Int32)), .val (.int (3 : Int32))] [])) _
    refine XS.iloadN X0.here hx rfl (hb hby d14_0) rfl ?_
    exact ktg)
  obtain ⟨_, _, ⟨T_2, L_2, k_2, n_2⟩, -, X_2, ⟨Lc_2, hQ_2, l_2, y_2, z_2⟩, st_2⟩ := Jvm.LawKit.callS X0 hx (y := (⟨"java/lang/StringLatin1", "canEncode", "(I)Z"⟩ : MethodName)) hown (mvT hZ (hw _ (List.mem_of_getElem? (i := 68) rfl))) (mvT hZ (hw _ (List.mem_of_getElem? (i := 69) rfl))) (mvT hZ (hw _ (List.mem_of_getElem? (i := 66) rfl))) (mvT hZ (hw _ (List.mem_of_getElem? (i := 70) rfl))) (by decide) (backOf (W := 0) (rmce l Z a0 hw [] q h0 n0 Z0 hq0 hq) hZ (hw _ (List.mem_of_getElem? (i := 70) rfl)) (hw _ (List.mem_of_getElem? (i := 66) rfl)) (by decide) (by decide)) (g := (mkF m 1 #[.val (.ref b), .val (.int q), .val (.int (0 : Int32)), .val (.int (3 : Int32))] [(.int q)])) rfl (by rw [hml]; rfl) (argsL := [(.int q)]) (rest := []) (lenOf pd_1 rfl) rfl (by show 2 * 0 + _ ≤ _; exact Nat.le_of_eq rfl) (hb hby d14_1) (fun _ _ => ⟨rfl, e0, (by decide : 0 + 0 ≤ _), (by decide : 0 + 0 ≤ _)⟩)
  dsimp only [Pt.U, Pt.locs, Pt.cells, Pt.slots] at X_2 l_2 y_2 z_2 st_2 hQ_2
  subst l_2 y_2 z_2
  obtain ⟨rfl, Nq_2, eh_2⟩ := hQ_2
  have N_3 := Fr.app N0 Nq_2
  have pre_2 : Rch p.tables e below (s₁.setTop (entryFrame m #[(.ref b), (.int q), (.int (0 : Int32)), (.int (3 : Int32))] 4)) (T_2.setTop (mkF m 4 #[.val (.ref b), .val (.int q), .val (.int (0 : Int32)), .val (.int (3 : Int32))] [(.int (1 : Int32))])) := fun tgt ktg => pre_1 tgt (st_2 tgt ktg)
  have pre_4 : Rch p.tables e below (s₁.setTop (entryFrame m #[(.ref b), (.int q), (.int (0 : Int32)), (.int (3 : Int32))] 4)) (T_2.setTop (mkF m 11 #[.val (.ref b), .val (.int q), .val (.int (0 : Int32)), .val (.int (3 : Int32))] [(.int (0 : Int32)), (.int (0 : Int32))])) := fun tgt ktg => pre_2 tgt (by
    show Steps p.tables e below (T_2.setTop (mkF m 4 #[.val (.ref b), .val (.int q), .val (.int (0 : Int32)), .val (.int (3 : Int32))] [(.int (1 : Int32))])) _
    refine XS.ifYes X_2.here hx rfl (pc0 := 4) (pc' := 9) rfl (hb hby d14_4) rfl ((if0 _ _).trans (feq (by decide : ¬ ((1 : Int32) = (0 : Int32)))).2) (by decide) (by decide) ?_
    show Steps p.tables e below (T_2.setTop (mkF m 9 #[.val (.ref b), .val (.int q), .val (.int (0 : Int32)), .val (.int (3 : Int32))] [])) _
    refine XS.iloadN X_2.here hx rfl (hb hby d14_9) rfl ?_
    show Steps p.tables e below (T_2.setTop (mkF m 10 #[.val (.ref b), .val (.int q), .val (.int (0 : Int32)), .val (.int (3 : Int32))] [(.int (0 : Int32))])) _
    refine XS.iconst X_2.here hx rfl (hb hby d14_10) ?_
    exact ktg)
  obtain ⟨_, _, ⟨T_5, L_5, k_5, n_5⟩, -, X_5, ⟨Lc_5, hQ_5, l_5, y_5, z_5⟩, st_5⟩ := Jvm.LawKit.callS X_2 hx (y := (⟨"java/lang/Math", "max", "(II)I"⟩ : MethodName)) hown (mvT hZ (hw _ (List.mem_of_getElem? (i := 71) rfl))) (mvT hZ (hw _ (List.mem_of_getElem? (i := 72) rfl))) (mvT hZ (hw _ (List.mem_of_getElem? (i := 73) rfl))) (mvT hZ (hw _ (List.mem_of_getElem? (i := 74) rfl))) (by decide) (backOf (W := 0) (rmmmax l Z a0 hw [] (0 : Int32) (0 : Int32) h0 n0 Z0) hZ (hw _ (List.mem_of_getElem? (i := 74) rfl)) (hw _ (List.mem_of_getElem? (i := 73) rfl)) (by decide) (by decide)) (g := (mkF m 11 #[.val (.ref b), .val (.int q), .val (.int (0 : Int32)), .val (.int (3 : Int32))] [(.int (0 : Int32)), (.int (0 : Int32))])) rfl (by rw [hml]; rfl) (argsL := [(.int (0 : Int32)), (.int (0 : Int32))]) (rest := []) (lenOf pd_2 rfl) rfl (by show 2 * 0 + _ ≤ _; exact Nat.le_of_eq rfl) (hb hby d14_11) (fun _ _ => ⟨rfl, eh_2, (by decide : 0 + 0 ≤ _), (by decide : 0 + 0 ≤ _)⟩)
  dsimp only [Pt.U, Pt.locs, Pt.cells, Pt.slots] at X_5 l_5 y_5 z_5 st_5 hQ_5
  subst l_5 y_5 z_5
  obtain ⟨rfl, Nq_5, eh_5⟩ := hQ_5
  have N_6 := Fr.app N_3 Nq_5
  have pre_5 : Rch p.tables e below (s₁.setTop (entryFrame m #[(.ref b), (.int q), (.int (0 : Int32)), (.int (3 : Int32))] 4)) (T_5.setTop (mkF m 14 #[.val (.ref b), .val (.int q), .val (.int (0 : Int32)), .val (.int (3 : Int32))] [(.int (0 : Int32))])) := fun tgt ktg => pre_4 tgt (st_5 tgt ktg)
  have pre_7 : Rch p.tables e below (s₁.setTop (entryFrame m #[(.ref b), (.int q), (.int (0 : Int32)), (.int (3 : Int32))] 4)) (T_5.setTop (mkF m 17 #[.val (.ref b), .val (.int q), .val (.int (0 : Int32)), .val (.int (3 : Int32))] [(.ref b), (.int (3 : Int32))])) := fun tgt ktg => pre_5 tgt (by
    show Steps p.tables e below (T_5.setTop (mkF m 14 #[.val (.ref b), .val (.int q), .val (.int (0 : Int32)), .val (.int (3 : Int32))] [(.int (0 : Int32))])) _
    refine XS.istoreN X_5.here hx rfl (hb hby d14_14) rfl (l' := #[.val (.ref b), .val (.int q), .val (.int (0 : Int32)), .val (.int (3 : Int32))]) rfl ?_
    show Steps p.tables e below (T_5.setTop (mkF m 15 #[.val (.ref b), .val (.int q), .val (.int (0 : Int32)), .val (.int (3 : Int32))] [])) _
    refine XS.iloadN X_5.here hx rfl (hb hby d14_15) rfl ?_
    show Steps p.tables e below (T_5.setTop (mkF m 16 #[.val (.ref b), .val (.int q), .val (.int (0 : Int32)), .val (.int (3 : Int32))] [(.int (3 : Int32))])) _
    refine XS.aloadN X_5.here hx rfl (hb hby d14_16) rfl rfl ?_
    exact ktg)
  obtain ⟨cl__8, Ar__8, q__8, S__8, N__8, H__8, G__8⟩ := id A1
  have pre_9 : Rch p.tables e below (s₁.setTop (entryFrame m #[(.ref b), (.int q), (.int (0 : Int32)), (.int (3 : Int32))] 4)) (T_5.setTop (mkF m 18 #[.val (.ref b), .val (.int q), .val (.int (0 : Int32)), .val (.int (3 : Int32))] [(.int (3 : Int32)), (.int (3 : Int32))])) := fun tgt ktg => pre_7 tgt (X_5.arraylength hx (by rw [eh_5]; exact Ar__8.1) (State.isArrayOf_alike hZ.alike Ar__8.2.1) (g := (mkF m 17 #[.val (.ref b), .val (.int q), .val (.int (0 : Int32)), .val (.int (3 : Int32))] [(.ref b), (.int (3 : Int32))])) rfl rfl (hb hby d14_17) _ (by rw [len_of S__8 N__8]; exact ktg))
  obtain ⟨_, _, ⟨T_10, L_10, k_10, n_10⟩, -, X_10, ⟨Lc_10, hQ_10, l_10, y_10, z_10⟩, st_10⟩ := Jvm.LawKit.callS X_5 hx (y := (⟨"java/lang/Math", "min", "(II)I"⟩ : MethodName)) hown (mvT hZ (hw _ (List.mem_of_getElem? (i := 75) rfl))) (mvT hZ (hw _ (List.mem_of_getElem? (i := 76) rfl))) (mvT hZ (hw _ (List.mem_of_getElem? (i := 73) rfl))) (mvT hZ (hw _ (List.mem_of_getElem? (i := 77) rfl))) (by decide) (backOf (W := 0) (rmmmin l Z a0 hw [] (3 : Int32) (3 : Int32) h0 n0 Z0) hZ (hw _ (List.mem_of_getElem? (i := 77) rfl)) (hw _ (List.mem_of_getElem? (i := 73) rfl)) (by decide) (by decide)) (g := (mkF m 18 #[.val (.ref b), .val (.int q), .val (.int (0 : Int32)), .val (.int (3 : Int32))] [(.int (3 : Int32)), (.int (3 : Int32))])) rfl (by rw [hml]; rfl) (argsL := [(.int (3 : Int32)), (.int (3 : Int32))]) (rest := []) (lenOf pd_2 rfl) rfl (by show 2 * 0 + _ ≤ _; exact Nat.le_of_eq rfl) (hb hby d14_18) (fun _ _ => ⟨rfl, eh_5, (by decide : 0 + 0 ≤ _), (by decide : 0 + 0 ≤ _)⟩)
  dsimp only [Pt.U, Pt.locs, Pt.cells, Pt.slots] at X_10 l_10 y_10 z_10 st_10 hQ_10
  subst l_10 y_10 z_10
  obtain ⟨rfl, Nq_10, eh_10⟩ := hQ_10
  have N_11 := Fr.app N_6 Nq_10
  have pre_10 : Rch p.tables e below (s₁.setTop (entryFrame m #[(.ref b), (.int q), (.int (0 : Int32)), (.int (3 : Int32))] 4)) (T_10.setTop (mkF m 21 #[.val (.ref b), .val (.int q), .val (.int (0 : Int32)), .val (.int (3 : Int32))] [(.int (3 : Int32))])) := fun tgt ktg => pre_9 tgt (st_10 tgt ktg)
  have pre_12 : Rch p.tables e below (s₁.setTop (entryFrame m #[(.ref b), (.int q), (.int (0 : Int32)), (.int (3 : Int32))] 4)) (T_10.setTop (mkF m 24 #[.val (.ref b), .val (.int q), .val (.int (0 : Int32)), .val (.int (3 : Int32))] [(.int (3 : Int32)), (.int (0 : Int32))])) := fun tgt ktg => pre_10 tgt (by
    show Steps p.tables e below (T_10.setTop (mkF m 21 #[.val (.ref b), .val (.int q), .val (.int (0 : Int32)), .val (.int (3 : Int32))] [(.int (3 : Int32))])) _
    refine XS.istoreN X_10.here hx rfl (hb hby d14_21) rfl (l' := #[.val (.ref b), .val (.int q), .val (.int (0 : Int32)), .val (.int (3 : Int32))]) rfl ?_
    show Steps p.tables e below (T_10.setTop (mkF m 22 #[.val (.ref b), .val (.int q), .val (.int (0 : Int32)), .val (.int (3 : Int32))] [])) _
    refine XS.iloadN X_10.here hx rfl (hb hby d14_22) rfl ?_
    show Steps p.tables e below (T_10.setTop (mkF m 23 #[.val (.ref b), .val (.int q), .val (.int (0 : Int32)), .val (.int (3 : Int32))] [(.int (0 : Int32))])) _
    refine XS.iloadN X_10.here hx rfl (hb hby d14_23) rfl ?_
    exact ktg)
  have pre_13 : Rch p.tables e below (s₁.setTop (entryFrame m #[(.ref b), (.int q), (.int (0 : Int32)), (.int (3 : Int32))] 4)) (T_10.setTop (mkF m 33 #[.val (.ref b), .val (.int q), .val (.int (0 : Int32)), .val (.int (3 : Int32))] [(.int (3 : Int32)), (.int (0 : Int32)), (.int q), (.ref b)])) := fun tgt ktg => pre_12 tgt (by
    show Steps p.tables e below (T_10.setTop (mkF m 24 #[.val (.ref b), .val (.int q), .val (.int (0 : Int32)), .val (.int (3 : Int32))] [(.int (3 : Int32)), (.int (0 : Int32))])) _
    refine XS.icmpYes X_10.here hx rfl (pc0 := 24) (pc' := 29) rfl (hb hby d14_24) rfl (tlt (by decide : (0 : Int32) < (3 : Int32))).1 (by decide) (by decide) ?_
    show Steps p.tables e below (T_10.setTop (mkF m 29 #[.val (.ref b), .val (.int q), .val (.int (0 : Int32)), .val (.int (3 : Int32))] [])) _
    refine XS.aloadN X_10.here hx rfl (hb hby d14_29) rfl rfl ?_
    show Steps p.tables e below (T_10.setTop (mkF m 30 #[.val (.ref b), .val (.int q), .val (.int (0 : Int32)), .val (.int (3 : Int32))] [(.ref b)])) _
    refine XS.iloadN X_10.here hx rfl (hb hby d14_30) rfl ?_
    show Steps p.tables e below (T_10.setTop (mkF m 31 #[.val (.ref b), .val (.int q), .val (.int (0 : Int32)), .val (.int (3 : Int32))] [(.int q), (.ref b)])) _
    refine XS.iloadN X_10.here hx rfl (hb hby d14_31) rfl ?_
    show Steps p.tables e below (T_10.setTop (mkF m 32 #[.val (.ref b), .val (.int q), .val (.int (0 : Int32)), .val (.int (3 : Int32))] [(.int (0 : Int32)), (.int q), (.ref b)])) _
    refine XS.iloadN X_10.here hx rfl (hb hby d14_32) rfl ?_
    exact ktg)
  obtain ⟨_, _, ⟨T_14, L_14, k_14, n_14⟩, -, X_14, ⟨Lc_14, hQ_14, l_14, y_14, z_14⟩, st_14⟩ := Jvm.LawKit.callS X_10 hx (y := (⟨"java/lang/StringLatin1", "indexOfChar", "([BIII)I"⟩ : MethodName)) hown (mvT hZ (hw _ (List.mem_of_getElem? (i := 78) rfl))) (mvT hZ (hw _ (List.mem_of_getElem? (i := 79) rfl))) (mvT hZ (hw _ (List.mem_of_getElem? (i := 66) rfl))) (mvT hZ (hw _ (List.mem_of_getElem? (i := 80) rfl))) (by decide) (backOf (W := 0) (rmoc3 l Z a0 hw [] b q v0 v1 v2 kb h0 n0 Z0 A1) hZ (hw _ (List.mem_of_getElem? (i := 80) rfl)) (hw _ (List.mem_of_getElem? (i := 66) rfl)) (by decide) (by decide)) (g := (mkF m 33 #[.val (.ref b), .val (.int q), .val (.int (0 : Int32)), .val (.int (3 : Int32))] [(.int (3 : Int32)), (.int (0 : Int32)), (.int q), (.ref b)])) rfl (by rw [hml]; rfl) (argsL := [(.ref b), (.int q), (.int (0 : Int32)), (.int (3 : Int32))]) (rest := []) (lenOf pd_5 rfl) rfl (by show 2 * 0 + _ ≤ _; exact Nat.le_of_eq rfl) (hb hby d14_33) (fun _ _ => ⟨rfl, eh_10, (by decide : 0 + 0 ≤ _), (by decide : 0 + 0 ≤ _)⟩)
  dsimp only [Pt.U, Pt.locs, Pt.cells, Pt.slots] at X_14 l_14 y_14 z_14 st_14 hQ_14
  subst l_14 y_14 z_14
  obtain ⟨rfl, Nq_14, eh_14⟩ := hQ_14
  have N_15 := Fr.app N_11 Nq_14
  have pre_14 : Rch p.tables e below (s₁.setTop (entryFrame m #[(.ref b), (.int q), (.int (0 : Int32)), (.int (3 : Int32))] 4)) (T_14.setTop (mkF m 36 #[.val (.ref b), .val (.int q), .val (.int (0 : Int32)), .val (.int (3 : Int32))] [(.int (ixo [v0, v1, v2] (q.toInt8.toInt32) 0))])) := fun tgt ktg => pre_13 tgt (st_14 tgt ktg)
  obtain ⟨fs, hr, hrun, hended, hW, hsame⟩ := X_14.leave (v := some (.int (ixo [v0, v1, v2] (q.toInt8.toInt32) 0))) (fun h => by rw [Bd.returns] at h; cases h)
  refine ⟨_, _, pre_14 _ ?_, hrun, hended, _, _, rfl, ?_, ⟨_, rfl⟩, hW, hsame.mono (by decide) (by decide)⟩
  · show Steps p.tables e below (T_14.setTop (mkF m 36 #[.val (.ref b), .val (.int q), .val (.int (0 : Int32)), .val (.int (3 : Int32))] [(.int (ixo [v0, v1, v2] (q.toInt8.toInt32) 0))])) _
    exact retI X_14 hx Bd.returns (hb hby d14_36) hr
  · show Qli3 Z b q v0 v1 v2 kb h0 n0 _ T_14.heap _
    rw [eh_14]
    exact ⟨rfl, N_15, rfl⟩
theorem ef_i23 (m : MethodId) (x0 : Addr) (x1 : Int32) (x2 : Int32) : entryFrame m #[(.ref x0), (.int x1), (.int x2)] 3 = mkF m 0 #[.val (.ref x0), .val (.int x1), .val (.int x2)] [] := by first | (simp [entryFrame, mkF, argsToLocals, Value.category]; done) | rfl
def Qi23 (Z : State) (a : Addr) (q : Int32) (v0 : Int32) (v1 : Int32) (v2 : Int32) (b : Addr) (kb : ClassId) (h0 : Heap) (n0 : Nat) (v : Option Value) (h : Heap) (L : List Loc) : Prop := v = some (.int (ixo [v0, v1, v2] (q.toInt8.toInt32) 0)) ∧ Fr n0 L ∧ h = h0
set_option maxRecDepth 65536 in
set_option maxHeartbeats 40000000 in
theorem rmi23 (l : Launch) (Z : State) (a0 : Array Value) (hw : ∀ d ∈ tables_1, d.before a0 Z = true) (ws : List Jvm.Cond) (a : Addr) (q : Int32) (v0 : Int32) (v1 : Int32) (v2 : Int32) (b : Addr) (kb : ClassId) (h0 : Heap) (n0 : Nat) (Z0 : n0 ≤ h0.size) (E1 : Exa Z h0 a "java/lang/String") (F1 : Fld Z h0 a "java/lang/String" "coder" "B" (.int (0 : Int32))) (F2 : Fld Z h0 a "java/lang/String" "value" "[B" (.ref b)) (A1 : Arv Z h0 b kb .byte (3 : Int32) [(.int v0), (.int v1), (.int v2)] (.int (0 : Int32))) (cs : Int32) (hcs : ¬ cs = 0) (S1 : Sta Z h0 "java/lang/String" "COMPACT_STRINGS" "Z" (.int cs)) (hq0 : ¬ q < 0) (hq : ¬ (255 : Int32) < q) :
    MetFree l (⟨"java/lang/String", "indexOf", "(II)I"⟩ : MethodName) (head1 (Jvm.Cond.code (⟨"java/lang/String", "indexOf", "(II)I"⟩ : MethodName) jdk_42_method_80_code 3 (some .int) :: ws) ({ frames := 2, cells := 0, slots := 0, locals := 35 } : Room)) (fun aA U => aA = #[(.ref a), (.int q), (.int (0 : Int32))] ∧ Z.Warmed39 U.vm ∧ U.heap = h0) (fun _ _ _ _ _ => True) (fun _ U oO U' => ∃ vV LL, oO = .returned vV ∧ Qi23 Z a q v0 v1 v2 b kb h0 n0 vV U'.heap LL ∧ FrameEnd U oO U' LL ({ frames := 2, cells := 0, slots := 0, locals := 35 } : Room).cells ({ frames := 2, cells := 0, slots := 0, locals := 35 } : Room).slots) := by
  refine MetFree.of_bodySF (plainFor_of_name pn_0) hisR ?_
  intro p e s m args below meth c s₁ Bd hml0 hP hK
  obtain ⟨rfl, hZ, hh⟩ := hP
  have hx := Bd.exec
  have hby := Bd.bytes
  have hml : c.maxLocals = 3 := hml0
  have hown : s.vm.findClass "java/lang/String" = some m.cls := findClass_of_methodNamed Bd.named
  have hnm := (name_of_methodNamed Bd.named Bd.method).1
  have X0 : Stand p l e ({ frames := 2, cells := 0, slots := 0, locals := 35 } : Room) s m #[(.ref a), (.int q), (.int (0 : Int32))] below meth c s₁ [] 0 0 := Stand.of_body Bd
  have e0 : s₁.heap = h0 := by rw [← hh, Bd.state]; rfl
  have N0 := Fr.nil n0
  have K0 : Keep h0 h0 [] := Keep.refl _ _
  have pre0 : Rch p.tables e below (s₁.setTop (entryFrame m #[(.ref a), (.int q), (.int (0 : Int32))] 3)) (s₁.setTop (mkF m 0 #[.val (.ref a), .val (.int q), .val (.int (0 : Int32))] [])) := fun tgt ktg => castTop (ef_i23 m a q (0 : Int32)) ktg
  have pre_1 : Rch p.tables e below (s₁.setTop (entryFrame m #[(.ref a), (.int q), (.int (0 : Int32))] 3)) (s₁.setTop (mkF m 1 #[.val (.ref a), .val (.int q), .val (.int (0 : Int32))] [(.ref a)])) := fun tgt ktg => pre0 tgt (by
    show Steps p.tables e below (s₁.setTop (mkF m 0 #[.val (.ref a), .val (.int q), .val (.int (0 : Int32))] [])) _
    refine XS.aloadN X0.here hx rfl (hb hby d10_0) rfl rfl ?_
    exact ktg)
  obtain ⟨cq_2, kq_2, q_2a, q_2b, q_2c⟩ := isOf hZ e0 E1
  obtain ⟨_, _, ⟨T_2, L_2, k_2, n_2⟩, -, X_2, ⟨Lc_2, hQ_2, l_2, y_2, z_2⟩, st_2⟩ := X0.virtualBack hx (y := (⟨"java/lang/String", "isLatin1", "()Z"⟩ : MethodName)) (z := (⟨"java/lang/String", "isLatin1", "()Z"⟩ : MethodName)) hown (mvT hZ (hw _ (List.mem_of_getElem? (i := 49) rfl))) (mvT hZ (hw _ (List.mem_of_getElem? (i := 50) rfl))) (notFace_of_selects (args := #[]) (mvT hZ (hw _ (List.mem_of_getElem? (i := 52) rfl)))) (mvT hZ (hw _ (List.mem_of_getElem? (i := 52) rfl))) (mvT hZ (hw _ (List.mem_of_getElem? (i := 51) rfl))) (by decide) (backOf (W := 0) (rmisL l Z a0 hw [] a h0 n0 Z0 F1 cs hcs S1) hZ (hw _ (List.mem_of_getElem? (i := 53) rfl)) (hw _ (List.mem_of_getElem? (i := 6) rfl)) (by decide) (by decide)) q_2a q_2c (g := (mkF m 1 #[.val (.ref a), .val (.int q), .val (.int (0 : Int32))] [(.ref a)])) rfl (by rw [hml]; rfl) (Steps.refl _) (argsL := []) (rest := []) (lenOf pd_3 rfl) rfl (by show 2 * 0 + _ ≤ _; exact Nat.le_of_eq rfl) (hb hby d10_1) (fun _ _ => ⟨rfl, e0, (by decide : 0 + 0 ≤ _), (by decide : 0 + 0 ≤ _)⟩)
  dsimp only [Pt.U, Pt.locs, Pt.cells, Pt.slots] at X_2 l_2 y_2 z_2 st_2 hQ_2
  subst l_2 y_2 z_2
  obtain ⟨rfl, Nq_2, eh_2⟩ := hQ_2
  have N_3 := Fr.app N0 Nq_2
  have pre_2 : Rch p.tables e below (s₁.setTop (entryFrame m #[(.ref a), (.int q), (.int (0 : Int32))] 3)) (T_2.setTop (mkF m 4 #[.val (.ref a), .val (.int q), .val (.int (0 : Int32))] [(.int (1 : Int32))])) := fun tgt ktg => pre_1 tgt (st_2.trans ktg)
  have pre_4 : Rch p.tables e below (s₁.setTop (entryFrame m #[(.ref a), (.int q), (.int (0 : Int32))] 3)) (T_2.setTop (mkF m 8 #[.val (.ref a), .val (.int q), .val (.int (0 : Int32))] [(.ref a)])) := fun tgt ktg => pre_2 tgt (by
    show Steps p.tables e below (T_2.setTop (mkF m 4 #[.val (.ref a), .val (.int q), .val (.int (0 : Int32))] [(.int (1 : Int32))])) _
    refine XS.ifNo X_2.here hx rfl (hb hby d10_4) rfl ((if0 _ _).trans (feq (by decide : ¬ ((1 : Int32) = (0 : Int32)))).1) ?_
    show Steps p.tables e below (T_2.setTop (mkF m 7 #[.val (.ref a), .val (.int q), .val (.int (0 : Int32))] [])) _
    refine XS.aloadN X_2.here hx rfl (hb hby d10_7) rfl rfl ?_
    exact ktg)
  obtain ⟨T_5, X_5, e_5, st_5⟩ := getF X_2 hx hZ hown (host := "") (Or.inl (hw _ (List.mem_of_getElem? (i := 32) rfl))) Via.refl eh_2 F2 (g := (mkF m 8 #[.val (.ref a), .val (.int q), .val (.int (0 : Int32))] [(.ref a)])) rfl rfl (hb hby d10_8)
  have pre_5 : Rch p.tables e below (s₁.setTop (entryFrame m #[(.ref a), (.int q), (.int (0 : Int32))] 3)) (T_5.setTop (mkF m 11 #[.val (.ref a), .val (.int q), .val (.int (0 : Int32))] [(.ref b)])) := fun tgt ktg => pre_4 tgt (st_5 tgt ktg)
  have pre_6 : Rch p.tables e below (s₁.setTop (entryFrame m #[(.ref a), (.int q), (.int (0 : Int32))] 3)) (T_5.setTop (mkF m 14 #[.val (.ref a), .val (.int q), .val (.int (0 : Int32))] [(.ref a), (.int (0 : Int32)), (.int q), (.ref b)])) := fun tgt ktg => pre_5 tgt (by
    show Steps p.tables e below (T_5.setTop (mkF m 11 #[.val (.ref a), .val (.int q), .val (.int (0 : Int32))] [(.ref b)])) _
    refine XS.iloadN X_5.here hx rfl (hb hby d10_11) rfl ?_
    show Steps p.tables e below (T_5.setTop (mkF m 12 #[.val (.ref a), .val (.int q), .val (.int (0 : Int32))] [(.int q), (.ref b)])) _
    refine XS.iloadN X_5.here hx rfl (hb hby d10_12) rfl ?_
    show Steps p.tables e below (T_5.setTop (mkF m 13 #[.val (.ref a), .val (.int q), .val (.int (0 : Int32))] [(.int (0 : Int32)), (.int q), (.ref b)])) _
    refine XS.aloadN X_5.here hx rfl (hb hby d10_13) rfl rfl ?_
    exact ktg)
  obtain ⟨cq_7, kq_7, q_7a, q_7b, q_7c⟩ := isOf hZ e_5 E1
  obtain ⟨_, _, ⟨T_7, L_7, k_7, n_7⟩, -, X_7, ⟨Lc_7, hQ_7, l_7, y_7, z_7⟩, st_7⟩ := X_5.virtualBack hx (y := (⟨"java/lang/String", "length", "()I"⟩ : MethodName)) (z := (⟨"java/lang/String", "length", "()I"⟩ : MethodName)) hown (mvT hZ (hw _ (List.mem_of_getElem? (i := 54) rfl))) (mvT hZ (hw _ (List.mem_of_getElem? (i := 55) rfl))) (notFace_of_selects (args := #[]) (mvT hZ (hw _ (List.mem_of_getElem? (i := 57) rfl)))) (mvT hZ (hw _ (List.mem_of_getElem? (i := 57) rfl))) (mvT hZ (hw _ (List.mem_of_getElem? (i := 56) rfl))) (by decide) (backOf (W := 3) (rmlen l Z a0 hw [] a b kb (3 : Int32) [(.int v0), (.int v1), (.int v2)] h0 n0 Z0 E1 F1 F2 A1 cs hcs S1) hZ (hw _ (List.mem_of_getElem? (i := 58) rfl)) (hw _ (List.mem_of_getElem? (i := 6) rfl)) (by decide) (by decide)) q_7a q_7c (g := (mkF m 14 #[.val (.ref a), .val (.int q), .val (.int (0 : Int32))] [(.ref a), (.int (0 : Int32)), (.int q), (.ref b)])) rfl (by rw [hml]; rfl) (Steps.refl _) (argsL := []) (rest := [(.int (0 : Int32)), (.int q), (.ref b)]) (lenOf pd_4 rfl) rfl (by show 2 * 0 + _ ≤ _; exact Nat.le_of_eq rfl) (hb hby d10_14) (fun _ _ => ⟨rfl, e_5, (by decide : 0 + 0 ≤ _), (by decide : 0 + 0 ≤ _)⟩)
  dsimp only [Pt.U, Pt.locs, Pt.cells, Pt.slots] at X_7 l_7 y_7 z_7 st_7 hQ_7
  subst l_7 y_7 z_7
  obtain ⟨rfl, Nq_7, eh_7⟩ := hQ_7
  have N_8 := Fr.app N_3 Nq_7
  have pre_7 : Rch p.tables e below (s₁.setTop (entryFrame m #[(.ref a), (.int q), (.int (0 : Int32))] 3)) (T_7.setTop (mkF m 17 #[.val (.ref a), .val (.int q), .val (.int (0 : Int32))] [(.int (3 : Int32)), (.int (0 : Int32)), (.int q), (.ref b)])) := fun tgt ktg => pre_6 tgt (st_7.trans ktg)
  obtain ⟨_, _, ⟨T_9, L_9, k_9, n_9⟩, -, X_9, ⟨Lc_9, hQ_9, l_9, y_9, z_9⟩, st_9⟩ := Jvm.LawKit.callS X_7 hx (y := (⟨"java/lang/StringLatin1", "indexOf", "([BIII)I"⟩ : MethodName)) hown (mvT hZ (hw _ (List.mem_of_getElem? (i := 64) rfl))) (mvT hZ (hw _ (List.mem_of_getElem? (i := 65) rfl))) (mvT hZ (hw _ (List.mem_of_getElem? (i := 66) rfl))) (mvT hZ (hw _ (List.mem_of_getElem? (i := 67) rfl))) (by decide) (backOf (W := 0) (rmli3 l Z a0 hw [] b q v0 v1 v2 kb h0 n0 Z0 A1 hq0 hq) hZ (hw _ (List.mem_of_getElem? (i := 67) rfl)) (hw _ (List.mem_of_getElem? (i := 66) rfl)) (by decide) (by decide)) (g := (mkF m 17 #[.val (.ref a), .val (.int q), .val (.int (0 : Int32))] [(.int (3 : Int32)), (.int (0 : Int32)), (.int q), (.ref b)])) rfl (by rw [hml]; rfl) (argsL := [(.ref b), (.int q), (.int (0 : Int32)), (.int (3 : Int32))]) (rest := []) (lenOf pd_5 rfl) rfl (by show 2 * 0 + _ ≤ _; exact Nat.le_of_eq rfl) (hb hby d10_17) (fun _ _ => ⟨rfl, eh_7, (by decide : 0 + 0 ≤ _), (by decide : 0 + 0 ≤ _)⟩)
  dsimp only [Pt.U, Pt.locs, Pt.cells, Pt.slots] at X_9 l_9 y_9 z_9 st_9 hQ_9
  subst l_9 y_9 z_9
  obtain ⟨rfl, Nq_9, eh_9⟩ := hQ_9
  have N_10 := Fr.app N_8 Nq_9
  have pre_9 : Rch p.tables e below (s₁.setTop (entryFrame m #[(.ref a), (.int q), (.int (0 : Int32))] 3)) (T_9.setTop (mkF m 20 #[.val (.ref a), .val (.int q), .val (.int (0 : Int32))] [(.int (ixo [v0, v1, v2] (q.toInt8.toInt32) 0))])) := fun tgt ktg => pre_7 tgt (st_9 tgt ktg)
  have pre_11 : Rch p.tables e below (s₁.setTop (entryFrame m #[(.ref a), (.int q), (.int (0 : Int32))] 3)) (T_9.setTop (mkF m 36 #[.val (.ref a), .val (.int q), .val (.int (0 : Int32))] [(.int (ixo [v0, v1, v2] (q.toInt8.toInt32) 0))])) := fun tgt ktg => pre_9 tgt (by
    show Steps p.tables e below (T_9.setTop (mkF m 20 #[.val (.ref a), .val (.int q), .val (.int (0 : Int32))] [(.int (ixo [v0, v1, v2] (q.toInt8.toInt32) 0))])) _
    refine XS.goto X_9.here hx rfl (pc0 := 20) (pc' := 36) rfl (hb hby d10_20) (by decide) (by decide) ?_
    exact ktg)
  obtain ⟨fs, hr, hrun, hended, hW, hsame⟩ := X_9.leave (v := some (.int (ixo [v0, v1, v2] (q.toInt8.toInt32) 0))) (fun h => by rw [Bd.returns] at h; cases h)
  refine ⟨_, _, pre_11 _ ?_, hrun, hended, _, _, rfl, ?_, ⟨_, rfl⟩, hW, hsame.mono (by decide) (by decide)⟩
  · show Steps p.tables e below (T_9.setTop (mkF m 36 #[.val (.ref a), .val (.int q), .val (.int (0 : Int32))] [(.int (ixo [v0, v1, v2] (q.toInt8.toInt32) 0))])) _
    exact retI X_9 hx Bd.returns (hb hby d10_36) hr
  · show Qi23 Z a q v0 v1 v2 b kb h0 n0 _ T_9.heap _
    rw [eh_9]
    exact ⟨rfl, N_10, rfl⟩
theorem ef_i13 (m : MethodId) (x0 : Addr) (x1 : Int32) : entryFrame m #[(.ref x0), (.int x1)] 2 = mkF m 0 #[.val (.ref x0), .val (.int x1)] [] := by first | (simp [entryFrame, mkF, argsToLocals, Value.category]; done) | rfl
def Qi13 (Z : State) (a : Addr) (q : Int32) (v0 : Int32) (v1 : Int32) (v2 : Int32) (b : Addr) (kb : ClassId) (h0 : Heap) (n0 : Nat) (v : Option Value) (h : Heap) (L : List Loc) : Prop := v = some (.int (ixo [v0, v1, v2] (q.toInt8.toInt32) 0)) ∧ Fr n0 L ∧ h = h0
set_option maxRecDepth 65536 in
set_option maxHeartbeats 40000000 in
theorem rmi13 (l : Launch) (Z : State) (a0 : Array Value) (hw : ∀ d ∈ tables_1, d.before a0 Z = true) (ws : List Jvm.Cond) (a : Addr) (q : Int32) (v0 : Int32) (v1 : Int32) (v2 : Int32) (b : Addr) (kb : ClassId) (h0 : Heap) (n0 : Nat) (Z0 : n0 ≤ h0.size) (E1 : Exa Z h0 a "java/lang/String") (F1 : Fld Z h0 a "java/lang/String" "coder" "B" (.int (0 : Int32))) (F2 : Fld Z h0 a "java/lang/String" "value" "[B" (.ref b)) (A1 : Arv Z h0 b kb .byte (3 : Int32) [(.int v0), (.int v1), (.int v2)] (.int (0 : Int32))) (cs : Int32) (hcs : ¬ cs = 0) (S1 : Sta Z h0 "java/lang/String" "COMPACT_STRINGS" "Z" (.int cs)) (hq0 : ¬ q < 0) (hq : ¬ (255 : Int32) < q) :
    MetFree l (⟨"java/lang/String", "indexOf", "(I)I"⟩ : MethodName) (head1 (Jvm.Cond.code (⟨"java/lang/String", "indexOf", "(I)I"⟩ : MethodName) jdk_42_method_79_code 2 (some .int) :: ws) ({ frames := 3, cells := 0, slots := 0, locals := 50 } : Room)) (fun aA U => aA = #[(.ref a), (.int q)] ∧ Z.Warmed39 U.vm ∧ U.heap = h0) (fun _ _ _ _ _ => True) (fun _ U oO U' => ∃ vV LL, oO = .returned vV ∧ Qi13 Z a q v0 v1 v2 b kb h0 n0 vV U'.heap LL ∧ FrameEnd U oO U' LL ({ frames := 3, cells := 0, slots := 0, locals := 50 } : Room).cells ({ frames := 3, cells := 0, slots := 0, locals := 50 } : Room).slots) := by
  refine MetFree.of_bodySF (plainFor_of_name pn_0) hisR ?_
  intro p e s m args below meth c s₁ Bd hml0 hP hK
  obtain ⟨rfl, hZ, hh⟩ := hP
  have hx := Bd.exec
  have hby := Bd.bytes
  have hml : c.maxLocals = 2 := hml0
  have hown : s.vm.findClass "java/lang/String" = some m.cls := findClass_of_methodNamed Bd.named
  have hnm := (name_of_methodNamed Bd.named Bd.method).1
  have X0 : Stand p l e ({ frames := 3, cells := 0, slots := 0, locals := 50 } : Room) s m #[(.ref a), (.int q)] below meth c s₁ [] 0 0 := Stand.of_body Bd
  have e0 : s₁.heap = h0 := by rw [← hh, Bd.state]; rfl
  have N0 := Fr.nil n0
  have K0 : Keep h0 h0 [] := Keep.refl _ _
  have pre0 : Rch p.tables e below (s₁.setTop (entryFrame m #[(.ref a), (.int q)] 2)) (s₁.setTop (mkF m 0 #[.val (.ref a), .val (.int q)] [])) := fun tgt ktg => castTop (ef_i13 m a q) ktg
  have pre_1 : Rch p.tables e below (s₁.setTop (entryFrame m #[(.ref a), (.int q)] 2)) (s₁.setTop (mkF m 3 #[.val (.ref a), .val (.int q)] [(.int (0 : Int32)), (.int q), (.ref a)])) := fun tgt ktg => pre0 tgt (by
    show Steps p.tables e below (s₁.setTop (mkF m 0 #[.val (.ref a), .val (.int q)] [])) _
    refine XS.aloadN X0.here hx rfl (hb hby d9_0) rfl rfl ?_
    show Steps p.tables e below (s₁.setTop (mkF m 1 #[.val (.ref a), .val (.int q)] [(.ref a)])) _
    refine XS.iloadN X0.here hx rfl (hb hby d9_1) rfl ?_
    show Steps p.tables e below (s₁.setTop (mkF m 2 #[.val (.ref a), .val (.int q)] [(.int q), (.ref a)])) _
    refine XS.iconst X0.here hx rfl (hb hby d9_2) ?_
    exact ktg)
  obtain ⟨cq_2, kq_2, q_2a, q_2b, q_2c⟩ := isOf hZ e0 E1
  obtain ⟨_, _, ⟨T_2, L_2, k_2, n_2⟩, -, X_2, ⟨Lc_2, hQ_2, l_2, y_2, z_2⟩, st_2⟩ := X0.virtualBack hx (y := (⟨"java/lang/String", "indexOf", "(II)I"⟩ : MethodName)) (z := (⟨"java/lang/String", "indexOf", "(II)I"⟩ : MethodName)) hown (mvT hZ (hw _ (List.mem_of_getElem? (i := 44) rfl))) (mvT hZ (hw _ (List.mem_of_getElem? (i := 45) rfl))) (notFace_of_selects (args := #[]) (mvT hZ (hw _ (List.mem_of_getElem? (i := 47) rfl)))) (mvT hZ (hw _ (List.mem_of_getElem? (i := 47) rfl))) (mvT hZ (hw _ (List.mem_of_getElem? (i := 46) rfl))) (by decide) (backOf (W := 0) (rmi23 l Z a0 hw [] a q v0 v1 v2 b kb h0 n0 Z0 E1 F1 F2 A1 cs hcs S1 hq0 hq) hZ (hw _ (List.mem_of_getElem? (i := 48) rfl)) (hw _ (List.mem_of_getElem? (i := 6) rfl)) (by decide) (by decide)) q_2a q_2c (g := (mkF m 3 #[.val (.ref a), .val (.int q)] [(.int (0 : Int32)), (.int q), (.ref a)])) rfl (by rw [hml]; rfl) (Steps.refl _) (argsL := [(.int q), (.int (0 : Int32))]) (rest := []) (lenOf pd_2 rfl) rfl (by show 2 * 0 + _ ≤ _; exact Nat.le_of_eq rfl) (hb hby d9_3) (fun _ _ => ⟨rfl, e0, (by decide : 0 + 0 ≤ _), (by decide : 0 + 0 ≤ _)⟩)
  dsimp only [Pt.U, Pt.locs, Pt.cells, Pt.slots] at X_2 l_2 y_2 z_2 st_2 hQ_2
  subst l_2 y_2 z_2
  obtain ⟨rfl, Nq_2, eh_2⟩ := hQ_2
  have N_3 := Fr.app N0 Nq_2
  have pre_2 : Rch p.tables e below (s₁.setTop (entryFrame m #[(.ref a), (.int q)] 2)) (T_2.setTop (mkF m 6 #[.val (.ref a), .val (.int q)] [(.int (ixo [v0, v1, v2] (q.toInt8.toInt32) 0))])) := fun tgt ktg => pre_1 tgt (st_2.trans ktg)
  obtain ⟨fs, hr, hrun, hended, hW, hsame⟩ := X_2.leave (v := some (.int (ixo [v0, v1, v2] (q.toInt8.toInt32) 0))) (fun h => by rw [Bd.returns] at h; cases h)
  refine ⟨_, _, pre_2 _ ?_, hrun, hended, _, _, rfl, ?_, ⟨_, rfl⟩, hW, hsame.mono (by decide) (by decide)⟩
  · show Steps p.tables e below (T_2.setTop (mkF m 6 #[.val (.ref a), .val (.int q)] [(.int (ixo [v0, v1, v2] (q.toInt8.toInt32) 0))])) _
    exact retI X_2 hx Bd.returns (hb hby d9_6) hr
  · show Qi13 Z a q v0 v1 v2 b kb h0 n0 _ T_2.heap _
    rw [eh_2]
    exact ⟨rfl, N_3, rfl⟩
def pl (il : List Int32) (j : Int32) : Int32 := if (ixo il (j.toInt8.toInt32) 0) < 0 then 1 else 0
theorem own_i2c1 {i : Int32} (h0 : ¬ i < 0) (h : i < 128) : ((i + (1 : Int32)).toUInt32.toUInt16.toUInt32.toInt32) = i + 1 := by
  have e1 : (1 : Int32).toInt = 1 := by decide
  have e0 : (0 : Int32).toInt = 0 := by decide
  have e128 : (128 : Int32).toInt = 128 := by decide
  have e255 : (255 : Int32).toInt = 255 := by decide
  rw [Int32.lt_iff_toInt_lt] at h0 h
  have a : (i + (1 : Int32)).toInt = i.toInt + 1 := by rw [← e1]; exact Jvm.Kit.i32_add (by omega) (by omega)
  have m := Jvm.Kit.i32_mask (i + 1) 255 (k := 8) (by decide) (by decide)
  have e : (i + 1) &&& 255 = i + 1 := Int32.toInt_inj.mp (by omega)
  have q := i2c_mask (i + 1)
  rw [e] at q; exact q
theorem own_plZ (il : List Int32) (j : Int32) : nar .boolean (pl il j) = pl il j := by unfold pl; split <;> rfl
theorem own_255 {i : Int32} (h : i < 128) : ¬ (255 : Int32) < i := fun q => Int32.lt_irrefl (Int32.lt_trans (Int32.lt_trans q h) (by decide))
theorem own_128 {i : Int32} (h : ¬ i < 0 ∧ i < 128) : i.toNatClampNeg < 128 := by
  have q := nat_of h.1
  have e128 : (128 : Int32).toInt = 128 := by decide
  have h2 := h.2
  rw [Int32.lt_iff_toInt_lt] at h2; omega
theorem own_setget {vs : List Value} {i j : Nat} {v d : Value} (hi : i < vs.length) : (vs.set i v).getD j d = if j = i then v else vs.getD j d := by
  by_cases e : j = i
  · subst e; simp [hi]
  · rw [if_neg e]; simp [List.getD_eq_getElem?_getD, List.getElem?_set, Ne.symm e]
theorem own_inv {il : List Int32} {us : List Value} {i pv : Int32} (hus : us.length = 128) (hi0 : ¬ i < 0) (hi : i < 128) (hpl : pv = pl il i) (HI : ∀ j : Int32, ¬ j < 0 → j < i → us.getD j.toNatClampNeg (.int (0 : Int32)) = .int (pl il j)) :
    ∀ j : Int32, ¬ j < 0 → j < (i + 1) → (us.set i.toNatClampNeg (.int (nar .boolean pv))).getD j.toNatClampNeg (.int (0 : Int32)) = .int (pl il j) := by
  intro j hj hj2
  rw [own_setget (by rw [hus]; exact own_128 ⟨hi0, hi⟩)]
  have e1 : (1 : Int32).toInt = 1 := by decide
  have e0 : (0 : Int32).toInt = 0 := by decide
  have e128 : (128 : Int32).toInt = 128 := by decide
  by_cases e : j = i
  · subst e; rw [if_pos rfl, hpl, own_plZ]
  · have ne : ¬ j.toNatClampNeg = i.toNatClampNeg := fun q => e (Int32.toInt_inj.mp (by rw [nat_of hj, nat_of hi0, q]))
    rw [if_neg ne]
    refine HI j hj ?_
    have ne' : j.toInt ≠ i.toInt := fun q => e (Int32.toInt_inj.mp q)
    rw [Int32.lt_iff_toInt_lt] at hi0 hi hj2 ⊢
    have a : (i + (1 : Int32)).toInt = i.toInt + 1 := by rw [← e1]; exact Jvm.Kit.i32_add (by omega) (by omega)
    omega
theorem d8_8 : decode prog_152_method_8_code 8 = .ok (.iload_n 2, 1) := by decide +kernel
theorem d8_9 : decode prog_152_method_8_code 9 = .ok (.aload_n 1, 1) := by decide +kernel
theorem d8_10 : decode prog_152_method_8_code 10 = .ok (.arraylength, 1) := by decide +kernel
theorem d8_11 : decode prog_152_method_8_code 11 = .ok (.if_icmp .ge 27, 3) := by decide +kernel
theorem d8_14 : decode prog_152_method_8_code 14 = .ok (.aload_n 1, 1) := by decide +kernel
theorem d8_15 : decode prog_152_method_8_code 15 = .ok (.iload_n 2, 1) := by decide +kernel
theorem d8_16 : decode prog_152_method_8_code 16 = .ok (.aload_n 0, 1) := by decide +kernel
theorem d8_17 : decode prog_152_method_8_code 17 = .ok (.iload_n 2, 1) := by decide +kernel
theorem d8_18 : decode prog_152_method_8_code 18 = .ok (.invokevirtual 80, 3) := by decide +kernel
theorem pd_6 : parseMethodDescriptor "(I)I" = some ⟨[.int], some .int⟩ := by decide +kernel
theorem d8_21 : decode prog_152_method_8_code 21 = .ok (.ifCond .ge 7, 3) := by decide +kernel
theorem d8_24 : decode prog_152_method_8_code 24 = .ok (.iconst 1, 1) := by decide +kernel
theorem d8_25 : decode prog_152_method_8_code 25 = .ok (.goto 4, 3) := by decide +kernel
theorem d8_28 : decode prog_152_method_8_code 28 = .ok (.iconst 0, 1) := by decide +kernel
theorem d8_29 : decode prog_152_method_8_code 29 = .ok (.bastore, 1) := by decide +kernel
theorem d8_30 : decode prog_152_method_8_code 30 = .ok (.iload_n 2, 1) := by decide +kernel
theorem d8_31 : decode prog_152_method_8_code 31 = .ok (.iconst 1, 1) := by decide +kernel
theorem d8_32 : decode prog_152_method_8_code 32 = .ok (.iadd, 1) := by decide +kernel
theorem d8_33 : decode prog_152_method_8_code 33 = .ok (.i2c, 1) := by decide +kernel
theorem d8_34 : decode prog_152_method_8_code 34 = .ok (.istore_n 2, 1) := by decide +kernel
theorem d8_35 : decode prog_152_method_8_code 35 = .ok (.goto (-27), 3) := by decide +kernel
set_option maxRecDepth 65536 in
set_option maxHeartbeats 40000000 in
theorem pct0 {p : Program} {l : Launch} {e : Env} {s : State} {m : MethodId} {args : Array Value} {below : List Frame} {meth : Method} {c : Code} {T0 : State} {locs : List Loc} {cells slots : Nat} {Z : State} {a0 : Array Value} {h0 : Heap} {n0 : Nat} {a b r : Addr} {kb kr : ClassId} {i : Int32}
    (X0 : Stand p l e ({ frames := 4, cells := 1, slots := 128, locals := 70 } : Room) s m args below meth c T0 locs cells slots) (hx : p.tables.exec = Jvm.exec) (hZ : Z.Warmed39 s.vm) (hw : ∀ d ∈ tables_1, d.before a0 Z = true) (hby : c.code = prog_152_method_8_code) (hml : c.maxLocals = 3) (hown : s.vm.findClass "com/example/termwell/termwell/tables/XmlText" = some m.cls) (hce : cells ≤ ({ frames := 4, cells := 1, slots := 128, locals := 70 } : Room).cells) (hsl : slots ≤ ({ frames := 4, cells := 1, slots := 128, locals := 70 } : Room).slots) (e0 : T0.heap = h0) (N0 : Fr n0 locs) (Z0 : n0 ≤ h0.size) (E1 : Exa Z h0 a "java/lang/String") (F1 : Fld Z h0 a "java/lang/String" "coder" "B" (.int (0 : Int32))) (F2 : Fld Z h0 a "java/lang/String" "value" "[B" (.ref b)) (A1 : Arv Z h0 b kb .byte (0 : Int32) [] (.int (0 : Int32))) (cs : Int32) (hcs : ¬ cs = 0) (S1 : Sta Z h0 "java/lang/String" "COMPACT_STRINGS" "Z" (.int cs)) (nar_ : a ≠ r) (nbr : b ≠ r) (gr : n0 ≤ r) (hi0 : ¬ i < 0) (hi : i < 128) (I0 : ∃ vs : List Value, Arv Z h0 r kr .boolean (128 : Int32) vs (.int (0 : Int32)) ∧ vs.length = 128 ∧ ∀ j : Int32, ¬ j < 0 → j < i → vs.getD j.toNatClampNeg (.int (0 : Int32)) = .int (pl [] j)) :
    ∃ (T' : State) (h' : Heap) (L' : List Loc), Stand p l e ({ frames := 4, cells := 1, slots := 128, locals := 70 } : Room) s m args below meth c T' L' cells slots ∧ T'.heap = h' ∧ Fr n0 L' ∧ Keep h0 h' [r] ∧ n0 ≤ h'.size ∧ (∃ vs : List Value, Arv Z h' r kr .boolean (128 : Int32) vs (.int (0 : Int32)) ∧ vs.length = 128 ∧ ∀ j : Int32, ¬ j < 0 → j < (i + 1) → vs.getD j.toNatClampNeg (.int (0 : Int32)) = .int (pl [] j)) ∧ (Exa Z h' a "java/lang/String") ∧ (Fld Z h' a "java/lang/String" "coder" "B" (.int (0 : Int32))) ∧ (Fld Z h' a "java/lang/String" "value" "[B" (.ref b)) ∧ (Arv Z h' b kb .byte (0 : Int32) [] (.int (0 : Int32))) ∧ (Sta Z h' "java/lang/String" "COMPACT_STRINGS" "Z" (.int cs)) ∧ Rch p.tables e below (T0.setTop (mkF m 8 #[.val (.ref a), .val (.ref r), .val (.int i)] [])) (T'.setTop (mkF m 8 #[.val (.ref a), .val (.ref r), .val (.int (i + 1))] [])) := by
  have K0 : Keep h0 h0 [r] := Keep.refl _ _
  have pre0 : Rch p.tables e below (T0.setTop (mkF m 8 #[.val (.ref a), .val (.ref r), .val (.int i)] [])) (T0.setTop (mkF m 8 #[.val (.ref a), .val (.ref r), .val (.int i)] [])) := fun tgt ktg => ktg
  obtain ⟨us, AR, hus, HI⟩ := I0
  have pre_1 : Rch p.tables e below (T0.setTop (mkF m 8 #[.val (.ref a), .val (.ref r), .val (.int i)] [])) (T0.setTop (mkF m 10 #[.val (.ref a), .val (.ref r), .val (.int i)] [(.ref r), (.int i)])) := fun tgt ktg => pre0 tgt (by
    show Steps p.tables e below (T0.setTop (mkF m 8 #[.val (.ref a), .val (.ref r), .val (.int i)] [])) _
    refine XS.iloadN X0.here hx rfl (hb hby d8_8) rfl ?_
    show Steps p.tables e below (T0.setTop (mkF m 9 #[.val (.ref a), .val (.ref r), .val (.int i)] [(.int i)])) _
    refine XS.aloadN X0.here hx rfl (hb hby d8_9) rfl rfl ?_
    exact ktg)
  obtain ⟨cl__2, Ar__2, q__2, S__2, N__2, H__2, G__2⟩ := id AR
  have pre_3 : Rch p.tables e below (T0.setTop (mkF m 8 #[.val (.ref a), .val (.ref r), .val (.int i)] [])) (T0.setTop (mkF m 11 #[.val (.ref a), .val (.ref r), .val (.int i)] [(.int (128 : Int32)), (.int i)])) := fun tgt ktg => pre_1 tgt (X0.arraylength hx (by rw [e0]; exact Ar__2.1) (State.isArrayOf_alike hZ.alike Ar__2.2.1) (g := (mkF m 10 #[.val (.ref a), .val (.ref r), .val (.int i)] [(.ref r), (.int i)])) rfl rfl (hb hby d8_10) _ (by rw [len_of S__2 N__2]; exact ktg))
  have pre_4 : Rch p.tables e below (T0.setTop (mkF m 8 #[.val (.ref a), .val (.ref r), .val (.int i)] [])) (T0.setTop (mkF m 18 #[.val (.ref a), .val (.ref r), .val (.int i)] [(.int i), (.ref a), (.int i), (.ref r)])) := fun tgt ktg => pre_3 tgt (by
    show Steps p.tables e below (T0.setTop (mkF m 11 #[.val (.ref a), .val (.ref r), .val (.int i)] [(.int (128 : Int32)), (.int i)])) _
    refine XS.icmpNo X0.here hx rfl (hb hby d8_11) rfl (tlt hi).2.1 ?_
    show Steps p.tables e below (T0.setTop (mkF m 14 #[.val (.ref a), .val (.ref r), .val (.int i)] [])) _
    refine XS.aloadN X0.here hx rfl (hb hby d8_14) rfl rfl ?_
    show Steps p.tables e below (T0.setTop (mkF m 15 #[.val (.ref a), .val (.ref r), .val (.int i)] [(.ref r)])) _
    refine XS.iloadN X0.here hx rfl (hb hby d8_15) rfl ?_
    show Steps p.tables e below (T0.setTop (mkF m 16 #[.val (.ref a), .val (.ref r), .val (.int i)] [(.int i), (.ref r)])) _
    refine XS.aloadN X0.here hx rfl (hb hby d8_16) rfl rfl ?_
    show Steps p.tables e below (T0.setTop (mkF m 17 #[.val (.ref a), .val (.ref r), .val (.int i)] [(.ref a), (.int i), (.ref r)])) _
    refine XS.iloadN X0.here hx rfl (hb hby d8_17) rfl ?_
    exact ktg)
  obtain ⟨cq_5, kq_5, q_5a, q_5b, q_5c⟩ := isOf hZ e0 E1
  obtain ⟨_, _, ⟨T_5, L_5, k_5, n_5⟩, -, X_5, ⟨Lc_5, hQ_5, l_5, y_5, z_5⟩, st_5⟩ := X0.virtualBack hx (y := (⟨"java/lang/String", "indexOf", "(I)I"⟩ : MethodName)) (z := (⟨"java/lang/String", "indexOf", "(I)I"⟩ : MethodName)) hown (mvT hZ (hw _ (List.mem_of_getElem? (i := 39) rfl))) (mvT hZ (hw _ (List.mem_of_getElem? (i := 40) rfl))) (notFace_of_selects (args := #[]) (mvT hZ (hw _ (List.mem_of_getElem? (i := 42) rfl)))) (mvT hZ (hw _ (List.mem_of_getElem? (i := 42) rfl))) (mvT hZ (hw _ (List.mem_of_getElem? (i := 41) rfl))) (by decide) (backOf (W := 2) (rmi10 l Z a0 hw [] a i  b kb h0 n0 Z0 E1 F1 F2 A1 cs hcs S1 hi0 (own_255 hi)) hZ (hw _ (List.mem_of_getElem? (i := 43) rfl)) (hw _ (List.mem_of_getElem? (i := 6) rfl)) (by decide) (by decide)) q_5a q_5c (g := (mkF m 18 #[.val (.ref a), .val (.ref r), .val (.int i)] [(.int i), (.ref a), (.int i), (.ref r)])) rfl (by rw [hml]; rfl) (Steps.refl _) (argsL := [(.int i)]) (rest := [(.int i), (.ref r)]) (lenOf pd_6 rfl) rfl (by show 2 * 0 + _ ≤ _; exact Nat.le_of_eq rfl) (hb hby d8_18) (fun _ _ => ⟨rfl, e0, hce, hsl⟩)
  dsimp only [Pt.U, Pt.locs, Pt.cells, Pt.slots] at X_5 l_5 y_5 z_5 st_5 hQ_5
  subst l_5 y_5 z_5
  obtain ⟨rfl, Nq_5, eh_5⟩ := hQ_5
  have N_6 := Fr.app N0 Nq_5
  have pre_5 : Rch p.tables e below (T0.setTop (mkF m 8 #[.val (.ref a), .val (.ref r), .val (.int i)] [])) (T_5.setTop (mkF m 21 #[.val (.ref a), .val (.ref r), .val (.int i)] [(.int (ixo [] (i.toInt8.toInt32) 0)), (.int i), (.ref r)])) := fun tgt ktg => pre_4 tgt (st_5.trans ktg)
  obtain ⟨pv, hv_pv⟩ : ∃ nm_ : Int32, nm_ = (if (ixo [] (i.toInt8.toInt32) 0) < (0 : Int32) then (1 : Int32) else (0 : Int32)) := ⟨_, rfl⟩
  have pre_8 : Rch p.tables e below (T0.setTop (mkF m 8 #[.val (.ref a), .val (.ref r), .val (.int i)] [])) (T_5.setTop (mkF m 29 #[.val (.ref a), .val (.ref r), .val (.int i)] [(.int pv), (.int i), (.ref r)])) := fun tgt ktg => pre_5 tgt (by
    by_cases q_7 : (ixo [] (i.toInt8.toInt32) 0) < (0 : Int32)
    · skip
      show Steps p.tables e below (T_5.setTop (mkF m 21 #[.val (.ref a), .val (.ref r), .val (.int i)] [(.int (ixo [] (i.toInt8.toInt32) 0)), (.int i), (.ref r)])) _
      refine XS.ifNo X_5.here hx rfl (hb hby d8_21) rfl ((if0 _ _).trans (tlt q_7).2.1) ?_
      show Steps p.tables e below (T_5.setTop (mkF m 24 #[.val (.ref a), .val (.ref r), .val (.int i)] [(.int i), (.ref r)])) _
      refine XS.iconst X_5.here hx rfl (hb hby d8_24) ?_
      show Steps p.tables e below (T_5.setTop (mkF m 25 #[.val (.ref a), .val (.ref r), .val (.int i)] [(.int (1 : Int32)), (.int i), (.ref r)])) _
      refine XS.goto X_5.here hx rfl (pc0 := 25) (pc' := 29) rfl (hb hby d8_25) (by decide) (by decide) ?_
      have ev_pv : pv = (1 : Int32) := by rw [hv_pv, if_pos q_7]
      rw [ev_pv] at ktg
      exact ktg
    · skip
      show Steps p.tables e below (T_5.setTop (mkF m 21 #[.val (.ref a), .val (.ref r), .val (.int i)] [(.int (ixo [] (i.toInt8.toInt32) 0)), (.int i), (.ref r)])) _
      refine XS.ifYes X_5.here hx rfl (pc0 := 21) (pc' := 28) rfl (hb hby d8_21) rfl ((if0 _ _).trans (flt q_7).2.1) (by decide) (by decide) ?_
      show Steps p.tables e below (T_5.setTop (mkF m 28 #[.val (.ref a), .val (.ref r), .val (.int i)] [(.int i), (.ref r)])) _
      refine XS.iconst X_5.here hx rfl (hb hby d8_28) ?_
      have ev_pv : pv = (0 : Int32) := by rw [hv_pv, if_neg q_7]
      rw [ev_pv] at ktg
      exact ktg
    done)
  have hpl : pv = pl [] i := by rw [hv_pv]; rfl
  obtain ⟨cl__9, Ar__9, q__9, S__9, N__9, H__9, G__9⟩ := id AR
  have hin__9 : ¬ (i < 0 ∨ cl__9.slots.size ≤ (i).toNatClampNeg) := inb_of S__9 ⟨hi0, hi⟩
  obtain ⟨T_10, h_10, X_10, e_10, W_10, st_10⟩ := stZ X_5 hx hZ eh_5 Ar__9 (j := i) hin__9 (g := (mkF m 29 #[.val (.ref a), .val (.ref r), .val (.int i)] [(.int pv), (.int i), (.ref r)])) rfl rfl (hb hby d8_29)
  have pre_10 : Rch p.tables e below (T0.setTop (mkF m 8 #[.val (.ref a), .val (.ref r), .val (.int i)] [])) (T_10.setTop (mkF m 30 #[.val (.ref a), .val (.ref r), .val (.int i)] [])) := fun tgt ktg => pre_8 tgt (st_10 tgt ktg)
  have f_11 : Exa Z h_10 a "java/lang/String" := E1.wr W_10
  have f_12 : Fld Z h_10 a "java/lang/String" "coder" "B" (.int (0 : Int32)) := F1.other W_10 (Or.inl nar_)
  have f_13 : Fld Z h_10 a "java/lang/String" "value" "[B" (.ref b) := F2.other W_10 (Or.inl nar_)
  have f_14 : Arv Z h_10 b kb .byte (0 : Int32) [] (.int (0 : Int32)) := A1.other W_10 nbr
  have f_15 : Sta Z h_10 "java/lang/String" "COMPACT_STRINGS" "Z" (.int cs) := S1.wr W_10
  have z_16 : n0 ≤ h_10.size := Nat.le_trans Z0 (Keep.of_wr W_10).1
  have K_17 : Keep h0 h_10 [r] := K0.wr W_10 (Or.inl (List.mem_of_getElem? (i := 0) rfl))
  have f_18 : Arv Z h_10 r kr .boolean (128 : Int32) (us.set i.toNatClampNeg (.int (nar .boolean pv))) (.int (0 : Int32)) := Arv.set Ar__9 q__9 S__9 N__9 H__9 G__9 (fits_nar_bool _) W_10 i.toNatClampNeg rfl (by rw [hus]; exact own_128 ⟨hi0, hi⟩)
  have N_19 := Fr.snoc X_10 N_6 gr
  have pre_20 : Rch p.tables e below (T0.setTop (mkF m 8 #[.val (.ref a), .val (.ref r), .val (.int i)] [])) (T_10.setTop (mkF m 34 #[.val (.ref a), .val (.ref r), .val (.int i)] [(.int ((i + (1 : Int32)).toUInt32.toUInt16.toUInt32.toInt32))])) := fun tgt ktg => pre_10 tgt (by
    show Steps p.tables e below (T_10.setTop (mkF m 30 #[.val (.ref a), .val (.ref r), .val (.int i)] [])) _
    refine XS.iloadN X_10.here hx rfl (hb hby d8_30) rfl ?_
    show Steps p.tables e below (T_10.setTop (mkF m 31 #[.val (.ref a), .val (.ref r), .val (.int i)] [(.int i)])) _
    refine XS.iconst X_10.here hx rfl (hb hby d8_31) ?_
    show Steps p.tables e below (T_10.setTop (mkF m 32 #[.val (.ref a), .val (.ref r), .val (.int i)] [(.int (1 : Int32)), (.int i)])) _
    refine XS.iadd X_10.here hx rfl (hb hby d8_32) rfl ?_
    show Steps p.tables e below (T_10.setTop (mkF m 33 #[.val (.ref a), .val (.ref r), .val (.int i)] [(.int (i + (1 : Int32)))])) _
    refine XT.i2c X_10.here hx rfl (hb hby d8_33) rfl ?_
    exact ktg)
  have hic := own_i2c1 hi0 hi
  have pre_21 : Rch p.tables e below (T0.setTop (mkF m 8 #[.val (.ref a), .val (.ref r), .val (.int i)] [])) (T_10.setTop (mkF m 34 #[.val (.ref a), .val (.ref r), .val (.int i)] [(.int (i + 1))])) := fun tgt ktg => pre_20 tgt (by rw [hic]; exact ktg)
  have pre_22 : Rch p.tables e below (T0.setTop (mkF m 8 #[.val (.ref a), .val (.ref r), .val (.int i)] [])) (T_10.setTop (mkF m 8 #[.val (.ref a), .val (.ref r), .val (.int (i + 1))] [])) := fun tgt ktg => pre_21 tgt (by
    show Steps p.tables e below (T_10.setTop (mkF m 34 #[.val (.ref a), .val (.ref r), .val (.int i)] [(.int (i + 1))])) _
    refine XS.istoreN X_10.here hx rfl (hb hby d8_34) rfl (l' := #[.val (.ref a), .val (.ref r), .val (.int (i + 1))]) rfl ?_
    show Steps p.tables e below (T_10.setTop (mkF m 35 #[.val (.ref a), .val (.ref r), .val (.int (i + 1))] [])) _
    refine XS.goto X_10.here hx rfl (pc0 := 35) (pc' := 8) rfl (hb hby d8_35) (by decide) (by decide) ?_
    exact ktg)
  exact ⟨T_10, h_10, _, X_10, e_10, N_19, K_17, z_16, ⟨_, f_18, (by simpa using hus), own_inv hus hi0 hi hpl HI⟩, f_11, f_12, f_13, f_14, f_15, pre_22⟩
set_option maxRecDepth 65536 in
set_option maxHeartbeats 40000000 in
theorem pct1 {p : Program} {l : Launch} {e : Env} {s : State} {m : MethodId} {args : Array Value} {below : List Frame} {meth : Method} {c : Code} {T0 : State} {locs : List Loc} {cells slots : Nat} {Z : State} {a0 : Array Value} {h0 : Heap} {n0 : Nat} {v0 : Int32} {a b r : Addr} {kb kr : ClassId} {i : Int32}
    (X0 : Stand p l e ({ frames := 4, cells := 1, slots := 128, locals := 70 } : Room) s m args below meth c T0 locs cells slots) (hx : p.tables.exec = Jvm.exec) (hZ : Z.Warmed39 s.vm) (hw : ∀ d ∈ tables_1, d.before a0 Z = true) (hby : c.code = prog_152_method_8_code) (hml : c.maxLocals = 3) (hown : s.vm.findClass "com/example/termwell/termwell/tables/XmlText" = some m.cls) (hce : cells ≤ ({ frames := 4, cells := 1, slots := 128, locals := 70 } : Room).cells) (hsl : slots ≤ ({ frames := 4, cells := 1, slots := 128, locals := 70 } : Room).slots) (e0 : T0.heap = h0) (N0 : Fr n0 locs) (Z0 : n0 ≤ h0.size) (E1 : Exa Z h0 a "java/lang/String") (F1 : Fld Z h0 a "java/lang/String" "coder" "B" (.int (0 : Int32))) (F2 : Fld Z h0 a "java/lang/String" "value" "[B" (.ref b)) (A1 : Arv Z h0 b kb .byte (1 : Int32) [(.int v0)] (.int (0 : Int32))) (cs : Int32) (hcs : ¬ cs = 0) (S1 : Sta Z h0 "java/lang/String" "COMPACT_STRINGS" "Z" (.int cs)) (nar_ : a ≠ r) (nbr : b ≠ r) (gr : n0 ≤ r) (hi0 : ¬ i < 0) (hi : i < 128) (I0 : ∃ vs : List Value, Arv Z h0 r kr .boolean (128 : Int32) vs (.int (0 : Int32)) ∧ vs.length = 128 ∧ ∀ j : Int32, ¬ j < 0 → j < i → vs.getD j.toNatClampNeg (.int (0 : Int32)) = .int (pl [v0] j)) :
    ∃ (T' : State) (h' : Heap) (L' : List Loc), Stand p l e ({ frames := 4, cells := 1, slots := 128, locals := 70 } : Room) s m args below meth c T' L' cells slots ∧ T'.heap = h' ∧ Fr n0 L' ∧ Keep h0 h' [r] ∧ n0 ≤ h'.size ∧ (∃ vs : List Value, Arv Z h' r kr .boolean (128 : Int32) vs (.int (0 : Int32)) ∧ vs.length = 128 ∧ ∀ j : Int32, ¬ j < 0 → j < (i + 1) → vs.getD j.toNatClampNeg (.int (0 : Int32)) = .int (pl [v0] j)) ∧ (Exa Z h' a "java/lang/String") ∧ (Fld Z h' a "java/lang/String" "coder" "B" (.int (0 : Int32))) ∧ (Fld Z h' a "java/lang/String" "value" "[B" (.ref b)) ∧ (Arv Z h' b kb .byte (1 : Int32) [(.int v0)] (.int (0 : Int32))) ∧ (Sta Z h' "java/lang/String" "COMPACT_STRINGS" "Z" (.int cs)) ∧ Rch p.tables e below (T0.setTop (mkF m 8 #[.val (.ref a), .val (.ref r), .val (.int i)] [])) (T'.setTop (mkF m 8 #[.val (.ref a), .val (.ref r), .val (.int (i + 1))] [])) := by
  have K0 : Keep h0 h0 [r] := Keep.refl _ _
  have pre0 : Rch p.tables e below (T0.setTop (mkF m 8 #[.val (.ref a), .val (.ref r), .val (.int i)] [])) (T0.setTop (mkF m 8 #[.val (.ref a), .val (.ref r), .val (.int i)] [])) := fun tgt ktg => ktg
  obtain ⟨us, AR, hus, HI⟩ := I0
  have pre_1 : Rch p.tables e below (T0.setTop (mkF m 8 #[.val (.ref a), .val (.ref r), .val (.int i)] [])) (T0.setTop (mkF m 10 #[.val (.ref a), .val (.ref r), .val (.int i)] [(.ref r), (.int i)])) := fun tgt ktg => pre0 tgt (by
    show Steps p.tables e below (T0.setTop (mkF m 8 #[.val (.ref a), .val (.ref r), .val (.int i)] [])) _
    refine XS.iloadN X0.here hx rfl (hb hby d8_8) rfl ?_
    show Steps p.tables e below (T0.setTop (mkF m 9 #[.val (.ref a), .val (.ref r), .val (.int i)] [(.int i)])) _
    refine XS.aloadN X0.here hx rfl (hb hby d8_9) rfl rfl ?_
    exact ktg)
  obtain ⟨cl__2, Ar__2, q__2, S__2, N__2, H__2, G__2⟩ := id AR
  have pre_3 : Rch p.tables e below (T0.setTop (mkF m 8 #[.val (.ref a), .val (.ref r), .val (.int i)] [])) (T0.setTop (mkF m 11 #[.val (.ref a), .val (.ref r), .val (.int i)] [(.int (128 : Int32)), (.int i)])) := fun tgt ktg => pre_1 tgt (X0.arraylength hx (by rw [e0]; exact Ar__2.1) (State.isArrayOf_alike hZ.alike Ar__2.2.1) (g := (mkF m 10 #[.val (.ref a), .val (.ref r), .val (.int i)] [(.ref r), (.int i)])) rfl rfl (hb hby d8_10) _ (by rw [len_of S__2 N__2]; exact ktg))
  have pre_4 : Rch p.tables e below (T0.setTop (mkF m 8 #[.val (.ref a), .val (.ref r), .val (.int i)] [])) (T0.setTop (mkF m 18 #[.val (.ref a), .val (.ref r), .val (.int i)] [(.int i), (.ref a), (.int i), (.ref r)])) := fun tgt ktg => pre_3 tgt (by
    show Steps p.tables e below (T0.setTop (mkF m 11 #[.val (.ref a), .val (.ref r), .val (.int i)] [(.int (128 : Int32)), (.int i)])) _
    refine XS.icmpNo X0.here hx rfl (hb hby d8_11) rfl (tlt hi).2.1 ?_
    show Steps p.tables e below (T0.setTop (mkF m 14 #[.val (.ref a), .val (.ref r), .val (.int i)] [])) _
    refine XS.aloadN X0.here hx rfl (hb hby d8_14) rfl rfl ?_
    show Steps p.tables e below (T0.setTop (mkF m 15 #[.val (.ref a), .val (.ref r), .val (.int i)] [(.ref r)])) _
    refine XS.iloadN X0.here hx rfl (hb hby d8_15) rfl ?_
    show Steps p.tables e below (T0.setTop (mkF m 16 #[.val (.ref a), .val (.ref r), .val (.int i)] [(.int i), (.ref r)])) _
    refine XS.aloadN X0.here hx rfl (hb hby d8_16) rfl rfl ?_
    show Steps p.tables e below (T0.setTop (mkF m 17 #[.val (.ref a), .val (.ref r), .val (.int i)] [(.ref a), (.int i), (.ref r)])) _
    refine XS.iloadN X0.here hx rfl (hb hby d8_17) rfl ?_
    exact ktg)
  obtain ⟨cq_5, kq_5, q_5a, q_5b, q_5c⟩ := isOf hZ e0 E1
  obtain ⟨_, _, ⟨T_5, L_5, k_5, n_5⟩, -, X_5, ⟨Lc_5, hQ_5, l_5, y_5, z_5⟩, st_5⟩ := X0.virtualBack hx (y := (⟨"java/lang/String", "indexOf", "(I)I"⟩ : MethodName)) (z := (⟨"java/lang/String", "indexOf", "(I)I"⟩ : MethodName)) hown (mvT hZ (hw _ (List.mem_of_getElem? (i := 39) rfl))) (mvT hZ (hw _ (List.mem_of_getElem? (i := 40) rfl))) (notFace_of_selects (args := #[]) (mvT hZ (hw _ (List.mem_of_getElem? (i := 42) rfl)))) (mvT hZ (hw _ (List.mem_of_getElem? (i := 42) rfl))) (mvT hZ (hw _ (List.mem_of_getElem? (i := 41) rfl))) (by decide) (backOf (W := 2) (rmi11 l Z a0 hw [] a i v0 b kb h0 n0 Z0 E1 F1 F2 A1 cs hcs S1 hi0 (own_255 hi)) hZ (hw _ (List.mem_of_getElem? (i := 43) rfl)) (hw _ (List.mem_of_getElem? (i := 6) rfl)) (by decide) (by decide)) q_5a q_5c (g := (mkF m 18 #[.val (.ref a), .val (.ref r), .val (.int i)] [(.int i), (.ref a), (.int i), (.ref r)])) rfl (by rw [hml]; rfl) (Steps.refl _) (argsL := [(.int i)]) (rest := [(.int i), (.ref r)]) (lenOf pd_6 rfl) rfl (by show 2 * 0 + _ ≤ _; exact Nat.le_of_eq rfl) (hb hby d8_18) (fun _ _ => ⟨rfl, e0, hce, hsl⟩)
  dsimp only [Pt.U, Pt.locs, Pt.cells, Pt.slots] at X_5 l_5 y_5 z_5 st_5 hQ_5
  subst l_5 y_5 z_5
  obtain ⟨rfl, Nq_5, eh_5⟩ := hQ_5
  have N_6 := Fr.app N0 Nq_5
  have pre_5 : Rch p.tables e below (T0.setTop (mkF m 8 #[.val (.ref a), .val (.ref r), .val (.int i)] [])) (T_5.setTop (mkF m 21 #[.val (.ref a), .val (.ref r), .val (.int i)] [(.int (ixo [v0] (i.toInt8.toInt32) 0)), (.int i), (.ref r)])) := fun tgt ktg => pre_4 tgt (st_5.trans ktg)
  obtain ⟨pv, hv_pv⟩ : ∃ nm_ : Int32, nm_ = (if (ixo [v0] (i.toInt8.toInt32) 0) < (0 : Int32) then (1 : Int32) else (0 : Int32)) := ⟨_, rfl⟩
  have pre_8 : Rch p.tables e below (T0.setTop (mkF m 8 #[.val (.ref a), .val (.ref r), .val (.int i)] [])) (T_5.setTop (mkF m 29 #[.val (.ref a), .val (.ref r), .val (.int i)] [(.int pv), (.int i), (.ref r)])) := fun tgt ktg => pre_5 tgt (by
    by_cases q_7 : (ixo [v0] (i.toInt8.toInt32) 0) < (0 : Int32)
    · skip
      show Steps p.tables e below (T_5.setTop (mkF m 21 #[.val (.ref a), .val (.ref r), .val (.int i)] [(.int (ixo [v0] (i.toInt8.toInt32) 0)), (.int i), (.ref r)])) _
      refine XS.ifNo X_5.here hx rfl (hb hby d8_21) rfl ((if0 _ _).trans (tlt q_7).2.1) ?_
      show Steps p.tables e below (T_5.setTop (mkF m 24 #[.val (.ref a), .val (.ref r), .val (.int i)] [(.int i), (.ref r)])) _
      refine XS.iconst X_5.here hx rfl (hb hby d8_24) ?_
      show Steps p.tables e below (T_5.setTop (mkF m 25 #[.val (.ref a), .val (.ref r), .val (.int i)] [(.int (1 : Int32)), (.int i), (.ref r)])) _
      refine XS.goto X_5.here hx rfl (pc0 := 25) (pc' := 29) rfl (hb hby d8_25) (by decide) (by decide) ?_
      have ev_pv : pv = (1 : Int32) := by rw [hv_pv, if_pos q_7]
      rw [ev_pv] at ktg
      exact ktg
    · skip
      show Steps p.tables e below (T_5.setTop (mkF m 21 #[.val (.ref a), .val (.ref r), .val (.int i)] [(.int (ixo [v0] (i.toInt8.toInt32) 0)), (.int i), (.ref r)])) _
      refine XS.ifYes X_5.here hx rfl (pc0 := 21) (pc' := 28) rfl (hb hby d8_21) rfl ((if0 _ _).trans (flt q_7).2.1) (by decide) (by decide) ?_
      show Steps p.tables e below (T_5.setTop (mkF m 28 #[.val (.ref a), .val (.ref r), .val (.int i)] [(.int i), (.ref r)])) _
      refine XS.iconst X_5.here hx rfl (hb hby d8_28) ?_
      have ev_pv : pv = (0 : Int32) := by rw [hv_pv, if_neg q_7]
      rw [ev_pv] at ktg
      exact ktg
    done)
  have hpl : pv = pl [v0] i := by rw [hv_pv]; rfl
  obtain ⟨cl__9, Ar__9, q__9, S__9, N__9, H__9, G__9⟩ := id AR
  have hin__9 : ¬ (i < 0 ∨ cl__9.slots.size ≤ (i).toNatClampNeg) := inb_of S__9 ⟨hi0, hi⟩
  obtain ⟨T_10, h_10, X_10, e_10, W_10, st_10⟩ := stZ X_5 hx hZ eh_5 Ar__9 (j := i) hin__9 (g := (mkF m 29 #[.val (.ref a), .val (.ref r), .val (.int i)] [(.int pv), (.int i), (.ref r)])) rfl rfl (hb hby d8_29)
  have pre_10 : Rch p.tables e below (T0.setTop (mkF m 8 #[.val (.ref a), .val (.ref r), .val (.int i)] [])) (T_10.setTop (mkF m 30 #[.val (.ref a), .val (.ref r), .val (.int i)] [])) := fun tgt ktg => pre_8 tgt (st_10 tgt ktg)
  have f_11 : Exa Z h_10 a "java/lang/String" := E1.wr W_10
  have f_12 : Fld Z h_10 a "java/lang/String" "coder" "B" (.int (0 : Int32)) := F1.other W_10 (Or.inl nar_)
  have f_13 : Fld Z h_10 a "java/lang/String" "value" "[B" (.ref b) := F2.other W_10 (Or.inl nar_)
  have f_14 : Arv Z h_10 b kb .byte (1 : Int32) [(.int v0)] (.int (0 : Int32)) := A1.other W_10 nbr
  have f_15 : Sta Z h_10 "java/lang/String" "COMPACT_STRINGS" "Z" (.int cs) := S1.wr W_10
  have z_16 : n0 ≤ h_10.size := Nat.le_trans Z0 (Keep.of_wr W_10).1
  have K_17 : Keep h0 h_10 [r] := K0.wr W_10 (Or.inl (List.mem_of_getElem? (i := 0) rfl))
  have f_18 : Arv Z h_10 r kr .boolean (128 : Int32) (us.set i.toNatClampNeg (.int (nar .boolean pv))) (.int (0 : Int32)) := Arv.set Ar__9 q__9 S__9 N__9 H__9 G__9 (fits_nar_bool _) W_10 i.toNatClampNeg rfl (by rw [hus]; exact own_128 ⟨hi0, hi⟩)
  have N_19 := Fr.snoc X_10 N_6 gr
  have pre_20 : Rch p.tables e below (T0.setTop (mkF m 8 #[.val (.ref a), .val (.ref r), .val (.int i)] [])) (T_10.setTop (mkF m 34 #[.val (.ref a), .val (.ref r), .val (.int i)] [(.int ((i + (1 : Int32)).toUInt32.toUInt16.toUInt32.toInt32))])) := fun tgt ktg => pre_10 tgt (by
    show Steps p.tables e below (T_10.setTop (mkF m 30 #[.val (.ref a), .val (.ref r), .val (.int i)] [])) _
    refine XS.iloadN X_10.here hx rfl (hb hby d8_30) rfl ?_
    show Steps p.tables e below (T_10.setTop (mkF m 31 #[.val (.ref a), .val (.ref r), .val (.int i)] [(.int i)])) _
    refine XS.iconst X_10.here hx rfl (hb hby d8_31) ?_
    show Steps p.tables e below (T_10.setTop (mkF m 32 #[.val (.ref a), .val (.ref r), .val (.int i)] [(.int (1 : Int32)), (.int i)])) _
    refine XS.iadd X_10.here hx rfl (hb hby d8_32) rfl ?_
    show Steps p.tables e below (T_10.setTop (mkF m 33 #[.val (.ref a), .val (.ref r), .val (.int i)] [(.int (i + (1 : Int32)))])) _
    refine XT.i2c X_10.here hx rfl (hb hby d8_33) rfl ?_
    exact ktg)
  have hic := own_i2c1 hi0 hi
  have pre_21 : Rch p.tables e below (T0.setTop (mkF m 8 #[.val (.ref a), .val (.ref r), .val (.int i)] [])) (T_10.setTop (mkF m 34 #[.val (.ref a), .val (.ref r), .val (.int i)] [(.int (i + 1))])) := fun tgt ktg => pre_20 tgt (by rw [hic]; exact ktg)
  have pre_22 : Rch p.tables e below (T0.setTop (mkF m 8 #[.val (.ref a), .val (.ref r), .val (.int i)] [])) (T_10.setTop (mkF m 8 #[.val (.ref a), .val (.ref r), .val (.int (i + 1))] [])) := fun tgt ktg => pre_21 tgt (by
    show Steps p.tables e below (T_10.setTop (mkF m 34 #[.val (.ref a), .val (.ref r), .val (.int i)] [(.int (i + 1))])) _
    refine XS.istoreN X_10.here hx rfl (hb hby d8_34) rfl (l' := #[.val (.ref a), .val (.ref r), .val (.int (i + 1))]) rfl ?_
    show Steps p.tables e below (T_10.setTop (mkF m 35 #[.val (.ref a), .val (.ref r), .val (.int (i + 1))] [])) _
    refine XS.goto X_10.here hx rfl (pc0 := 35) (pc' := 8) rfl (hb hby d8_35) (by decide) (by decide) ?_
    exact ktg)
  exact ⟨T_10, h_10, _, X_10, e_10, N_19, K_17, z_16, ⟨_, f_18, (by simpa using hus), own_inv hus hi0 hi hpl HI⟩, f_11, f_12, f_13, f_14, f_15, pre_22⟩
set_option maxRecDepth 65536 in
set_option maxHeartbeats 40000000 in
theorem pct2 {p : Program} {l : Launch} {e : Env} {s : State} {m : MethodId} {args : Array Value} {below : List Frame} {meth : Method} {c : Code} {T0 : State} {locs : List Loc} {cells slots : Nat} {Z : State} {a0 : Array Value} {h0 : Heap} {n0 : Nat} {v0 : Int32} {v1 : Int32} {a b r : Addr} {kb kr : ClassId} {i : Int32}
    (X0 : Stand p l e ({ frames := 4, cells := 1, slots := 128, locals := 70 } : Room) s m args below meth c T0 locs cells slots) (hx : p.tables.exec = Jvm.exec) (hZ : Z.Warmed39 s.vm) (hw : ∀ d ∈ tables_1, d.before a0 Z = true) (hby : c.code = prog_152_method_8_code) (hml : c.maxLocals = 3) (hown : s.vm.findClass "com/example/termwell/termwell/tables/XmlText" = some m.cls) (hce : cells ≤ ({ frames := 4, cells := 1, slots := 128, locals := 70 } : Room).cells) (hsl : slots ≤ ({ frames := 4, cells := 1, slots := 128, locals := 70 } : Room).slots) (e0 : T0.heap = h0) (N0 : Fr n0 locs) (Z0 : n0 ≤ h0.size) (E1 : Exa Z h0 a "java/lang/String") (F1 : Fld Z h0 a "java/lang/String" "coder" "B" (.int (0 : Int32))) (F2 : Fld Z h0 a "java/lang/String" "value" "[B" (.ref b)) (A1 : Arv Z h0 b kb .byte (2 : Int32) [(.int v0), (.int v1)] (.int (0 : Int32))) (cs : Int32) (hcs : ¬ cs = 0) (S1 : Sta Z h0 "java/lang/String" "COMPACT_STRINGS" "Z" (.int cs)) (nar_ : a ≠ r) (nbr : b ≠ r) (gr : n0 ≤ r) (hi0 : ¬ i < 0) (hi : i < 128) (I0 : ∃ vs : List Value, Arv Z h0 r kr .boolean (128 : Int32) vs (.int (0 : Int32)) ∧ vs.length = 128 ∧ ∀ j : Int32, ¬ j < 0 → j < i → vs.getD j.toNatClampNeg (.int (0 : Int32)) = .int (pl [v0, v1] j)) :
    ∃ (T' : State) (h' : Heap) (L' : List Loc), Stand p l e ({ frames := 4, cells := 1, slots := 128, locals := 70 } : Room) s m args below meth c T' L' cells slots ∧ T'.heap = h' ∧ Fr n0 L' ∧ Keep h0 h' [r] ∧ n0 ≤ h'.size ∧ (∃ vs : List Value, Arv Z h' r kr .boolean (128 : Int32) vs (.int (0 : Int32)) ∧ vs.length = 128 ∧ ∀ j : Int32, ¬ j < 0 → j < (i + 1) → vs.getD j.toNatClampNeg (.int (0 : Int32)) = .int (pl [v0, v1] j)) ∧ (Exa Z h' a "java/lang/String") ∧ (Fld Z h' a "java/lang/String" "coder" "B" (.int (0 : Int32))) ∧ (Fld Z h' a "java/lang/String" "value" "[B" (.ref b)) ∧ (Arv Z h' b kb .byte (2 : Int32) [(.int v0), (.int v1)] (.int (0 : Int32))) ∧ (Sta Z h' "java/lang/String" "COMPACT_STRINGS" "Z" (.int cs)) ∧ Rch p.tables e below (T0.setTop (mkF m 8 #[.val (.ref a), .val (.ref r), .val (.int i)] [])) (T'.setTop (mkF m 8 #[.val (.ref a), .val (.ref r), .val (.int (i + 1))] [])) := by
  have K0 : Keep h0 h0 [r] := Keep.refl _ _
  have pre0 : Rch p.tables e below (T0.setTop (mkF m 8 #[.val (.ref a), .val (.ref r), .val (.int i)] [])) (T0.setTop (mkF m 8 #[.val (.ref a), .val (.ref r), .val (.int i)] [])) := fun tgt ktg => ktg
  obtain ⟨us, AR, hus, HI⟩ := I0
  have pre_1 : Rch p.tables e below (T0.setTop (mkF m 8 #[.val (.ref a), .val (.ref r), .val (.int i)] [])) (T0.setTop (mkF m 10 #[.val (.ref a), .val (.ref r), .val (.int i)] [(.ref r), (.int i)])) := fun tgt ktg => pre0 tgt (by
    show Steps p.tables e below (T0.setTop (mkF m 8 #[.val (.ref a), .val (.ref r), .val (.int i)] [])) _
    refine XS.iloadN X0.here hx rfl (hb hby d8_8) rfl ?_
    show Steps p.tables e below (T0.setTop (mkF m 9 #[.val (.ref a), .val (.ref r), .val (.int i)] [(.int i)])) _
    refine XS.aloadN X0.here hx rfl (hb hby d8_9) rfl rfl ?_
    exact ktg)
  obtain ⟨cl__2, Ar__2, q__2, S__2, N__2, H__2, G__2⟩ := id AR
  have pre_3 : Rch p.tables e below (T0.setTop (mkF m 8 #[.val (.ref a), .val (.ref r), .val (.int i)] [])) (T0.setTop (mkF m 11 #[.val (.ref a), .val (.ref r), .val (.int i)] [(.int (128 : Int32)), (.int i)])) := fun tgt ktg => pre_1 tgt (X0.arraylength hx (by rw [e0]; exact Ar__2.1) (State.isArrayOf_alike hZ.alike Ar__2.2.1) (g := (mkF m 10 #[.val (.ref a), .val (.ref r), .val (.int i)] [(.ref r), (.int i)])) rfl rfl (hb hby d8_10) _ (by rw [len_of S__2 N__2]; exact ktg))
  have pre_4 : Rch p.tables e below (T0.setTop (mkF m 8 #[.val (.ref a), .val (.ref r), .val (.int i)] [])) (T0.setTop (mkF m 18 #[.val (.ref a), .val (.ref r), .val (.int i)] [(.int i), (.ref a), (.int i), (.ref r)])) := fun tgt ktg => pre_3 tgt (by
    show Steps p.tables e below (T0.setTop (mkF m 11 #[.val (.ref a), .val (.ref r), .val (.int i)] [(.int (128 : Int32)), (.int i)])) _
    refine XS.icmpNo X0.here hx rfl (hb hby d8_11) rfl (tlt hi).2.1 ?_
    show Steps p.tables e below (T0.setTop (mkF m 14 #[.val (.ref a), .val (.ref r), .val (.int i)] [])) _
    refine XS.aloadN X0.here hx rfl (hb hby d8_14) rfl rfl ?_
    show Steps p.tables e below (T0.setTop (mkF m 15 #[.val (.ref a), .val (.ref r), .val (.int i)] [(.ref r)])) _
    refine XS.iloadN X0.here hx rfl (hb hby d8_15) rfl ?_
    show Steps p.tables e below (T0.setTop (mkF m 16 #[.val (.ref a), .val (.ref r), .val (.int i)] [(.int i), (.ref r)])) _
    refine XS.aloadN X0.here hx rfl (hb hby d8_16) rfl rfl ?_
    show Steps p.tables e below (T0.setTop (mkF m 17 #[.val (.ref a), .val (.ref r), .val (.int i)] [(.ref a), (.int i), (.ref r)])) _
    refine XS.iloadN X0.here hx rfl (hb hby d8_17) rfl ?_
    exact ktg)
  obtain ⟨cq_5, kq_5, q_5a, q_5b, q_5c⟩ := isOf hZ e0 E1
  obtain ⟨_, _, ⟨T_5, L_5, k_5, n_5⟩, -, X_5, ⟨Lc_5, hQ_5, l_5, y_5, z_5⟩, st_5⟩ := X0.virtualBack hx (y := (⟨"java/lang/String", "indexOf", "(I)I"⟩ : MethodName)) (z := (⟨"java/lang/String", "indexOf", "(I)I"⟩ : MethodName)) hown (mvT hZ (hw _ (List.mem_of_getElem? (i := 39) rfl))) (mvT hZ (hw _ (List.mem_of_getElem? (i := 40) rfl))) (notFace_of_selects (args := #[]) (mvT hZ (hw _ (List.mem_of_getElem? (i := 42) rfl)))) (mvT hZ (hw _ (List.mem_of_getElem? (i := 42) rfl))) (mvT hZ (hw _ (List.mem_of_getElem? (i := 41) rfl))) (by decide) (backOf (W := 2) (rmi12 l Z a0 hw [] a i v0 v1 b kb h0 n0 Z0 E1 F1 F2 A1 cs hcs S1 hi0 (own_255 hi)) hZ (hw _ (List.mem_of_getElem? (i := 43) rfl)) (hw _ (List.mem_of_getElem? (i := 6) rfl)) (by decide) (by decide)) q_5a q_5c (g := (mkF m 18 #[.val (.ref a), .val (.ref r), .val (.int i)] [(.int i), (.ref a), (.int i), (.ref r)])) rfl (by rw [hml]; rfl) (Steps.refl _) (argsL := [(.int i)]) (rest := [(.int i), (.ref r)]) (lenOf pd_6 rfl) rfl (by show 2 * 0 + _ ≤ _; exact Nat.le_of_eq rfl) (hb hby d8_18) (fun _ _ => ⟨rfl, e0, hce, hsl⟩)
  dsimp only [Pt.U, Pt.locs, Pt.cells, Pt.slots] at X_5 l_5 y_5 z_5 st_5 hQ_5
  subst l_5 y_5 z_5
  obtain ⟨rfl, Nq_5, eh_5⟩ := hQ_5
  have N_6 := Fr.app N0 Nq_5
  have pre_5 : Rch p.tables e below (T0.setTop (mkF m 8 #[.val (.ref a), .val (.ref r), .val (.int i)] [])) (T_5.setTop (mkF m 21 #[.val (.ref a), .val (.ref r), .val (.int i)] [(.int (ixo [v0, v1] (i.toInt8.toInt32) 0)), (.int i), (.ref r)])) := fun tgt ktg => pre_4 tgt (st_5.trans ktg)
  obtain ⟨pv, hv_pv⟩ : ∃ nm_ : Int32, nm_ = (if (ixo [v0, v1] (i.toInt8.toInt32) 0) < (0 : Int32) then (1 : Int32) else (0 : Int32)) := ⟨_, rfl⟩
  have pre_8 : Rch p.tables e below (T0.setTop (mkF m 8 #[.val (.ref a), .val (.ref r), .val (.int i)] [])) (T_5.setTop (mkF m 29 #[.val (.ref a), .val (.ref r), .val (.int i)] [(.int pv), (.int i), (.ref r)])) := fun tgt ktg => pre_5 tgt (by
    by_cases q_7 : (ixo [v0, v1] (i.toInt8.toInt32) 0) < (0 : Int32)
    · skip
      show Steps p.tables e below (T_5.setTop (mkF m 21 #[.val (.ref a), .val (.ref r), .val (.int i)] [(.int (ixo [v0, v1] (i.toInt8.toInt32) 0)), (.int i), (.ref r)])) _
      refine XS.ifNo X_5.here hx rfl (hb hby d8_21) rfl ((if0 _ _).trans (tlt q_7).2.1) ?_
      show Steps p.tables e below (T_5.setTop (mkF m 24 #[.val (.ref a), .val (.ref r), .val (.int i)] [(.int i), (.ref r)])) _
      refine XS.iconst X_5.here hx rfl (hb hby d8_24) ?_
      show Steps p.tables e below (T_5.setTop (mkF m 25 #[.val (.ref a), .val (.ref r), .val (.int i)] [(.int (1 : Int32)), (.int i), (.ref r)])) _
      refine XS.goto X_5.here hx rfl (pc0 := 25) (pc' := 29) rfl (hb hby d8_25) (by decide) (by decide) ?_
      have ev_pv : pv = (1 : Int32) := by rw [hv_pv, if_pos q_7]
      rw [ev_pv] at ktg
      exact ktg
    · skip
      show Steps p.tables e below (T_5.setTop (mkF m 21 #[.val (.ref a), .val (.ref r), .val (.int i)] [(.int (ixo [v0, v1] (i.toInt8.toInt32) 0)), (.int i), (.ref r)])) _
      refine XS.ifYes X_5.here hx rfl (pc0 := 21) (pc' := 28) rfl (hb hby d8_21) rfl ((if0 _ _).trans (flt q_7).2.1) (by decide) (by decide) ?_
      show Steps p.tables e below (T_5.setTop (mkF m 28 #[.val (.ref a), .val (.ref r), .val (.int i)] [(.int i), (.ref r)])) _
      refine XS.iconst X_5.here hx rfl (hb hby d8_28) ?_
      have ev_pv : pv = (0 : Int32) := by rw [hv_pv, if_neg q_7]
      rw [ev_pv] at ktg
      exact ktg
    done)
  have hpl : pv = pl [v0, v1] i := by rw [hv_pv]; rfl
  obtain ⟨cl__9, Ar__9, q__9, S__9, N__9, H__9, G__9⟩ := id AR
  have hin__9 : ¬ (i < 0 ∨ cl__9.slots.size ≤ (i).toNatClampNeg) := inb_of S__9 ⟨hi0, hi⟩
  obtain ⟨T_10, h_10, X_10, e_10, W_10, st_10⟩ := stZ X_5 hx hZ eh_5 Ar__9 (j := i) hin__9 (g := (mkF m 29 #[.val (.ref a), .val (.ref r), .val (.int i)] [(.int pv), (.int i), (.ref r)])) rfl rfl (hb hby d8_29)
  have pre_10 : Rch p.tables e below (T0.setTop (mkF m 8 #[.val (.ref a), .val (.ref r), .val (.int i)] [])) (T_10.setTop (mkF m 30 #[.val (.ref a), .val (.ref r), .val (.int i)] [])) := fun tgt ktg => pre_8 tgt (st_10 tgt ktg)
  have f_11 : Exa Z h_10 a "java/lang/String" := E1.wr W_10
  have f_12 : Fld Z h_10 a "java/lang/String" "coder" "B" (.int (0 : Int32)) := F1.other W_10 (Or.inl nar_)
  have f_13 : Fld Z h_10 a "java/lang/String" "value" "[B" (.ref b) := F2.other W_10 (Or.inl nar_)
  have f_14 : Arv Z h_10 b kb .byte (2 : Int32) [(.int v0), (.int v1)] (.int (0 : Int32)) := A1.other W_10 nbr
  have f_15 : Sta Z h_10 "java/lang/String" "COMPACT_STRINGS" "Z" (.int cs) := S1.wr W_10
  have z_16 : n0 ≤ h_10.size := Nat.le_trans Z0 (Keep.of_wr W_10).1
  have K_17 : Keep h0 h_10 [r] := K0.wr W_10 (Or.inl (List.mem_of_getElem? (i := 0) rfl))
  have f_18 : Arv Z h_10 r kr .boolean (128 : Int32) (us.set i.toNatClampNeg (.int (nar .boolean pv))) (.int (0 : Int32)) := Arv.set Ar__9 q__9 S__9 N__9 H__9 G__9 (fits_nar_bool _) W_10 i.toNatClampNeg rfl (by rw [hus]; exact own_128 ⟨hi0, hi⟩)
  have N_19 := Fr.snoc X_10 N_6 gr
  have pre_20 : Rch p.tables e below (T0.setTop (mkF m 8 #[.val (.ref a), .val (.ref r), .val (.int i)] [])) (T_10.setTop (mkF m 34 #[.val (.ref a), .val (.ref r), .val (.int i)] [(.int ((i + (1 : Int32)).toUInt32.toUInt16.toUInt32.toInt32))])) := fun tgt ktg => pre_10 tgt (by
    show Steps p.tables e below (T_10.setTop (mkF m 30 #[.val (.ref a), .val (.ref r), .val (.int i)] [])) _
    refine XS.iloadN X_10.here hx rfl (hb hby d8_30) rfl ?_
    show Steps p.tables e below (T_10.setTop (mkF m 31 #[.val (.ref a), .val (.ref r), .val (.int i)] [(.int i)])) _
    refine XS.iconst X_10.here hx rfl (hb hby d8_31) ?_
    show Steps p.tables e below (T_10.setTop (mkF m 32 #[.val (.ref a), .val (.ref r), .val (.int i)] [(.int (1 : Int32)), (.int i)])) _
    refine XS.iadd X_10.here hx rfl (hb hby d8_32) rfl ?_
    show Steps p.tables e below (T_10.setTop (mkF m 33 #[.val (.ref a), .val (.ref r), .val (.int i)] [(.int (i + (1 : Int32)))])) _
    refine XT.i2c X_10.here hx rfl (hb hby d8_33) rfl ?_
    exact ktg)
  have hic := own_i2c1 hi0 hi
  have pre_21 : Rch p.tables e below (T0.setTop (mkF m 8 #[.val (.ref a), .val (.ref r), .val (.int i)] [])) (T_10.setTop (mkF m 34 #[.val (.ref a), .val (.ref r), .val (.int i)] [(.int (i + 1))])) := fun tgt ktg => pre_20 tgt (by rw [hic]; exact ktg)
  have pre_22 : Rch p.tables e below (T0.setTop (mkF m 8 #[.val (.ref a), .val (.ref r), .val (.int i)] [])) (T_10.setTop (mkF m 8 #[.val (.ref a), .val (.ref r), .val (.int (i + 1))] [])) := fun tgt ktg => pre_21 tgt (by
    show Steps p.tables e below (T_10.setTop (mkF m 34 #[.val (.ref a), .val (.ref r), .val (.int i)] [(.int (i + 1))])) _
    refine XS.istoreN X_10.here hx rfl (hb hby d8_34) rfl (l' := #[.val (.ref a), .val (.ref r), .val (.int (i + 1))]) rfl ?_
    show Steps p.tables e below (T_10.setTop (mkF m 35 #[.val (.ref a), .val (.ref r), .val (.int (i + 1))] [])) _
    refine XS.goto X_10.here hx rfl (pc0 := 35) (pc' := 8) rfl (hb hby d8_35) (by decide) (by decide) ?_
    exact ktg)
  exact ⟨T_10, h_10, _, X_10, e_10, N_19, K_17, z_16, ⟨_, f_18, (by simpa using hus), own_inv hus hi0 hi hpl HI⟩, f_11, f_12, f_13, f_14, f_15, pre_22⟩
set_option maxRecDepth 65536 in
set_option maxHeartbeats 40000000 in
theorem pct3 {p : Program} {l : Launch} {e : Env} {s : State} {m : MethodId} {args : Array Value} {below : List Frame} {meth : Method} {c : Code} {T0 : State} {locs : List Loc} {cells slots : Nat} {Z : State} {a0 : Array Value} {h0 : Heap} {n0 : Nat} {v0 : Int32} {v1 : Int32} {v2 : Int32} {a b r : Addr} {kb kr : ClassId} {i : Int32}
    (X0 : Stand p l e ({ frames := 4, cells := 1, slots := 128, locals := 70 } : Room) s m args below meth c T0 locs cells slots) (hx : p.tables.exec = Jvm.exec) (hZ : Z.Warmed39 s.vm) (hw : ∀ d ∈ tables_1, d.before a0 Z = true) (hby : c.code = prog_152_method_8_code) (hml : c.maxLocals = 3) (hown : s.vm.findClass "com/example/termwell/termwell/tables/XmlText" = some m.cls) (hce : cells ≤ ({ frames := 4, cells := 1, slots := 128, locals := 70 } : Room).cells) (hsl : slots ≤ ({ frames := 4, cells := 1, slots := 128, locals := 70 } : Room).slots) (e0 : T0.heap = h0) (N0 : Fr n0 locs) (Z0 : n0 ≤ h0.size) (E1 : Exa Z h0 a "java/lang/String") (F1 : Fld Z h0 a "java/lang/String" "coder" "B" (.int (0 : Int32))) (F2 : Fld Z h0 a "java/lang/String" "value" "[B" (.ref b)) (A1 : Arv Z h0 b kb .byte (3 : Int32) [(.int v0), (.int v1), (.int v2)] (.int (0 : Int32))) (cs : Int32) (hcs : ¬ cs = 0) (S1 : Sta Z h0 "java/lang/String" "COMPACT_STRINGS" "Z" (.int cs)) (nar_ : a ≠ r) (nbr : b ≠ r) (gr : n0 ≤ r) (hi0 : ¬ i < 0) (hi : i < 128) (I0 : ∃ vs : List Value, Arv Z h0 r kr .boolean (128 : Int32) vs (.int (0 : Int32)) ∧ vs.length = 128 ∧ ∀ j : Int32, ¬ j < 0 → j < i → vs.getD j.toNatClampNeg (.int (0 : Int32)) = .int (pl [v0, v1, v2] j)) :
    ∃ (T' : State) (h' : Heap) (L' : List Loc), Stand p l e ({ frames := 4, cells := 1, slots := 128, locals := 70 } : Room) s m args below meth c T' L' cells slots ∧ T'.heap = h' ∧ Fr n0 L' ∧ Keep h0 h' [r] ∧ n0 ≤ h'.size ∧ (∃ vs : List Value, Arv Z h' r kr .boolean (128 : Int32) vs (.int (0 : Int32)) ∧ vs.length = 128 ∧ ∀ j : Int32, ¬ j < 0 → j < (i + 1) → vs.getD j.toNatClampNeg (.int (0 : Int32)) = .int (pl [v0, v1, v2] j)) ∧ (Exa Z h' a "java/lang/String") ∧ (Fld Z h' a "java/lang/String" "coder" "B" (.int (0 : Int32))) ∧ (Fld Z h' a "java/lang/String" "value" "[B" (.ref b)) ∧ (Arv Z h' b kb .byte (3 : Int32) [(.int v0), (.int v1), (.int v2)] (.int (0 : Int32))) ∧ (Sta Z h' "java/lang/String" "COMPACT_STRINGS" "Z" (.int cs)) ∧ Rch p.tables e below (T0.setTop (mkF m 8 #[.val (.ref a), .val (.ref r), .val (.int i)] [])) (T'.setTop (mkF m 8 #[.val (.ref a), .val (.ref r), .val (.int (i + 1))] [])) := by
  have K0 : Keep h0 h0 [r] := Keep.refl _ _
  have pre0 : Rch p.tables e below (T0.setTop (mkF m 8 #[.val (.ref a), .val (.ref r), .val (.int i)] [])) (T0.setTop (mkF m 8 #[.val (.ref a), .val (.ref r), .val (.int i)] [])) := fun tgt ktg => ktg
  obtain ⟨us, AR, hus, HI⟩ := I0
  have pre_1 : Rch p.tables e below (T0.setTop (mkF m 8 #[.val (.ref a), .val (.ref r), .val (.int i)] [])) (T0.setTop (mkF m 10 #[.val (.ref a), .val (.ref r), .val (.int i)] [(.ref r), (.int i)])) := fun tgt ktg => pre0 tgt (by
    show Steps p.tables e below (T0.setTop (mkF m 8 #[.val (.ref a), .val (.ref r), .val (.int i)] [])) _
    refine XS.iloadN X0.here hx rfl (hb hby d8_8) rfl ?_
    show Steps p.tables e below (T0.setTop (mkF m 9 #[.val (.ref a), .val (.ref r), .val (.int i)] [(.int i)])) _
    refine XS.aloadN X0.here hx rfl (hb hby d8_9) rfl rfl ?_
    exact ktg)
  obtain ⟨cl__2, Ar__2, q__2, S__2, N__2, H__2, G__2⟩ := id AR
  have pre_3 : Rch p.tables e below (T0.setTop (mkF m 8 #[.val (.ref a), .val (.ref r), .val (.int i)] [])) (T0.setTop (mkF m 11 #[.val (.ref a), .val (.ref r), .val (.int i)] [(.int (128 : Int32)), (.int i)])) := fun tgt ktg => pre_1 tgt (X0.arraylength hx (by rw [e0]; exact Ar__2.1) (State.isArrayOf_alike hZ.alike Ar__2.2.1) (g := (mkF m 10 #[.val (.ref a), .val (.ref r), .val (.int i)] [(.ref r), (.int i)])) rfl rfl (hb hby d8_10) _ (by rw [len_of S__2 N__2]; exact ktg))
  have pre_4 : Rch p.tables e below (T0.setTop (mkF m 8 #[.val (.ref a), .val (.ref r), .val (.int i)] [])) (T0.setTop (mkF m 18 #[.val (.ref a), .val (.ref r), .val (.int i)] [(.int i), (.ref a), (.int i), (.ref r)])) := fun tgt ktg => pre_3 tgt (by
    show Steps p.tables e below (T0.setTop (mkF m 11 #[.val (.ref a), .val (.ref r), .val (.int i)] [(.int (128 : Int32)), (.int i)])) _
    refine XS.icmpNo X0.here hx rfl (hb hby d8_11) rfl (tlt hi).2.1 ?_
    show Steps p.tables e below (T0.setTop (mkF m 14 #[.val (.ref a), .val (.ref r), .val (.int i)] [])) _
    refine XS.aloadN X0.here hx rfl (hb hby d8_14) rfl rfl ?_
    show Steps p.tables e below (T0.setTop (mkF m 15 #[.val (.ref a), .val (.ref r), .val (.int i)] [(.ref r)])) _
    refine XS.iloadN X0.here hx rfl (hb hby d8_15) rfl ?_
    show Steps p.tables e below (T0.setTop (mkF m 16 #[.val (.ref a), .val (.ref r), .val (.int i)] [(.int i), (.ref r)])) _
    refine XS.aloadN X0.here hx rfl (hb hby d8_16) rfl rfl ?_
    show Steps p.tables e below (T0.setTop (mkF m 17 #[.val (.ref a), .val (.ref r), .val (.int i)] [(.ref a), (.int i), (.ref r)])) _
    refine XS.iloadN X0.here hx rfl (hb hby d8_17) rfl ?_
    exact ktg)
  obtain ⟨cq_5, kq_5, q_5a, q_5b, q_5c⟩ := isOf hZ e0 E1
  obtain ⟨_, _, ⟨T_5, L_5, k_5, n_5⟩, -, X_5, ⟨Lc_5, hQ_5, l_5, y_5, z_5⟩, st_5⟩ := X0.virtualBack hx (y := (⟨"java/lang/String", "indexOf", "(I)I"⟩ : MethodName)) (z := (⟨"java/lang/String", "indexOf", "(I)I"⟩ : MethodName)) hown (mvT hZ (hw _ (List.mem_of_getElem? (i := 39) rfl))) (mvT hZ (hw _ (List.mem_of_getElem? (i := 40) rfl))) (notFace_of_selects (args := #[]) (mvT hZ (hw _ (List.mem_of_getElem? (i := 42) rfl)))) (mvT hZ (hw _ (List.mem_of_getElem? (i := 42) rfl))) (mvT hZ (hw _ (List.mem_of_getElem? (i := 41) rfl))) (by decide) (backOf (W := 2) (rmi13 l Z a0 hw [] a i v0 v1 v2 b kb h0 n0 Z0 E1 F1 F2 A1 cs hcs S1 hi0 (own_255 hi)) hZ (hw _ (List.mem_of_getElem? (i := 43) rfl)) (hw _ (List.mem_of_getElem? (i := 6) rfl)) (by decide) (by decide)) q_5a q_5c (g := (mkF m 18 #[.val (.ref a), .val (.ref r), .val (.int i)] [(.int i), (.ref a), (.int i), (.ref r)])) rfl (by rw [hml]; rfl) (Steps.refl _) (argsL := [(.int i)]) (rest := [(.int i), (.ref r)]) (lenOf pd_6 rfl) rfl (by show 2 * 0 + _ ≤ _; exact Nat.le_of_eq rfl) (hb hby d8_18) (fun _ _ => ⟨rfl, e0, hce, hsl⟩)
  dsimp only [Pt.U, Pt.locs, Pt.cells, Pt.slots] at X_5 l_5 y_5 z_5 st_5 hQ_5
  subst l_5 y_5 z_5
  obtain ⟨rfl, Nq_5, eh_5⟩ := hQ_5
  have N_6 := Fr.app N0 Nq_5
  have pre_5 : Rch p.tables e below (T0.setTop (mkF m 8 #[.val (.ref a), .val (.ref r), .val (.int i)] [])) (T_5.setTop (mkF m 21 #[.val (.ref a), .val (.ref r), .val (.int i)] [(.int (ixo [v0, v1, v2] (i.toInt8.toInt32) 0)), (.int i), (.ref r)])) := fun tgt ktg => pre_4 tgt (st_5.trans ktg)
  obtain ⟨pv, hv_pv⟩ : ∃ nm_ : Int32, nm_ = (if (ixo [v0, v1, v2] (i.toInt8.toInt32) 0) < (0 : Int32) then (1 : Int32) else (0 : Int32)) := ⟨_, rfl⟩
  have pre_8 : Rch p.tables e below (T0.setTop (mkF m 8 #[.val (.ref a), .val (.ref r), .val (.int i)] [])) (T_5.setTop (mkF m 29 #[.val (.ref a), .val (.ref r), .val (.int i)] [(.int pv), (.int i), (.ref r)])) := fun tgt ktg => pre_5 tgt (by
    by_cases q_7 : (ixo [v0, v1, v2] (i.toInt8.toInt32) 0) < (0 : Int32)
    · skip
      show Steps p.tables e below (T_5.setTop (mkF m 21 #[.val (.ref a), .val (.ref r), .val (.int i)] [(.int (ixo [v0, v1, v2] (i.toInt8.toInt32) 0)), (.int i), (.ref r)])) _
      refine XS.ifNo X_5.here hx rfl (hb hby d8_21) rfl ((if0 _ _).trans (tlt q_7).2.1) ?_
      show Steps p.tables e below (T_5.setTop (mkF m 24 #[.val (.ref a), .val (.ref r), .val (.int i)] [(.int i), (.ref r)])) _
      refine XS.iconst X_5.here hx rfl (hb hby d8_24) ?_
      show Steps p.tables e below (T_5.setTop (mkF m 25 #[.val (.ref a), .val (.ref r), .val (.int i)] [(.int (1 : Int32)), (.int i), (.ref r)])) _
      refine XS.goto X_5.here hx rfl (pc0 := 25) (pc' := 29) rfl (hb hby d8_25) (by decide) (by decide) ?_
      have ev_pv : pv = (1 : Int32) := by rw [hv_pv, if_pos q_7]
      rw [ev_pv] at ktg
      exact ktg
    · skip
      show Steps p.tables e below (T_5.setTop (mkF m 21 #[.val (.ref a), .val (.ref r), .val (.int i)] [(.int (ixo [v0, v1, v2] (i.toInt8.toInt32) 0)), (.int i), (.ref r)])) _
      refine XS.ifYes X_5.here hx rfl (pc0 := 21) (pc' := 28) rfl (hb hby d8_21) rfl ((if0 _ _).trans (flt q_7).2.1) (by decide) (by decide) ?_
      show Steps p.tables e below (T_5.setTop (mkF m 28 #[.val (.ref a), .val (.ref r), .val (.int i)] [(.int i), (.ref r)])) _
      refine XS.iconst X_5.here hx rfl (hb hby d8_28) ?_
      have ev_pv : pv = (0 : Int32) := by rw [hv_pv, if_neg q_7]
      rw [ev_pv] at ktg
      exact ktg
    done)
  have hpl : pv = pl [v0, v1, v2] i := by rw [hv_pv]; rfl
  obtain ⟨cl__9, Ar__9, q__9, S__9, N__9, H__9, G__9⟩ := id AR
  have hin__9 : ¬ (i < 0 ∨ cl__9.slots.size ≤ (i).toNatClampNeg) := inb_of S__9 ⟨hi0, hi⟩
  obtain ⟨T_10, h_10, X_10, e_10, W_10, st_10⟩ := stZ X_5 hx hZ eh_5 Ar__9 (j := i) hin__9 (g := (mkF m 29 #[.val (.ref a), .val (.ref r), .val (.int i)] [(.int pv), (.int i), (.ref r)])) rfl rfl (hb hby d8_29)
  have pre_10 : Rch p.tables e below (T0.setTop (mkF m 8 #[.val (.ref a), .val (.ref r), .val (.int i)] [])) (T_10.setTop (mkF m 30 #[.val (.ref a), .val (.ref r), .val (.int i)] [])) := fun tgt ktg => pre_8 tgt (st_10 tgt ktg)
  have f_11 : Exa Z h_10 a "java/lang/String" := E1.wr W_10
  have f_12 : Fld Z h_10 a "java/lang/String" "coder" "B" (.int (0 : Int32)) := F1.other W_10 (Or.inl nar_)
  have f_13 : Fld Z h_10 a "java/lang/String" "value" "[B" (.ref b) := F2.other W_10 (Or.inl nar_)
  have f_14 : Arv Z h_10 b kb .byte (3 : Int32) [(.int v0), (.int v1), (.int v2)] (.int (0 : Int32)) := A1.other W_10 nbr
  have f_15 : Sta Z h_10 "java/lang/String" "COMPACT_STRINGS" "Z" (.int cs) := S1.wr W_10
  have z_16 : n0 ≤ h_10.size := Nat.le_trans Z0 (Keep.of_wr W_10).1
  have K_17 : Keep h0 h_10 [r] := K0.wr W_10 (Or.inl (List.mem_of_getElem? (i := 0) rfl))
  have f_18 : Arv Z h_10 r kr .boolean (128 : Int32) (us.set i.toNatClampNeg (.int (nar .boolean pv))) (.int (0 : Int32)) := Arv.set Ar__9 q__9 S__9 N__9 H__9 G__9 (fits_nar_bool _) W_10 i.toNatClampNeg rfl (by rw [hus]; exact own_128 ⟨hi0, hi⟩)
  have N_19 := Fr.snoc X_10 N_6 gr
  have pre_20 : Rch p.tables e below (T0.setTop (mkF m 8 #[.val (.ref a), .val (.ref r), .val (.int i)] [])) (T_10.setTop (mkF m 34 #[.val (.ref a), .val (.ref r), .val (.int i)] [(.int ((i + (1 : Int32)).toUInt32.toUInt16.toUInt32.toInt32))])) := fun tgt ktg => pre_10 tgt (by
    show Steps p.tables e below (T_10.setTop (mkF m 30 #[.val (.ref a), .val (.ref r), .val (.int i)] [])) _
    refine XS.iloadN X_10.here hx rfl (hb hby d8_30) rfl ?_
    show Steps p.tables e below (T_10.setTop (mkF m 31 #[.val (.ref a), .val (.ref r), .val (.int i)] [(.int i)])) _
    refine XS.iconst X_10.here hx rfl (hb hby d8_31) ?_
    show Steps p.tables e below (T_10.setTop (mkF m 32 #[.val (.ref a), .val (.ref r), .val (.int i)] [(.int (1 : Int32)), (.int i)])) _
    refine XS.iadd X_10.here hx rfl (hb hby d8_32) rfl ?_
    show Steps p.tables e below (T_10.setTop (mkF m 33 #[.val (.ref a), .val (.ref r), .val (.int i)] [(.int (i + (1 : Int32)))])) _
    refine XT.i2c X_10.here hx rfl (hb hby d8_33) rfl ?_
    exact ktg)
  have hic := own_i2c1 hi0 hi
  have pre_21 : Rch p.tables e below (T0.setTop (mkF m 8 #[.val (.ref a), .val (.ref r), .val (.int i)] [])) (T_10.setTop (mkF m 34 #[.val (.ref a), .val (.ref r), .val (.int i)] [(.int (i + 1))])) := fun tgt ktg => pre_20 tgt (by rw [hic]; exact ktg)
  have pre_22 : Rch p.tables e below (T0.setTop (mkF m 8 #[.val (.ref a), .val (.ref r), .val (.int i)] [])) (T_10.setTop (mkF m 8 #[.val (.ref a), .val (.ref r), .val (.int (i + 1))] [])) := fun tgt ktg => pre_21 tgt (by
    show Steps p.tables e below (T_10.setTop (mkF m 34 #[.val (.ref a), .val (.ref r), .val (.int i)] [(.int (i + 1))])) _
    refine XS.istoreN X_10.here hx rfl (hb hby d8_34) rfl (l' := #[.val (.ref a), .val (.ref r), .val (.int (i + 1))]) rfl ?_
    show Steps p.tables e below (T_10.setTop (mkF m 35 #[.val (.ref a), .val (.ref r), .val (.int (i + 1))] [])) _
    refine XS.goto X_10.here hx rfl (pc0 := 35) (pc' := 8) rfl (hb hby d8_35) (by decide) (by decide) ?_
    exact ktg)
  exact ⟨T_10, h_10, _, X_10, e_10, N_19, K_17, z_16, ⟨_, f_18, (by simpa using hus), own_inv hus hi0 hi hpl HI⟩, f_11, f_12, f_13, f_14, f_15, pre_22⟩
set_option maxRecDepth 65536 in
set_option maxHeartbeats 40000000 in
theorem lp0 {p : Program} {l : Launch} {e : Env} {s : State} {m : MethodId} {args : Array Value} {below : List Frame} {meth : Method} {c : Code} {cells slots : Nat} {Z : State} {a0 : Array Value} {n0 : Nat} {a b r : Addr} {kb kr : ClassId} {cs : Int32}
    (hx : p.tables.exec = Jvm.exec) (hZ : Z.Warmed39 s.vm) (hw : ∀ d ∈ tables_1, d.before a0 Z = true) (hby : c.code = prog_152_method_8_code) (hml : c.maxLocals = 3) (hown : s.vm.findClass "com/example/termwell/termwell/tables/XmlText" = some m.cls) (hce : cells ≤ ({ frames := 4, cells := 1, slots := 128, locals := 70 } : Room).cells) (hsl : slots ≤ ({ frames := 4, cells := 1, slots := 128, locals := 70 } : Room).slots) (hcs : ¬ cs = 0) (nar_ : a ≠ r) (nbr : b ≠ r) (gr : n0 ≤ r) (n : Nat) :
    ∀ {T0 : State} {locs : List Loc} {h0 : Heap} {i : Int32}, Stand p l e ({ frames := 4, cells := 1, slots := 128, locals := 70 } : Room) s m args below meth c T0 locs cells slots → T0.heap = h0 → Fr n0 locs → n0 ≤ h0.size → Exa Z h0 a "java/lang/String" → Fld Z h0 a "java/lang/String" "coder" "B" (.int (0 : Int32)) → Fld Z h0 a "java/lang/String" "value" "[B" (.ref b) → Arv Z h0 b kb .byte (0 : Int32) [] (.int (0 : Int32)) → Sta Z h0 "java/lang/String" "COMPACT_STRINGS" "Z" (.int cs) → ¬ i < 0 → i.toInt + n = 128 → (∃ vs : List Value, Arv Z h0 r kr .boolean (128 : Int32) vs (.int (0 : Int32)) ∧ vs.length = 128 ∧ ∀ j : Int32, ¬ j < 0 → j < i → vs.getD j.toNatClampNeg (.int (0 : Int32)) = .int (pl [] j)) →
    ∃ (T' : State) (h' : Heap) (L' : List Loc), Stand p l e ({ frames := 4, cells := 1, slots := 128, locals := 70 } : Room) s m args below meth c T' L' cells slots ∧ T'.heap = h' ∧ Fr n0 L' ∧ Keep h0 h' [r] ∧ n0 ≤ h'.size ∧ (∃ vs : List Value, Arv Z h' r kr .boolean (128 : Int32) vs (.int (0 : Int32)) ∧ vs.length = 128 ∧ ∀ j : Int32, ¬ j < 0 → j < (128 : Int32) → vs.getD j.toNatClampNeg (.int (0 : Int32)) = .int (pl [] j)) ∧ Rch p.tables e below (T0.setTop (mkF m 8 #[.val (.ref a), .val (.ref r), .val (.int i)] [])) (T'.setTop (mkF m 8 #[.val (.ref a), .val (.ref r), .val (.int (128 : Int32))] [])) := by
  induction n with
  | zero =>
    intro T0 locs h0 i X0 e0 N0 Z0 E1 F1 F2 A1 S1 hi0 hn I0
    have e128 : (128 : Int32).toInt = 128 := by decide
    obtain rfl : i = 128 := Int32.toInt_inj.mp (by rw [e128]; omega)
    exact ⟨T0, h0, locs, X0, e0, N0, Keep.refl _ _, Z0, I0, fun tgt ktg => ktg⟩
  | succ n ih =>
    intro T0 locs h0 i X0 e0 N0 Z0 E1 F1 F2 A1 S1 hi0 hn I0
    have e1 : (1 : Int32).toInt = 1 := by decide
    have e0' : (0 : Int32).toInt = 0 := by decide
    have e128 : (128 : Int32).toInt = 128 := by decide
    have hi : i < 128 := by rw [Int32.lt_iff_toInt_lt, e128]; omega
    obtain ⟨T1, h1, L1, X1, g1, N1, K1, z1, I1, E2, F3, F4, A2, S2, R1⟩ := pct0 X0 hx hZ hw hby hml hown hce hsl e0 N0 Z0 E1 F1 F2 A1 cs hcs S1 nar_ nbr gr hi0 hi I0
    have hb : ¬ i.toInt < 0 := by rw [Int32.lt_iff_toInt_lt, e0'] at hi0; exact hi0
    have ha : (i + (1 : Int32)).toInt = i.toInt + 1 := by rw [← e1]; exact Jvm.Kit.i32_add (by omega) (by omega)
    obtain ⟨T2, h2, L2, X2, g2, N2, K2, z2, I2, R2⟩ := ih X1 g1 N1 z1 E2 F3 F4 A2 S2 (by rw [Int32.lt_iff_toInt_lt, ha, e0']; omega) (by rw [ha]; omega) I1
    exact ⟨T2, h2, L2, X2, g2, N2, K1.trans K2 (fun x hx => Or.inl hx), z2, I2, fun tgt ktg => R1 tgt (R2 tgt ktg)⟩
theorem d8_0 : decode prog_152_method_8_code 0 = .ok (.sipush 128, 3) := by decide +kernel
theorem d8_3 : decode prog_152_method_8_code 3 = .ok (.newarray .boolean, 2) := by decide +kernel
theorem d8_5 : decode prog_152_method_8_code 5 = .ok (.astore_n 1, 1) := by decide +kernel
theorem d8_6 : decode prog_152_method_8_code 6 = .ok (.iconst 0, 1) := by decide +kernel
theorem d8_7 : decode prog_152_method_8_code 7 = .ok (.istore_n 2, 1) := by decide +kernel
theorem d8_38 : decode prog_152_method_8_code 38 = .ok (.aload_n 1, 1) := by decide +kernel
theorem d8_39 : decode prog_152_method_8_code 39 = .ok (.areturn, 1) := by decide +kernel
theorem pn_2 : plainName "com/example/termwell/termwell/tables/XmlText" = true := by first | (simp [plainName, overriddenIn]; done) | decide +kernel
theorem ef_pa0 (m : MethodId) (x0 : Addr) : entryFrame m #[(.ref x0)] 3 = mkF m 0 #[.val (.ref x0), .unset, .unset] [] := by first | (simp [entryFrame, mkF, argsToLocals, Value.category]; done) | rfl
def Qpa0 (Z : State) (a : Addr) (b : Addr) (kb : ClassId) (h0 : Heap) (n0 : Nat) (v : Option Value) (h : Heap) (L : List Loc) : Prop := ∃ (r : Addr) (kr : ClassId), v = some (.ref r) ∧ Fr n0 L ∧ Keep h0 h [] ∧ (∃ vs : List Value, Arv Z h r kr .boolean (128 : Int32) vs (.int (0 : Int32)) ∧ vs.length = 128 ∧ ∀ j : Int32, ¬ j < 0 → j < (128 : Int32) → vs.getD j.toNatClampNeg (.int (0 : Int32)) = .int (pl [] j))
set_option maxRecDepth 65536 in
set_option maxHeartbeats 40000000 in
theorem rmpa0 (l : Launch) (Z : State) (a0 : Array Value) (hw : ∀ d ∈ tables_1, d.before a0 Z = true) (ws : List Jvm.Cond) (a : Addr) (b : Addr) (kb : ClassId) (h0 : Heap) (n0 : Nat) (Z0 : n0 ≤ h0.size) (E1 : Exa Z h0 a "java/lang/String") (F1 : Fld Z h0 a "java/lang/String" "coder" "B" (.int (0 : Int32))) (F2 : Fld Z h0 a "java/lang/String" "value" "[B" (.ref b)) (A1 : Arv Z h0 b kb .byte (0 : Int32) [] (.int (0 : Int32))) (cs : Int32) (hcs : ¬ cs = 0) (S1 : Sta Z h0 "java/lang/String" "COMPACT_STRINGS" "Z" (.int cs)) :
    MetFree l (⟨"com/example/termwell/termwell/tables/XmlText", "plainAscii", "(Ljava/lang/String;)[Z"⟩ : MethodName) (head1 (Jvm.Cond.code (⟨"com/example/termwell/termwell/tables/XmlText", "plainAscii", "(Ljava/lang/String;)[Z"⟩ : MethodName) prog_152_method_8_code 3 (some (.array .boolean)) :: ws) ({ frames := 4, cells := 1, slots := 128, locals := 70 } : Room)) (fun aA U => aA = #[(.ref a)] ∧ Z.Warmed39 U.vm ∧ U.heap = h0) (fun _ _ _ _ _ => True) (fun _ U oO U' => ∃ vV LL, oO = .returned vV ∧ Qpa0 Z a b kb h0 n0 vV U'.heap LL ∧ FrameEnd U oO U' LL ({ frames := 4, cells := 1, slots := 128, locals := 70 } : Room).cells ({ frames := 4, cells := 1, slots := 128, locals := 70 } : Room).slots) := by
  refine MetFree.of_bodySF (plainFor_of_name pn_2) hisR ?_
  intro p e s m args below meth c s₁ Bd hml0 hP hK
  obtain ⟨rfl, hZ, hh⟩ := hP
  have hx := Bd.exec
  have hby := Bd.bytes
  have hml : c.maxLocals = 3 := hml0
  have hown : s.vm.findClass "com/example/termwell/termwell/tables/XmlText" = some m.cls := findClass_of_methodNamed Bd.named
  have hnm := (name_of_methodNamed Bd.named Bd.method).1
  have X0 : Stand p l e ({ frames := 4, cells := 1, slots := 128, locals := 70 } : Room) s m #[(.ref a)] below meth c s₁ [] 0 0 := Stand.of_body Bd
  have e0 : s₁.heap = h0 := by rw [← hh, Bd.state]; rfl
  have N0 := Fr.nil n0
  have K0 : Keep h0 h0 [] := Keep.refl _ _
  have pre0 : Rch p.tables e below (s₁.setTop (entryFrame m #[(.ref a)] 3)) (s₁.setTop (mkF m 0 #[.val (.ref a), .unset, .unset] [])) := fun tgt ktg => castTop (ef_pa0 m a) ktg
  have pre_1 : Rch p.tables e below (s₁.setTop (entryFrame m #[(.ref a)] 3)) (s₁.setTop (mkF m 3 #[.val (.ref a), .unset, .unset] [(.int (128 : Int32))])) := fun tgt ktg => pre0 tgt (by
    show Steps p.tables e below (s₁.setTop (mkF m 0 #[.val (.ref a), .unset, .unset] [])) _
    refine XS.sipush X0.here hx rfl (hb hby d8_0) ?_
    exact ktg)
  obtain ⟨T_2, h_2, k_2, X_2, e_2, E_2, A_2, st_2⟩ := newP X0 hx hZ (hw _ (List.mem_of_getElem? (i := 38) rfl)) e0 (g := (mkF m 3 #[.val (.ref a), .unset, .unset] [(.int (128 : Int32))])) rfl (hb hby d8_3) rfl (by decide) (cap := 128) (by decide) (by decide) (by decide) (by decide)
  obtain ⟨r, g_2⟩ : ∃ nm_, nm_ = h0.size := ⟨_, rfl⟩
  rw [← g_2] at A_2 st_2
  have ne_a_r : a ≠ r := Nat.ne_of_lt (Nat.lt_of_lt_of_le E1.lt (Nat.le_of_eq g_2.symm))
  have ne_b_r : b ≠ r := Nat.ne_of_lt (Nat.lt_of_lt_of_le A1.lt (Nat.le_of_eq g_2.symm))
  have g_r : n0 ≤ r := Nat.le_trans Z0 (Nat.le_of_eq g_2.symm)
  have sz_r : h0.size ≤ r := Nat.le_trans K0.1 (Nat.le_of_eq g_2.symm)
  have pre_2 : Rch p.tables e below (s₁.setTop (entryFrame m #[(.ref a)] 3)) (T_2.setTop (mkF m 5 #[.val (.ref a), .unset, .unset] [(.ref r)])) := fun tgt ktg => pre_1 tgt (st_2 tgt ktg)
  have f_3 : Exa Z h_2 a "java/lang/String" := E1.ext E_2
  have f_4 : Fld Z h_2 a "java/lang/String" "coder" "B" (.int (0 : Int32)) := F1.ext E_2
  have f_5 : Fld Z h_2 a "java/lang/String" "value" "[B" (.ref b) := F2.ext E_2
  have f_6 : Arv Z h_2 b kb .byte (0 : Int32) [] (.int (0 : Int32)) := A1.ext E_2
  have f_7 : Sta Z h_2 "java/lang/String" "COMPACT_STRINGS" "Z" (.int cs) := S1.ext E_2
  have z_8 : n0 ≤ h_2.size := Nat.le_trans Z0 E_2.1
  have K_9 : Keep h0 h_2 [] := K0.ext E_2
  have f_10 : Arv Z h_2 r k_2 .boolean (128 : Int32) [] (.int (0 : Int32)) := Arv.new A_2 (by decide)
  have I0 : ∃ vs : List Value, Arv Z h_2 r k_2 .boolean (128 : Int32) vs (.int (0 : Int32)) ∧ vs.length = 128 ∧ ∀ j : Int32, ¬ j < 0 → j < (0 : Int32) → vs.getD j.toNatClampNeg (.int (0 : Int32)) = .int (pl [] j) := ⟨List.replicate 128 (.int (0 : Int32)), Arv.pad f_10 (pad_rep [] (.int (0 : Int32)) 128), by simp, fun j hj hj2 => absurd hj2 hj⟩
  have pre_11 : Rch p.tables e below (s₁.setTop (entryFrame m #[(.ref a)] 3)) (T_2.setTop (mkF m 8 #[.val (.ref a), .val (.ref r), .val (.int (0 : Int32))] [])) := fun tgt ktg => pre_2 tgt (by
    show Steps p.tables e below (T_2.setTop (mkF m 5 #[.val (.ref a), .unset, .unset] [(.ref r)])) _
    refine XS.astoreN X_2.here hx rfl (hb hby d8_5) rfl rfl (l' := #[.val (.ref a), .val (.ref r), .unset]) rfl ?_
    show Steps p.tables e below (T_2.setTop (mkF m 6 #[.val (.ref a), .val (.ref r), .unset] [])) _
    refine XS.iconst X_2.here hx rfl (hb hby d8_6) ?_
    show Steps p.tables e below (T_2.setTop (mkF m 7 #[.val (.ref a), .val (.ref r), .unset] [(.int (0 : Int32))])) _
    refine XS.istoreN X_2.here hx rfl (hb hby d8_7) rfl (l' := #[.val (.ref a), .val (.ref r), .val (.int (0 : Int32))]) rfl ?_
    exact ktg)
  obtain ⟨T_12, h_12, L_12, X_12, e_12, N_12, Kq_12, z_12, I_12, R_12⟩ := lp0 hx hZ hw hby hml hown (by decide) (by decide) hcs ne_a_r ne_b_r g_r 128 X_2 e_2 N0 z_8 f_3 f_4 f_5 f_6 f_7 (by decide) (by decide) I0
  have pre_12 : Rch p.tables e below (s₁.setTop (entryFrame m #[(.ref a)] 3)) (T_12.setTop (mkF m 8 #[.val (.ref a), .val (.ref r), .val (.int (128 : Int32))] [])) := fun tgt ktg => pre_11 tgt (R_12 tgt ktg)
  have K_12k : Keep h0 h_12 [] := K_9.trans Kq_12 (allS (P := fun x => x ∈ ([] : List Addr) ∨ h0.size ≤ x) (Or.inr sz_r) (all0 (P := fun x => x ∈ ([] : List Addr) ∨ h0.size ≤ x)))
  obtain ⟨us, AR, hus, HI⟩ := I_12
  have pre_13 : Rch p.tables e below (s₁.setTop (entryFrame m #[(.ref a)] 3)) (T_12.setTop (mkF m 10 #[.val (.ref a), .val (.ref r), .val (.int (128 : Int32))] [(.ref r), (.int (128 : Int32))])) := fun tgt ktg => pre_12 tgt (by
    show Steps p.tables e below (T_12.setTop (mkF m 8 #[.val (.ref a), .val (.ref r), .val (.int (128 : Int32))] [])) _
    refine XS.iloadN X_12.here hx rfl (hb hby d8_8) rfl ?_
    show Steps p.tables e below (T_12.setTop (mkF m 9 #[.val (.ref a), .val (.ref r), .val (.int (128 : Int32))] [(.int (128 : Int32))])) _
    refine XS.aloadN X_12.here hx rfl (hb hby d8_9) rfl rfl ?_
    exact ktg)
  obtain ⟨cl__14, Ar__14, q__14, S__14, N__14, H__14, G__14⟩ := id AR
  have pre_15 : Rch p.tables e below (s₁.setTop (entryFrame m #[(.ref a)] 3)) (T_12.setTop (mkF m 11 #[.val (.ref a), .val (.ref r), .val (.int (128 : Int32))] [(.int (128 : Int32)), (.int (128 : Int32))])) := fun tgt ktg => pre_13 tgt (X_12.arraylength hx (by rw [e_12]; exact Ar__14.1) (State.isArrayOf_alike hZ.alike Ar__14.2.1) (g := (mkF m 10 #[.val (.ref a), .val (.ref r), .val (.int (128 : Int32))] [(.ref r), (.int (128 : Int32))])) rfl rfl (hb hby d8_10) _ (by rw [len_of S__14 N__14]; exact ktg))
  have pre_16 : Rch p.tables e below (s₁.setTop (entryFrame m #[(.ref a)] 3)) (T_12.setTop (mkF m 39 #[.val (.ref a), .val (.ref r), .val (.int (128 : Int32))] [(.ref r)])) := fun tgt ktg => pre_15 tgt (by
    show Steps p.tables e below (T_12.setTop (mkF m 11 #[.val (.ref a), .val (.ref r), .val (.int (128 : Int32))] [(.int (128 : Int32)), (.int (128 : Int32))])) _
    refine XS.icmpYes X_12.here hx rfl (pc0 := 11) (pc' := 38) rfl (hb hby d8_11) rfl (flt (by decide : ¬ ((128 : Int32) < (128 : Int32)))).2.1 (by decide) (by decide) ?_
    show Steps p.tables e below (T_12.setTop (mkF m 38 #[.val (.ref a), .val (.ref r), .val (.int (128 : Int32))] [])) _
    refine XS.aloadN X_12.here hx rfl (hb hby d8_38) rfl rfl ?_
    exact ktg)
  obtain ⟨fs, hr, hrun, hended, hW, hsame⟩ := X_12.leave (v := some (.ref r)) (fun h => by rw [Bd.returns] at h; cases h)
  refine ⟨_, _, pre_16 _ ?_, hrun, hended, _, _, rfl, ?_, ⟨_, rfl⟩, hW, hsame.mono (by decide) (by decide)⟩
  · show Steps p.tables e below (T_12.setTop (mkF m 39 #[.val (.ref a), .val (.ref r), .val (.int (128 : Int32))] [(.ref r)])) _
    jvm_step X_12.here [X_12.here.top, hx, (hb hby d8_39), X_12.method', Bd.returns, Value.isRef, FieldType.isReference]
    first | (intro acts; rw [hr _ acts rfl rfl rfl]) | rw [hr _ _ rfl rfl rfl]
    exact Steps.refl _
  · show Qpa0 Z a b kb h0 n0 _ T_12.heap _
    rw [e_12]
    exact ⟨r, k_2, rfl, N_12, K_12k, us, AR, hus, HI⟩
set_option maxRecDepth 65536 in
set_option maxHeartbeats 40000000 in
theorem lp1 {p : Program} {l : Launch} {e : Env} {s : State} {m : MethodId} {args : Array Value} {below : List Frame} {meth : Method} {c : Code} {cells slots : Nat} {Z : State} {a0 : Array Value} {n0 : Nat} {v0 : Int32} {a b r : Addr} {kb kr : ClassId} {cs : Int32}
    (hx : p.tables.exec = Jvm.exec) (hZ : Z.Warmed39 s.vm) (hw : ∀ d ∈ tables_1, d.before a0 Z = true) (hby : c.code = prog_152_method_8_code) (hml : c.maxLocals = 3) (hown : s.vm.findClass "com/example/termwell/termwell/tables/XmlText" = some m.cls) (hce : cells ≤ ({ frames := 4, cells := 1, slots := 128, locals := 70 } : Room).cells) (hsl : slots ≤ ({ frames := 4, cells := 1, slots := 128, locals := 70 } : Room).slots) (hcs : ¬ cs = 0) (nar_ : a ≠ r) (nbr : b ≠ r) (gr : n0 ≤ r) (n : Nat) :
    ∀ {T0 : State} {locs : List Loc} {h0 : Heap} {i : Int32}, Stand p l e ({ frames := 4, cells := 1, slots := 128, locals := 70 } : Room) s m args below meth c T0 locs cells slots → T0.heap = h0 → Fr n0 locs → n0 ≤ h0.size → Exa Z h0 a "java/lang/String" → Fld Z h0 a "java/lang/String" "coder" "B" (.int (0 : Int32)) → Fld Z h0 a "java/lang/String" "value" "[B" (.ref b) → Arv Z h0 b kb .byte (1 : Int32) [(.int v0)] (.int (0 : Int32)) → Sta Z h0 "java/lang/String" "COMPACT_STRINGS" "Z" (.int cs) → ¬ i < 0 → i.toInt + n = 128 → (∃ vs : List Value, Arv Z h0 r kr .boolean (128 : Int32) vs (.int (0 : Int32)) ∧ vs.length = 128 ∧ ∀ j : Int32, ¬ j < 0 → j < i → vs.getD j.toNatClampNeg (.int (0 : Int32)) = .int (pl [v0] j)) →
    ∃ (T' : State) (h' : Heap) (L' : List Loc), Stand p l e ({ frames := 4, cells := 1, slots := 128, locals := 70 } : Room) s m args below meth c T' L' cells slots ∧ T'.heap = h' ∧ Fr n0 L' ∧ Keep h0 h' [r] ∧ n0 ≤ h'.size ∧ (∃ vs : List Value, Arv Z h' r kr .boolean (128 : Int32) vs (.int (0 : Int32)) ∧ vs.length = 128 ∧ ∀ j : Int32, ¬ j < 0 → j < (128 : Int32) → vs.getD j.toNatClampNeg (.int (0 : Int32)) = .int (pl [v0] j)) ∧ Rch p.tables e below (T0.setTop (mkF m 8 #[.val (.ref a), .val (.ref r), .val (.int i)] [])) (T'.setTop (mkF m 8 #[.val (.ref a), .val (.ref r), .val (.int (128 : Int32))] [])) := by
  induction n with
  | zero =>
    intro T0 locs h0 i X0 e0 N0 Z0 E1 F1 F2 A1 S1 hi0 hn I0
    have e128 : (128 : Int32).toInt = 128 := by decide
    obtain rfl : i = 128 := Int32.toInt_inj.mp (by rw [e128]; omega)
    exact ⟨T0, h0, locs, X0, e0, N0, Keep.refl _ _, Z0, I0, fun tgt ktg => ktg⟩
  | succ n ih =>
    intro T0 locs h0 i X0 e0 N0 Z0 E1 F1 F2 A1 S1 hi0 hn I0
    have e1 : (1 : Int32).toInt = 1 := by decide
    have e0' : (0 : Int32).toInt = 0 := by decide
    have e128 : (128 : Int32).toInt = 128 := by decide
    have hi : i < 128 := by rw [Int32.lt_iff_toInt_lt, e128]; omega
    obtain ⟨T1, h1, L1, X1, g1, N1, K1, z1, I1, E2, F3, F4, A2, S2, R1⟩ := pct1 X0 hx hZ hw hby hml hown hce hsl e0 N0 Z0 E1 F1 F2 A1 cs hcs S1 nar_ nbr gr hi0 hi I0
    have hb : ¬ i.toInt < 0 := by rw [Int32.lt_iff_toInt_lt, e0'] at hi0; exact hi0
    have ha : (i + (1 : Int32)).toInt = i.toInt + 1 := by rw [← e1]; exact Jvm.Kit.i32_add (by omega) (by omega)
    obtain ⟨T2, h2, L2, X2, g2, N2, K2, z2, I2, R2⟩ := ih X1 g1 N1 z1 E2 F3 F4 A2 S2 (by rw [Int32.lt_iff_toInt_lt, ha, e0']; omega) (by rw [ha]; omega) I1
    exact ⟨T2, h2, L2, X2, g2, N2, K1.trans K2 (fun x hx => Or.inl hx), z2, I2, fun tgt ktg => R1 tgt (R2 tgt ktg)⟩
theorem ef_pa1 (m : MethodId) (x0 : Addr) : entryFrame m #[(.ref x0)] 3 = mkF m 0 #[.val (.ref x0), .unset, .unset] [] := by first | (simp [entryFrame, mkF, argsToLocals, Value.category]; done) | rfl
def Qpa1 (Z : State) (a : Addr) (v0 : Int32) (b : Addr) (kb : ClassId) (h0 : Heap) (n0 : Nat) (v : Option Value) (h : Heap) (L : List Loc) : Prop := ∃ (r : Addr) (kr : ClassId), v = some (.ref r) ∧ Fr n0 L ∧ Keep h0 h [] ∧ (∃ vs : List Value, Arv Z h r kr .boolean (128 : Int32) vs (.int (0 : Int32)) ∧ vs.length = 128 ∧ ∀ j : Int32, ¬ j < 0 → j < (128 : Int32) → vs.getD j.toNatClampNeg (.int (0 : Int32)) = .int (pl [v0] j))
set_option maxRecDepth 65536 in
set_option maxHeartbeats 40000000 in
theorem rmpa1 (l : Launch) (Z : State) (a0 : Array Value) (hw : ∀ d ∈ tables_1, d.before a0 Z = true) (ws : List Jvm.Cond) (a : Addr) (v0 : Int32) (b : Addr) (kb : ClassId) (h0 : Heap) (n0 : Nat) (Z0 : n0 ≤ h0.size) (E1 : Exa Z h0 a "java/lang/String") (F1 : Fld Z h0 a "java/lang/String" "coder" "B" (.int (0 : Int32))) (F2 : Fld Z h0 a "java/lang/String" "value" "[B" (.ref b)) (A1 : Arv Z h0 b kb .byte (1 : Int32) [(.int v0)] (.int (0 : Int32))) (cs : Int32) (hcs : ¬ cs = 0) (S1 : Sta Z h0 "java/lang/String" "COMPACT_STRINGS" "Z" (.int cs)) :
    MetFree l (⟨"com/example/termwell/termwell/tables/XmlText", "plainAscii", "(Ljava/lang/String;)[Z"⟩ : MethodName) (head1 (Jvm.Cond.code (⟨"com/example/termwell/termwell/tables/XmlText", "plainAscii", "(Ljava/lang/String;)[Z"⟩ : MethodName) prog_152_method_8_code 3 (some (.array .boolean)) :: ws) ({ frames := 4, cells := 1, slots := 128, locals := 70 } : Room)) (fun aA U => aA = #[(.ref a)] ∧ Z.Warmed39 U.vm ∧ U.heap = h0) (fun _ _ _ _ _ => True) (fun _ U oO U' => ∃ vV LL, oO = .returned vV ∧ Qpa1 Z a v0 b kb h0 n0 vV U'.heap LL ∧ FrameEnd U oO U' LL ({ frames := 4, cells := 1, slots := 128, locals := 70 } : Room).cells ({ frames := 4, cells := 1, slots := 128, locals := 70 } : Room).slots) := by
  refine MetFree.of_bodySF (plainFor_of_name pn_2) hisR ?_
  intro p e s m args below meth c s₁ Bd hml0 hP hK
  obtain ⟨rfl, hZ, hh⟩ := hP
  have hx := Bd.exec
  have hby := Bd.bytes
  have hml : c.maxLocals = 3 := hml0
  have hown : s.vm.findClass "com/example/termwell/termwell/tables/XmlText" = some m.cls := findClass_of_methodNamed Bd.named
  have hnm := (name_of_methodNamed Bd.named Bd.method).1
  have X0 : Stand p l e ({ frames := 4, cells := 1, slots := 128, locals := 70 } : Room) s m #[(.ref a)] below meth c s₁ [] 0 0 := Stand.of_body Bd
  have e0 : s₁.heap = h0 := by rw [← hh, Bd.state]; rfl
  have N0 := Fr.nil n0
  have K0 : Keep h0 h0 [] := Keep.refl _ _
  have pre0 : Rch p.tables e below (s₁.setTop (entryFrame m #[(.ref a)] 3)) (s₁.setTop (mkF m 0 #[.val (.ref a), .unset, .unset] [])) := fun tgt ktg => castTop (ef_pa1 m a) ktg
  have pre_1 : Rch p.tables e below (s₁.setTop (entryFrame m #[(.ref a)] 3)) (s₁.setTop (mkF m 3 #[.val (.ref a), .unset, .unset] [(.int (128 : Int32))])) := fun tgt ktg => pre0 tgt (by
    show Steps p.tables e below (s₁.setTop (mkF m 0 #[.val (.ref a), .unset, .unset] [])) _
    refine XS.sipush X0.here hx rfl (hb hby d8_0) ?_
    exact ktg)
  obtain ⟨T_2, h_2, k_2, X_2, e_2, E_2, A_2, st_2⟩ := newP X0 hx hZ (hw _ (List.mem_of_getElem? (i := 38) rfl)) e0 (g := (mkF m 3 #[.val (.ref a), .unset, .unset] [(.int (128 : Int32))])) rfl (hb hby d8_3) rfl (by decide) (cap := 128) (by decide) (by decide) (by decide) (by decide)
  obtain ⟨r, g_2⟩ : ∃ nm_, nm_ = h0.size := ⟨_, rfl⟩
  rw [← g_2] at A_2 st_2
  have ne_a_r : a ≠ r := Nat.ne_of_lt (Nat.lt_of_lt_of_le E1.lt (Nat.le_of_eq g_2.symm))
  have ne_b_r : b ≠ r := Nat.ne_of_lt (Nat.lt_of_lt_of_le A1.lt (Nat.le_of_eq g_2.symm))
  have g_r : n0 ≤ r := Nat.le_trans Z0 (Nat.le_of_eq g_2.symm)
  have sz_r : h0.size ≤ r := Nat.le_trans K0.1 (Nat.le_of_eq g_2.symm)
  have pre_2 : Rch p.tables e below (s₁.setTop (entryFrame m #[(.ref a)] 3)) (T_2.setTop (mkF m 5 #[.val (.ref a), .unset, .unset] [(.ref r)])) := fun tgt ktg => pre_1 tgt (st_2 tgt ktg)
  have f_3 : Exa Z h_2 a "java/lang/String" := E1.ext E_2
  have f_4 : Fld Z h_2 a "java/lang/String" "coder" "B" (.int (0 : Int32)) := F1.ext E_2
  have f_5 : Fld Z h_2 a "java/lang/String" "value" "[B" (.ref b) := F2.ext E_2
  have f_6 : Arv Z h_2 b kb .byte (1 : Int32) [(.int v0)] (.int (0 : Int32)) := A1.ext E_2
  have f_7 : Sta Z h_2 "java/lang/String" "COMPACT_STRINGS" "Z" (.int cs) := S1.ext E_2
  have z_8 : n0 ≤ h_2.size := Nat.le_trans Z0 E_2.1
  have K_9 : Keep h0 h_2 [] := K0.ext E_2
  have f_10 : Arv Z h_2 r k_2 .boolean (128 : Int32) [] (.int (0 : Int32)) := Arv.new A_2 (by decide)
  have I0 : ∃ vs : List Value, Arv Z h_2 r k_2 .boolean (128 : Int32) vs (.int (0 : Int32)) ∧ vs.length = 128 ∧ ∀ j : Int32, ¬ j < 0 → j < (0 : Int32) → vs.getD j.toNatClampNeg (.int (0 : Int32)) = .int (pl [v0] j) := ⟨List.replicate 128 (.int (0 : Int32)), Arv.pad f_10 (pad_rep [] (.int (0 : Int32)) 128), by simp, fun j hj hj2 => absurd hj2 hj⟩
  have pre_11 : Rch p.tables e below (s₁.setTop (entryFrame m #[(.ref a)] 3)) (T_2.setTop (mkF m 8 #[.val (.ref a), .val (.ref r), .val (.int (0 : Int32))] [])) := fun tgt ktg => pre_2 tgt (by
    show Steps p.tables e below (T_2.setTop (mkF m 5 #[.val (.ref a), .unset, .unset] [(.ref r)])) _
    refine XS.astoreN X_2.here hx rfl (hb hby d8_5) rfl rfl (l' := #[.val (.ref a), .val (.ref r), .unset]) rfl ?_
    show Steps p.tables e below (T_2.setTop (mkF m 6 #[.val (.ref a), .val (.ref r), .unset] [])) _
    refine XS.iconst X_2.here hx rfl (hb hby d8_6) ?_
    show Steps p.tables e below (T_2.setTop (mkF m 7 #[.val (.ref a), .val (.ref r), .unset] [(.int (0 : Int32))])) _
    refine XS.istoreN X_2.here hx rfl (hb hby d8_7) rfl (l' := #[.val (.ref a), .val (.ref r), .val (.int (0 : Int32))]) rfl ?_
    exact ktg)
  obtain ⟨T_12, h_12, L_12, X_12, e_12, N_12, Kq_12, z_12, I_12, R_12⟩ := lp1 hx hZ hw hby hml hown (by decide) (by decide) hcs ne_a_r ne_b_r g_r 128 X_2 e_2 N0 z_8 f_3 f_4 f_5 f_6 f_7 (by decide) (by decide) I0
  have pre_12 : Rch p.tables e below (s₁.setTop (entryFrame m #[(.ref a)] 3)) (T_12.setTop (mkF m 8 #[.val (.ref a), .val (.ref r), .val (.int (128 : Int32))] [])) := fun tgt ktg => pre_11 tgt (R_12 tgt ktg)
  have K_12k : Keep h0 h_12 [] := K_9.trans Kq_12 (allS (P := fun x => x ∈ ([] : List Addr) ∨ h0.size ≤ x) (Or.inr sz_r) (all0 (P := fun x => x ∈ ([] : List Addr) ∨ h0.size ≤ x)))
  obtain ⟨us, AR, hus, HI⟩ := I_12
  have pre_13 : Rch p.tables e below (s₁.setTop (entryFrame m #[(.ref a)] 3)) (T_12.setTop (mkF m 10 #[.val (.ref a), .val (.ref r), .val (.int (128 : Int32))] [(.ref r), (.int (128 : Int32))])) := fun tgt ktg => pre_12 tgt (by
    show Steps p.tables e below (T_12.setTop (mkF m 8 #[.val (.ref a), .val (.ref r), .val (.int (128 : Int32))] [])) _
    refine XS.iloadN X_12.here hx rfl (hb hby d8_8) rfl ?_
    show Steps p.tables e below (T_12.setTop (mkF m 9 #[.val (.ref a), .val (.ref r), .val (.int (128 : Int32))] [(.int (128 : Int32))])) _
    refine XS.aloadN X_12.here hx rfl (hb hby d8_9) rfl rfl ?_
    exact ktg)
  obtain ⟨cl__14, Ar__14, q__14, S__14, N__14, H__14, G__14⟩ := id AR
  have pre_15 : Rch p.tables e below (s₁.setTop (entryFrame m #[(.ref a)] 3)) (T_12.setTop (mkF m 11 #[.val (.ref a), .val (.ref r), .val (.int (128 : Int32))] [(.int (128 : Int32)), (.int (128 : Int32))])) := fun tgt ktg => pre_13 tgt (X_12.arraylength hx (by rw [e_12]; exact Ar__14.1) (State.isArrayOf_alike hZ.alike Ar__14.2.1) (g := (mkF m 10 #[.val (.ref a), .val (.ref r), .val (.int (128 : Int32))] [(.ref r), (.int (128 : Int32))])) rfl rfl (hb hby d8_10) _ (by rw [len_of S__14 N__14]; exact ktg))
  have pre_16 : Rch p.tables e below (s₁.setTop (entryFrame m #[(.ref a)] 3)) (T_12.setTop (mkF m 39 #[.val (.ref a), .val (.ref r), .val (.int (128 : Int32))] [(.ref r)])) := fun tgt ktg => pre_15 tgt (by
    show Steps p.tables e below (T_12.setTop (mkF m 11 #[.val (.ref a), .val (.ref r), .val (.int (128 : Int32))] [(.int (128 : Int32)), (.int (128 : Int32))])) _
    refine XS.icmpYes X_12.here hx rfl (pc0 := 11) (pc' := 38) rfl (hb hby d8_11) rfl (flt (by decide : ¬ ((128 : Int32) < (128 : Int32)))).2.1 (by decide) (by decide) ?_
    show Steps p.tables e below (T_12.setTop (mkF m 38 #[.val (.ref a), .val (.ref r), .val (.int (128 : Int32))] [])) _
    refine XS.aloadN X_12.here hx rfl (hb hby d8_38) rfl rfl ?_
    exact ktg)
  obtain ⟨fs, hr, hrun, hended, hW, hsame⟩ := X_12.leave (v := some (.ref r)) (fun h => by rw [Bd.returns] at h; cases h)
  refine ⟨_, _, pre_16 _ ?_, hrun, hended, _, _, rfl, ?_, ⟨_, rfl⟩, hW, hsame.mono (by decide) (by decide)⟩
  · show Steps p.tables e below (T_12.setTop (mkF m 39 #[.val (.ref a), .val (.ref r), .val (.int (128 : Int32))] [(.ref r)])) _
    jvm_step X_12.here [X_12.here.top, hx, (hb hby d8_39), X_12.method', Bd.returns, Value.isRef, FieldType.isReference]
    first | (intro acts; rw [hr _ acts rfl rfl rfl]) | rw [hr _ _ rfl rfl rfl]
    exact Steps.refl _
  · show Qpa1 Z a v0 b kb h0 n0 _ T_12.heap _
    rw [e_12]
    exact ⟨r, k_2, rfl, N_12, K_12k, us, AR, hus, HI⟩
set_option maxRecDepth 65536 in
set_option maxHeartbeats 40000000 in
theorem lp2 {p : Program} {l : Launch} {e : Env} {s : State} {m : MethodId} {args : Array Value} {below : List Frame} {meth : Method} {c : Code} {cells slots : Nat} {Z : State} {a0 : Array Value} {n0 : Nat} {v0 : Int32} {v1 : Int32} {a b r : Addr} {kb kr : ClassId} {cs : Int32}
    (hx : p.tables.exec = Jvm.exec) (hZ : Z.Warmed39 s.vm) (hw : ∀ d ∈ tables_1, d.before a0 Z = true) (hby : c.code = prog_152_method_8_code) (hml : c.maxLocals = 3) (hown : s.vm.findClass "com/example/termwell/termwell/tables/XmlText" = some m.cls) (hce : cells ≤ ({ frames := 4, cells := 1, slots := 128, locals := 70 } : Room).cells) (hsl : slots ≤ ({ frames := 4, cells := 1, slots := 128, locals := 70 } : Room).slots) (hcs : ¬ cs = 0) (nar_ : a ≠ r) (nbr : b ≠ r) (gr : n0 ≤ r) (n : Nat) :
    ∀ {T0 : State} {locs : List Loc} {h0 : Heap} {i : Int32}, Stand p l e ({ frames := 4, cells := 1, slots := 128, locals := 70 } : Room) s m args below meth c T0 locs cells slots → T0.heap = h0 → Fr n0 locs → n0 ≤ h0.size → Exa Z h0 a "java/lang/String" → Fld Z h0 a "java/lang/String" "coder" "B" (.int (0 : Int32)) → Fld Z h0 a "java/lang/String" "value" "[B" (.ref b) → Arv Z h0 b kb .byte (2 : Int32) [(.int v0), (.int v1)] (.int (0 : Int32)) → Sta Z h0 "java/lang/String" "COMPACT_STRINGS" "Z" (.int cs) → ¬ i < 0 → i.toInt + n = 128 → (∃ vs : List Value, Arv Z h0 r kr .boolean (128 : Int32) vs (.int (0 : Int32)) ∧ vs.length = 128 ∧ ∀ j : Int32, ¬ j < 0 → j < i → vs.getD j.toNatClampNeg (.int (0 : Int32)) = .int (pl [v0, v1] j)) →
    ∃ (T' : State) (h' : Heap) (L' : List Loc), Stand p l e ({ frames := 4, cells := 1, slots := 128, locals := 70 } : Room) s m args below meth c T' L' cells slots ∧ T'.heap = h' ∧ Fr n0 L' ∧ Keep h0 h' [r] ∧ n0 ≤ h'.size ∧ (∃ vs : List Value, Arv Z h' r kr .boolean (128 : Int32) vs (.int (0 : Int32)) ∧ vs.length = 128 ∧ ∀ j : Int32, ¬ j < 0 → j < (128 : Int32) → vs.getD j.toNatClampNeg (.int (0 : Int32)) = .int (pl [v0, v1] j)) ∧ Rch p.tables e below (T0.setTop (mkF m 8 #[.val (.ref a), .val (.ref r), .val (.int i)] [])) (T'.setTop (mkF m 8 #[.val (.ref a), .val (.ref r), .val (.int (128 : Int32))] [])) := by
  induction n with
  | zero =>
    intro T0 locs h0 i X0 e0 N0 Z0 E1 F1 F2 A1 S1 hi0 hn I0
    have e128 : (128 : Int32).toInt = 128 := by decide
    obtain rfl : i = 128 := Int32.toInt_inj.mp (by rw [e128]; omega)
    exact ⟨T0, h0, locs, X0, e0, N0, Keep.refl _ _, Z0, I0, fun tgt ktg => ktg⟩
  | succ n ih =>
    intro T0 locs h0 i X0 e0 N0 Z0 E1 F1 F2 A1 S1 hi0 hn I0
    have e1 : (1 : Int32).toInt = 1 := by decide
    have e0' : (0 : Int32).toInt = 0 := by decide
    have e128 : (128 : Int32).toInt = 128 := by decide
    have hi : i < 128 := by rw [Int32.lt_iff_toInt_lt, e128]; omega
    obtain ⟨T1, h1, L1, X1, g1, N1, K1, z1, I1, E2, F3, F4, A2, S2, R1⟩ := pct2 X0 hx hZ hw hby hml hown hce hsl e0 N0 Z0 E1 F1 F2 A1 cs hcs S1 nar_ nbr gr hi0 hi I0
    have hb : ¬ i.toInt < 0 := by rw [Int32.lt_iff_toInt_lt, e0'] at hi0; exact hi0
    have ha : (i + (1 : Int32)).toInt = i.toInt + 1 := by rw [← e1]; exact Jvm.Kit.i32_add (by omega) (by omega)
    obtain ⟨T2, h2, L2, X2, g2, N2, K2, z2, I2, R2⟩ := ih X1 g1 N1 z1 E2 F3 F4 A2 S2 (by rw [Int32.lt_iff_toInt_lt, ha, e0']; omega) (by rw [ha]; omega) I1
    exact ⟨T2, h2, L2, X2, g2, N2, K1.trans K2 (fun x hx => Or.inl hx), z2, I2, fun tgt ktg => R1 tgt (R2 tgt ktg)⟩
theorem ef_pa2 (m : MethodId) (x0 : Addr) : entryFrame m #[(.ref x0)] 3 = mkF m 0 #[.val (.ref x0), .unset, .unset] [] := by first | (simp [entryFrame, mkF, argsToLocals, Value.category]; done) | rfl
def Qpa2 (Z : State) (a : Addr) (v0 : Int32) (v1 : Int32) (b : Addr) (kb : ClassId) (h0 : Heap) (n0 : Nat) (v : Option Value) (h : Heap) (L : List Loc) : Prop := ∃ (r : Addr) (kr : ClassId), v = some (.ref r) ∧ Fr n0 L ∧ Keep h0 h [] ∧ (∃ vs : List Value, Arv Z h r kr .boolean (128 : Int32) vs (.int (0 : Int32)) ∧ vs.length = 128 ∧ ∀ j : Int32, ¬ j < 0 → j < (128 : Int32) → vs.getD j.toNatClampNeg (.int (0 : Int32)) = .int (pl [v0, v1] j))
set_option maxRecDepth 65536 in
set_option maxHeartbeats 40000000 in
theorem rmpa2 (l : Launch) (Z : State) (a0 : Array Value) (hw : ∀ d ∈ tables_1, d.before a0 Z = true) (ws : List Jvm.Cond) (a : Addr) (v0 : Int32) (v1 : Int32) (b : Addr) (kb : ClassId) (h0 : Heap) (n0 : Nat) (Z0 : n0 ≤ h0.size) (E1 : Exa Z h0 a "java/lang/String") (F1 : Fld Z h0 a "java/lang/String" "coder" "B" (.int (0 : Int32))) (F2 : Fld Z h0 a "java/lang/String" "value" "[B" (.ref b)) (A1 : Arv Z h0 b kb .byte (2 : Int32) [(.int v0), (.int v1)] (.int (0 : Int32))) (cs : Int32) (hcs : ¬ cs = 0) (S1 : Sta Z h0 "java/lang/String" "COMPACT_STRINGS" "Z" (.int cs)) :
    MetFree l (⟨"com/example/termwell/termwell/tables/XmlText", "plainAscii", "(Ljava/lang/String;)[Z"⟩ : MethodName) (head1 (Jvm.Cond.code (⟨"com/example/termwell/termwell/tables/XmlText", "plainAscii", "(Ljava/lang/String;)[Z"⟩ : MethodName) prog_152_method_8_code 3 (some (.array .boolean)) :: ws) ({ frames := 4, cells := 1, slots := 128, locals := 70 } : Room)) (fun aA U => aA = #[(.ref a)] ∧ Z.Warmed39 U.vm ∧ U.heap = h0) (fun _ _ _ _ _ => True) (fun _ U oO U' => ∃ vV LL, oO = .returned vV ∧ Qpa2 Z a v0 v1 b kb h0 n0 vV U'.heap LL ∧ FrameEnd U oO U' LL ({ frames := 4, cells := 1, slots := 128, locals := 70 } : Room).cells ({ frames := 4, cells := 1, slots := 128, locals := 70 } : Room).slots) := by
  refine MetFree.of_bodySF (plainFor_of_name pn_2) hisR ?_
  intro p e s m args below meth c s₁ Bd hml0 hP hK
  obtain ⟨rfl, hZ, hh⟩ := hP
  have hx := Bd.exec
  have hby := Bd.bytes
  have hml : c.maxLocals = 3 := hml0
  have hown : s.vm.findClass "com/example/termwell/termwell/tables/XmlText" = some m.cls := findClass_of_methodNamed Bd.named
  have hnm := (name_of_methodNamed Bd.named Bd.method).1
  have X0 : Stand p l e ({ frames := 4, cells := 1, slots := 128, locals := 70 } : Room) s m #[(.ref a)] below meth c s₁ [] 0 0 := Stand.of_body Bd
  have e0 : s₁.heap = h0 := by rw [← hh, Bd.state]; rfl
  have N0 := Fr.nil n0
  have K0 : Keep h0 h0 [] := Keep.refl _ _
  have pre0 : Rch p.tables e below (s₁.setTop (entryFrame m #[(.ref a)] 3)) (s₁.setTop (mkF m 0 #[.val (.ref a), .unset, .unset] [])) := fun tgt ktg => castTop (ef_pa2 m a) ktg
  have pre_1 : Rch p.tables e below (s₁.setTop (entryFrame m #[(.ref a)] 3)) (s₁.setTop (mkF m 3 #[.val (.ref a), .unset, .unset] [(.int (128 : Int32))])) := fun tgt ktg => pre0 tgt (by
    show Steps p.tables e below (s₁.setTop (mkF m 0 #[.val (.ref a), .unset, .unset] [])) _
    refine XS.sipush X0.here hx rfl (hb hby d8_0) ?_
    exact ktg)
  obtain ⟨T_2, h_2, k_2, X_2, e_2, E_2, A_2, st_2⟩ := newP X0 hx hZ (hw _ (List.mem_of_getElem? (i := 38) rfl)) e0 (g := (mkF m 3 #[.val (.ref a), .unset, .unset] [(.int (128 : Int32))])) rfl (hb hby d8_3) rfl (by decide) (cap := 128) (by decide) (by decide) (by decide) (by decide)
  obtain ⟨r, g_2⟩ : ∃ nm_, nm_ = h0.size := ⟨_, rfl⟩
  rw [← g_2] at A_2 st_2
  have ne_a_r : a ≠ r := Nat.ne_of_lt (Nat.lt_of_lt_of_le E1.lt (Nat.le_of_eq g_2.symm))
  have ne_b_r : b ≠ r := Nat.ne_of_lt (Nat.lt_of_lt_of_le A1.lt (Nat.le_of_eq g_2.symm))
  have g_r : n0 ≤ r := Nat.le_trans Z0 (Nat.le_of_eq g_2.symm)
  have sz_r : h0.size ≤ r := Nat.le_trans K0.1 (Nat.le_of_eq g_2.symm)
  have pre_2 : Rch p.tables e below (s₁.setTop (entryFrame m #[(.ref a)] 3)) (T_2.setTop (mkF m 5 #[.val (.ref a), .unset, .unset] [(.ref r)])) := fun tgt ktg => pre_1 tgt (st_2 tgt ktg)
  have f_3 : Exa Z h_2 a "java/lang/String" := E1.ext E_2
  have f_4 : Fld Z h_2 a "java/lang/String" "coder" "B" (.int (0 : Int32)) := F1.ext E_2
  have f_5 : Fld Z h_2 a "java/lang/String" "value" "[B" (.ref b) := F2.ext E_2
  have f_6 : Arv Z h_2 b kb .byte (2 : Int32) [(.int v0), (.int v1)] (.int (0 : Int32)) := A1.ext E_2
  have f_7 : Sta Z h_2 "java/lang/String" "COMPACT_STRINGS" "Z" (.int cs) := S1.ext E_2
  have z_8 : n0 ≤ h_2.size := Nat.le_trans Z0 E_2.1
  have K_9 : Keep h0 h_2 [] := K0.ext E_2
  have f_10 : Arv Z h_2 r k_2 .boolean (128 : Int32) [] (.int (0 : Int32)) := Arv.new A_2 (by decide)
  have I0 : ∃ vs : List Value, Arv Z h_2 r k_2 .boolean (128 : Int32) vs (.int (0 : Int32)) ∧ vs.length = 128 ∧ ∀ j : Int32, ¬ j < 0 → j < (0 : Int32) → vs.getD j.toNatClampNeg (.int (0 : Int32)) = .int (pl [v0, v1] j) := ⟨List.replicate 128 (.int (0 : Int32)), Arv.pad f_10 (pad_rep [] (.int (0 : Int32)) 128), by simp, fun j hj hj2 => absurd hj2 hj⟩
  have pre_11 : Rch p.tables e below (s₁.setTop (entryFrame m #[(.ref a)] 3)) (T_2.setTop (mkF m 8 #[.val (.ref a), .val (.ref r), .val (.int (0 : Int32))] [])) := fun tgt ktg => pre_2 tgt (by
    show Steps p.tables e below (T_2.setTop (mkF m 5 #[.val (.ref a), .unset, .unset] [(.ref r)])) _
    refine XS.astoreN X_2.here hx rfl (hb hby d8_5) rfl rfl (l' := #[.val (.ref a), .val (.ref r), .unset]) rfl ?_
    show Steps p.tables e below (T_2.setTop (mkF m 6 #[.val (.ref a), .val (.ref r), .unset] [])) _
    refine XS.iconst X_2.here hx rfl (hb hby d8_6) ?_
    show Steps p.tables e below (T_2.setTop (mkF m 7 #[.val (.ref a), .val (.ref r), .unset] [(.int (0 : Int32))])) _
    refine XS.istoreN X_2.here hx rfl (hb hby d8_7) rfl (l' := #[.val (.ref a), .val (.ref r), .val (.int (0 : Int32))]) rfl ?_
    exact ktg)
  obtain ⟨T_12, h_12, L_12, X_12, e_12, N_12, Kq_12, z_12, I_12, R_12⟩ := lp2 hx hZ hw hby hml hown (by decide) (by decide) hcs ne_a_r ne_b_r g_r 128 X_2 e_2 N0 z_8 f_3 f_4 f_5 f_6 f_7 (by decide) (by decide) I0
  have pre_12 : Rch p.tables e below (s₁.setTop (entryFrame m #[(.ref a)] 3)) (T_12.setTop (mkF m 8 #[.val (.ref a), .val (.ref r), .val (.int (128 : Int32))] [])) := fun tgt ktg => pre_11 tgt (R_12 tgt ktg)
  have K_12k : Keep h0 h_12 [] := K_9.trans Kq_12 (allS (P := fun x => x ∈ ([] : List Addr) ∨ h0.size ≤ x) (Or.inr sz_r) (all0 (P := fun x => x ∈ ([] : List Addr) ∨ h0.size ≤ x)))
  obtain ⟨us, AR, hus, HI⟩ := I_12
  have pre_13 : Rch p.tables e below (s₁.setTop (entryFrame m #[(.ref a)] 3)) (T_12.setTop (mkF m 10 #[.val (.ref a), .val (.ref r), .val (.int (128 : Int32))] [(.ref r), (.int (128 : Int32))])) := fun tgt ktg => pre_12 tgt (by
    show Steps p.tables e below (T_12.setTop (mkF m 8 #[.val (.ref a), .val (.ref r), .val (.int (128 : Int32))] [])) _
    refine XS.iloadN X_12.here hx rfl (hb hby d8_8) rfl ?_
    show Steps p.tables e below (T_12.setTop (mkF m 9 #[.val (.ref a), .val (.ref r), .val (.int (128 : Int32))] [(.int (128 : Int32))])) _
    refine XS.aloadN X_12.here hx rfl (hb hby d8_9) rfl rfl ?_
    exact ktg)
  obtain ⟨cl__14, Ar__14, q__14, S__14, N__14, H__14, G__14⟩ := id AR
  have pre_15 : Rch p.tables e below (s₁.setTop (entryFrame m #[(.ref a)] 3)) (T_12.setTop (mkF m 11 #[.val (.ref a), .val (.ref r), .val (.int (128 : Int32))] [(.int (128 : Int32)), (.int (128 : Int32))])) := fun tgt ktg => pre_13 tgt (X_12.arraylength hx (by rw [e_12]; exact Ar__14.1) (State.isArrayOf_alike hZ.alike Ar__14.2.1) (g := (mkF m 10 #[.val (.ref a), .val (.ref r), .val (.int (128 : Int32))] [(.ref r), (.int (128 : Int32))])) rfl rfl (hb hby d8_10) _ (by rw [len_of S__14 N__14]; exact ktg))
  have pre_16 : Rch p.tables e below (s₁.setTop (entryFrame m #[(.ref a)] 3)) (T_12.setTop (mkF m 39 #[.val (.ref a), .val (.ref r), .val (.int (128 : Int32))] [(.ref r)])) := fun tgt ktg => pre_15 tgt (by
    show Steps p.tables e below (T_12.setTop (mkF m 11 #[.val (.ref a), .val (.ref r), .val (.int (128 : Int32))] [(.int (128 : Int32)), (.int (128 : Int32))])) _
    refine XS.icmpYes X_12.here hx rfl (pc0 := 11) (pc' := 38) rfl (hb hby d8_11) rfl (flt (by decide : ¬ ((128 : Int32) < (128 : Int32)))).2.1 (by decide) (by decide) ?_
    show Steps p.tables e below (T_12.setTop (mkF m 38 #[.val (.ref a), .val (.ref r), .val (.int (128 : Int32))] [])) _
    refine XS.aloadN X_12.here hx rfl (hb hby d8_38) rfl rfl ?_
    exact ktg)
  obtain ⟨fs, hr, hrun, hended, hW, hsame⟩ := X_12.leave (v := some (.ref r)) (fun h => by rw [Bd.returns] at h; cases h)
  refine ⟨_, _, pre_16 _ ?_, hrun, hended, _, _, rfl, ?_, ⟨_, rfl⟩, hW, hsame.mono (by decide) (by decide)⟩
  · show Steps p.tables e below (T_12.setTop (mkF m 39 #[.val (.ref a), .val (.ref r), .val (.int (128 : Int32))] [(.ref r)])) _
    jvm_step X_12.here [X_12.here.top, hx, (hb hby d8_39), X_12.method', Bd.returns, Value.isRef, FieldType.isReference]
    first | (intro acts; rw [hr _ acts rfl rfl rfl]) | rw [hr _ _ rfl rfl rfl]
    exact Steps.refl _
  · show Qpa2 Z a v0 v1 b kb h0 n0 _ T_12.heap _
    rw [e_12]
    exact ⟨r, k_2, rfl, N_12, K_12k, us, AR, hus, HI⟩
set_option maxRecDepth 65536 in
set_option maxHeartbeats 40000000 in
theorem lp3 {p : Program} {l : Launch} {e : Env} {s : State} {m : MethodId} {args : Array Value} {below : List Frame} {meth : Method} {c : Code} {cells slots : Nat} {Z : State} {a0 : Array Value} {n0 : Nat} {v0 : Int32} {v1 : Int32} {v2 : Int32} {a b r : Addr} {kb kr : ClassId} {cs : Int32}
    (hx : p.tables.exec = Jvm.exec) (hZ : Z.Warmed39 s.vm) (hw : ∀ d ∈ tables_1, d.before a0 Z = true) (hby : c.code = prog_152_method_8_code) (hml : c.maxLocals = 3) (hown : s.vm.findClass "com/example/termwell/termwell/tables/XmlText" = some m.cls) (hce : cells ≤ ({ frames := 4, cells := 1, slots := 128, locals := 70 } : Room).cells) (hsl : slots ≤ ({ frames := 4, cells := 1, slots := 128, locals := 70 } : Room).slots) (hcs : ¬ cs = 0) (nar_ : a ≠ r) (nbr : b ≠ r) (gr : n0 ≤ r) (n : Nat) :
    ∀ {T0 : State} {locs : List Loc} {h0 : Heap} {i : Int32}, Stand p l e ({ frames := 4, cells := 1, slots := 128, locals := 70 } : Room) s m args below meth c T0 locs cells slots → T0.heap = h0 → Fr n0 locs → n0 ≤ h0.size → Exa Z h0 a "java/lang/String" → Fld Z h0 a "java/lang/String" "coder" "B" (.int (0 : Int32)) → Fld Z h0 a "java/lang/String" "value" "[B" (.ref b) → Arv Z h0 b kb .byte (3 : Int32) [(.int v0), (.int v1), (.int v2)] (.int (0 : Int32)) → Sta Z h0 "java/lang/String" "COMPACT_STRINGS" "Z" (.int cs) → ¬ i < 0 → i.toInt + n = 128 → (∃ vs : List Value, Arv Z h0 r kr .boolean (128 : Int32) vs (.int (0 : Int32)) ∧ vs.length = 128 ∧ ∀ j : Int32, ¬ j < 0 → j < i → vs.getD j.toNatClampNeg (.int (0 : Int32)) = .int (pl [v0, v1, v2] j)) →
    ∃ (T' : State) (h' : Heap) (L' : List Loc), Stand p l e ({ frames := 4, cells := 1, slots := 128, locals := 70 } : Room) s m args below meth c T' L' cells slots ∧ T'.heap = h' ∧ Fr n0 L' ∧ Keep h0 h' [r] ∧ n0 ≤ h'.size ∧ (∃ vs : List Value, Arv Z h' r kr .boolean (128 : Int32) vs (.int (0 : Int32)) ∧ vs.length = 128 ∧ ∀ j : Int32, ¬ j < 0 → j < (128 : Int32) → vs.getD j.toNatClampNeg (.int (0 : Int32)) = .int (pl [v0, v1, v2] j)) ∧ Rch p.tables e below (T0.setTop (mkF m 8 #[.val (.ref a), .val (.ref r), .val (.int i)] [])) (T'.setTop (mkF m 8 #[.val (.ref a), .val (.ref r), .val (.int (128 : Int32))] [])) := by
  induction n with
  | zero =>
    intro T0 locs h0 i X0 e0 N0 Z0 E1 F1 F2 A1 S1 hi0 hn I0
    have e128 : (128 : Int32).toInt = 128 := by decide
    obtain rfl : i = 128 := Int32.toInt_inj.mp (by rw [e128]; omega)
    exact ⟨T0, h0, locs, X0, e0, N0, Keep.refl _ _, Z0, I0, fun tgt ktg => ktg⟩
  | succ n ih =>
    intro T0 locs h0 i X0 e0 N0 Z0 E1 F1 F2 A1 S1 hi0 hn I0
    have e1 : (1 : Int32).toInt = 1 := by decide
    have e0' : (0 : Int32).toInt = 0 := by decide
    have e128 : (128 : Int32).toInt = 128 := by decide
    have hi : i < 128 := by rw [Int32.lt_iff_toInt_lt, e128]; omega
    obtain ⟨T1, h1, L1, X1, g1, N1, K1, z1, I1, E2, F3, F4, A2, S2, R1⟩ := pct3 X0 hx hZ hw hby hml hown hce hsl e0 N0 Z0 E1 F1 F2 A1 cs hcs S1 nar_ nbr gr hi0 hi I0
    have hb : ¬ i.toInt < 0 := by rw [Int32.lt_iff_toInt_lt, e0'] at hi0; exact hi0
    have ha : (i + (1 : Int32)).toInt = i.toInt + 1 := by rw [← e1]; exact Jvm.Kit.i32_add (by omega) (by omega)
    obtain ⟨T2, h2, L2, X2, g2, N2, K2, z2, I2, R2⟩ := ih X1 g1 N1 z1 E2 F3 F4 A2 S2 (by rw [Int32.lt_iff_toInt_lt, ha, e0']; omega) (by rw [ha]; omega) I1
    exact ⟨T2, h2, L2, X2, g2, N2, K1.trans K2 (fun x hx => Or.inl hx), z2, I2, fun tgt ktg => R1 tgt (R2 tgt ktg)⟩
theorem ef_pa3 (m : MethodId) (x0 : Addr) : entryFrame m #[(.ref x0)] 3 = mkF m 0 #[.val (.ref x0), .unset, .unset] [] := by first | (simp [entryFrame, mkF, argsToLocals, Value.category]; done) | rfl
def Qpa3 (Z : State) (a : Addr) (v0 : Int32) (v1 : Int32) (v2 : Int32) (b : Addr) (kb : ClassId) (h0 : Heap) (n0 : Nat) (v : Option Value) (h : Heap) (L : List Loc) : Prop := ∃ (r : Addr) (kr : ClassId), v = some (.ref r) ∧ Fr n0 L ∧ Keep h0 h [] ∧ (∃ vs : List Value, Arv Z h r kr .boolean (128 : Int32) vs (.int (0 : Int32)) ∧ vs.length = 128 ∧ ∀ j : Int32, ¬ j < 0 → j < (128 : Int32) → vs.getD j.toNatClampNeg (.int (0 : Int32)) = .int (pl [v0, v1, v2] j))
set_option maxRecDepth 65536 in
set_option maxHeartbeats 40000000 in
theorem rmpa3 (l : Launch) (Z : State) (a0 : Array Value) (hw : ∀ d ∈ tables_1, d.before a0 Z = true) (ws : List Jvm.Cond) (a : Addr) (v0 : Int32) (v1 : Int32) (v2 : Int32) (b : Addr) (kb : ClassId) (h0 : Heap) (n0 : Nat) (Z0 : n0 ≤ h0.size) (E1 : Exa Z h0 a "java/lang/String") (F1 : Fld Z h0 a "java/lang/String" "coder" "B" (.int (0 : Int32))) (F2 : Fld Z h0 a "java/lang/String" "value" "[B" (.ref b)) (A1 : Arv Z h0 b kb .byte (3 : Int32) [(.int v0), (.int v1), (.int v2)] (.int (0 : Int32))) (cs : Int32) (hcs : ¬ cs = 0) (S1 : Sta Z h0 "java/lang/String" "COMPACT_STRINGS" "Z" (.int cs)) :
    MetFree l (⟨"com/example/termwell/termwell/tables/XmlText", "plainAscii", "(Ljava/lang/String;)[Z"⟩ : MethodName) (head1 (Jvm.Cond.code (⟨"com/example/termwell/termwell/tables/XmlText", "plainAscii", "(Ljava/lang/String;)[Z"⟩ : MethodName) prog_152_method_8_code 3 (some (.array .boolean)) :: ws) ({ frames := 4, cells := 1, slots := 128, locals := 70 } : Room)) (fun aA U => aA = #[(.ref a)] ∧ Z.Warmed39 U.vm ∧ U.heap = h0) (fun _ _ _ _ _ => True) (fun _ U oO U' => ∃ vV LL, oO = .returned vV ∧ Qpa3 Z a v0 v1 v2 b kb h0 n0 vV U'.heap LL ∧ FrameEnd U oO U' LL ({ frames := 4, cells := 1, slots := 128, locals := 70 } : Room).cells ({ frames := 4, cells := 1, slots := 128, locals := 70 } : Room).slots) := by
  refine MetFree.of_bodySF (plainFor_of_name pn_2) hisR ?_
  intro p e s m args below meth c s₁ Bd hml0 hP hK
  obtain ⟨rfl, hZ, hh⟩ := hP
  have hx := Bd.exec
  have hby := Bd.bytes
  have hml : c.maxLocals = 3 := hml0
  have hown : s.vm.findClass "com/example/termwell/termwell/tables/XmlText" = some m.cls := findClass_of_methodNamed Bd.named
  have hnm := (name_of_methodNamed Bd.named Bd.method).1
  have X0 : Stand p l e ({ frames := 4, cells := 1, slots := 128, locals := 70 } : Room) s m #[(.ref a)] below meth c s₁ [] 0 0 := Stand.of_body Bd
  have e0 : s₁.heap = h0 := by rw [← hh, Bd.state]; rfl
  have N0 := Fr.nil n0
  have K0 : Keep h0 h0 [] := Keep.refl _ _
  have pre0 : Rch p.tables e below (s₁.setTop (entryFrame m #[(.ref a)] 3)) (s₁.setTop (mkF m 0 #[.val (.ref a), .unset, .unset] [])) := fun tgt ktg => castTop (ef_pa3 m a) ktg
  have pre_1 : Rch p.tables e below (s₁.setTop (entryFrame m #[(.ref a)] 3)) (s₁.setTop (mkF m 3 #[.val (.ref a), .unset, .unset] [(.int (128 : Int32))])) := fun tgt ktg => pre0 tgt (by
    show Steps p.tables e below (s₁.setTop (mkF m 0 #[.val (.ref a), .unset, .unset] [])) _
    refine XS.sipush X0.here hx rfl (hb hby d8_0) ?_
    exact ktg)
  obtain ⟨T_2, h_2, k_2, X_2, e_2, E_2, A_2, st_2⟩ := newP X0 hx hZ (hw _ (List.mem_of_getElem? (i := 38) rfl)) e0 (g := (mkF m 3 #[.val (.ref a), .unset, .unset] [(.int (128 : Int32))])) rfl (hb hby d8_3) rfl (by decide) (cap := 128) (by decide) (by decide) (by decide) (by decide)
  obtain ⟨r, g_2⟩ : ∃ nm_, nm_ = h0.size := ⟨_, rfl⟩
  rw [← g_2] at A_2 st_2
  have ne_a_r : a ≠ r := Nat.ne_of_lt (Nat.lt_of_lt_of_le E1.lt (Nat.le_of_eq g_2.symm))
  have ne_b_r : b ≠ r := Nat.ne_of_lt (Nat.lt_of_lt_of_le A1.lt (Nat.le_of_eq g_2.symm))
  have g_r : n0 ≤ r := Nat.le_trans Z0 (Nat.le_of_eq g_2.symm)
  have sz_r : h0.size ≤ r := Nat.le_trans K0.1 (Nat.le_of_eq g_2.symm)
  have pre_2 : Rch p.tables e below (s₁.setTop (entryFrame m #[(.ref a)] 3)) (T_2.setTop (mkF m 5 #[.val (.ref a), .unset, .unset] [(.ref r)])) := fun tgt ktg => pre_1 tgt (st_2 tgt ktg)
  have f_3 : Exa Z h_2 a "java/lang/String" := E1.ext E_2
  have f_4 : Fld Z h_2 a "java/lang/String" "coder" "B" (.int (0 : Int32)) := F1.ext E_2
  have f_5 : Fld Z h_2 a "java/lang/String" "value" "[B" (.ref b) := F2.ext E_2
  have f_6 : Arv Z h_2 b kb .byte (3 : Int32) [(.int v0), (.int v1), (.int v2)] (.int (0 : Int32)) := A1.ext E_2
  have f_7 : Sta Z h_2 "java/lang/String" "COMPACT_STRINGS" "Z" (.int cs) := S1.ext E_2
  have z_8 : n0 ≤ h_2.size := Nat.le_trans Z0 E_2.1
  have K_9 : Keep h0 h_2 [] := K0.ext E_2
  have f_10 : Arv Z h_2 r k_2 .boolean (128 : Int32) [] (.int (0 : Int32)) := Arv.new A_2 (by decide)
  have I0 : ∃ vs : List Value, Arv Z h_2 r k_2 .boolean (128 : Int32) vs (.int (0 : Int32)) ∧ vs.length = 128 ∧ ∀ j : Int32, ¬ j < 0 → j < (0 : Int32) → vs.getD j.toNatClampNeg (.int (0 : Int32)) = .int (pl [v0, v1, v2] j) := ⟨List.replicate 128 (.int (0 : Int32)), Arv.pad f_10 (pad_rep [] (.int (0 : Int32)) 128), by simp, fun j hj hj2 => absurd hj2 hj⟩
  have pre_11 : Rch p.tables e below (s₁.setTop (entryFrame m #[(.ref a)] 3)) (T_2.setTop (mkF m 8 #[.val (.ref a), .val (.ref r), .val (.int (0 : Int32))] [])) := fun tgt ktg => pre_2 tgt (by
    show Steps p.tables e below (T_2.setTop (mkF m 5 #[.val (.ref a), .unset, .unset] [(.ref r)])) _
    refine XS.astoreN X_2.here hx rfl (hb hby d8_5) rfl rfl (l' := #[.val (.ref a), .val (.ref r), .unset]) rfl ?_
    show Steps p.tables e below (T_2.setTop (mkF m 6 #[.val (.ref a), .val (.ref r), .unset] [])) _
    refine XS.iconst X_2.here hx rfl (hb hby d8_6) ?_
    show Steps p.tables e below (T_2.setTop (mkF m 7 #[.val (.ref a), .val (.ref r), .unset] [(.int (0 : Int32))])) _
    refine XS.istoreN X_2.here hx rfl (hb hby d8_7) rfl (l' := #[.val (.ref a), .val (.ref r), .val (.int (0 : Int32))]) rfl ?_
    exact ktg)
  obtain ⟨T_12, h_12, L_12, X_12, e_12, N_12, Kq_12, z_12, I_12, R_12⟩ := lp3 hx hZ hw hby hml hown (by decide) (by decide) hcs ne_a_r ne_b_r g_r 128 X_2 e_2 N0 z_8 f_3 f_4 f_5 f_6 f_7 (by decide) (by decide) I0
  have pre_12 : Rch p.tables e below (s₁.setTop (entryFrame m #[(.ref a)] 3)) (T_12.setTop (mkF m 8 #[.val (.ref a), .val (.ref r), .val (.int (128 : Int32))] [])) := fun tgt ktg => pre_11 tgt (R_12 tgt ktg)
  have K_12k : Keep h0 h_12 [] := K_9.trans Kq_12 (allS (P := fun x => x ∈ ([] : List Addr) ∨ h0.size ≤ x) (Or.inr sz_r) (all0 (P := fun x => x ∈ ([] : List Addr) ∨ h0.size ≤ x)))
  obtain ⟨us, AR, hus, HI⟩ := I_12
  have pre_13 : Rch p.tables e below (s₁.setTop (entryFrame m #[(.ref a)] 3)) (T_12.setTop (mkF m 10 #[.val (.ref a), .val (.ref r), .val (.int (128 : Int32))] [(.ref r), (.int (128 : Int32))])) := fun tgt ktg => pre_12 tgt (by
    show Steps p.tables e below (T_12.setTop (mkF m 8 #[.val (.ref a), .val (.ref r), .val (.int (128 : Int32))] [])) _
    refine XS.iloadN X_12.here hx rfl (hb hby d8_8) rfl ?_
    show Steps p.tables e below (T_12.setTop (mkF m 9 #[.val (.ref a), .val (.ref r), .val (.int (128 : Int32))] [(.int (128 : Int32))])) _
    refine XS.aloadN X_12.here hx rfl (hb hby d8_9) rfl rfl ?_
    exact ktg)
  obtain ⟨cl__14, Ar__14, q__14, S__14, N__14, H__14, G__14⟩ := id AR
  have pre_15 : Rch p.tables e below (s₁.setTop (entryFrame m #[(.ref a)] 3)) (T_12.setTop (mkF m 11 #[.val (.ref a), .val (.ref r), .val (.int (128 : Int32))] [(.int (128 : Int32)), (.int (128 : Int32))])) := fun tgt ktg => pre_13 tgt (X_12.arraylength hx (by rw [e_12]; exact Ar__14.1) (State.isArrayOf_alike hZ.alike Ar__14.2.1) (g := (mkF m 10 #[.val (.ref a), .val (.ref r), .val (.int (128 : Int32))] [(.ref r), (.int (128 : Int32))])) rfl rfl (hb hby d8_10) _ (by rw [len_of S__14 N__14]; exact ktg))
  have pre_16 : Rch p.tables e below (s₁.setTop (entryFrame m #[(.ref a)] 3)) (T_12.setTop (mkF m 39 #[.val (.ref a), .val (.ref r), .val (.int (128 : Int32))] [(.ref r)])) := fun tgt ktg => pre_15 tgt (by
    show Steps p.tables e below (T_12.setTop (mkF m 11 #[.val (.ref a), .val (.ref r), .val (.int (128 : Int32))] [(.int (128 : Int32)), (.int (128 : Int32))])) _
    refine XS.icmpYes X_12.here hx rfl (pc0 := 11) (pc' := 38) rfl (hb hby d8_11) rfl (flt (by decide : ¬ ((128 : Int32) < (128 : Int32)))).2.1 (by decide) (by decide) ?_
    show Steps p.tables e below (T_12.setTop (mkF m 38 #[.val (.ref a), .val (.ref r), .val (.int (128 : Int32))] [])) _
    refine XS.aloadN X_12.here hx rfl (hb hby d8_38) rfl rfl ?_
    exact ktg)
  obtain ⟨fs, hr, hrun, hended, hW, hsame⟩ := X_12.leave (v := some (.ref r)) (fun h => by rw [Bd.returns] at h; cases h)
  refine ⟨_, _, pre_16 _ ?_, hrun, hended, _, _, rfl, ?_, ⟨_, rfl⟩, hW, hsame.mono (by decide) (by decide)⟩
  · show Steps p.tables e below (T_12.setTop (mkF m 39 #[.val (.ref a), .val (.ref r), .val (.int (128 : Int32))] [(.ref r)])) _
    jvm_step X_12.here [X_12.here.top, hx, (hb hby d8_39), X_12.method', Bd.returns, Value.isRef, FieldType.isReference]
    first | (intro acts; rw [hr _ acts rfl rfl rfl]) | rw [hr _ _ rfl rfl rfl]
    exact Steps.refl _
  · show Qpa3 Z a v0 v1 v2 b kb h0 n0 _ T_12.heap _
    rw [e_12]
    exact ⟨r, k_2, rfl, N_12, K_12k, us, AR, hus, HI⟩
theorem own_narc {q : Int32} (h0 : ¬ q < 0) (h : ¬ (255 : Int32) < q) : nar .char q = q := by
  have e := Jvm.Kit.i32_mask q 255 (k := 8) (by decide) (by decide)
  have e0 : (0 : Int32).toInt = 0 := by decide
  have e255 : (255 : Int32).toInt = 255 := by decide
  rw [Int32.lt_iff_toInt_lt] at *
  have m : q &&& (255 : Int32) = q := Int32.toInt_inj.mp (by omega)
  have c := i2c_mask q
  rw [m] at c; exact c
theorem own_byte {x q : Int32} (h : q = ((x &&& (255 : Int32)).toUInt32.toUInt16.toUInt32.toInt32)) : ¬ q < 0 ∧ ¬ (255 : Int32) < q := by
  rw [i2c_mask] at h; subst h
  have e := Jvm.Kit.i32_mask x 255 (k := 8) (by decide) (by decide)
  have e0 : (0 : Int32).toInt = 0 := by decide
  have e255 : (255 : Int32).toInt = 255 := by decide
  rw [Int32.lt_iff_toInt_lt, Int32.lt_iff_toInt_lt]; omega
theorem own_n3 {x n : Int32} (h : n = (x &&& (3 : Int32))) : n = 0 ∨ n = 1 ∨ n = 2 ∨ n = 3 := by
  have e := Jvm.Kit.i32_mask x 3 (k := 2) (by decide) (by decide)
  rw [← h] at e
  have : n.toInt = 0 ∨ n.toInt = 1 ∨ n.toInt = 2 ∨ n.toInt = 3 := by omega
  rcases this with q | q | q | q
  · exact Or.inl (Int32.toInt_inj.mp q)
  · exact Or.inr (Or.inl (Int32.toInt_inj.mp q))
  · exact Or.inr (Or.inr (Or.inl (Int32.toInt_inj.mp q)))
  · exact Or.inr (Or.inr (Or.inr (Int32.toInt_inj.mp q)))
theorem d6_0 : decode jdk_52_method_21_code 0 = .ok (.iconst 0, 1) := by decide +kernel
theorem d6_1 : decode jdk_52_method_21_code 1 = .ok (.istore 5, 2) := by decide +kernel
theorem d6_3 : decode jdk_52_method_21_code 3 = .ok (.iload 5, 2) := by decide +kernel
theorem d6_5 : decode jdk_52_method_21_code 5 = .ok (.iload 4, 2) := by decide +kernel
theorem d6_7 : decode jdk_52_method_21_code 7 = .ok (.if_icmp .ge 37, 3) := by decide +kernel
theorem d6_10 : decode jdk_52_method_21_code 10 = .ok (.aload_n 0, 1) := by decide +kernel
theorem d6_11 : decode jdk_52_method_21_code 11 = .ok (.iload_n 1, 1) := by decide +kernel
theorem d6_12 : decode jdk_52_method_21_code 12 = .ok (.caload, 1) := by decide +kernel
theorem d6_13 : decode jdk_52_method_21_code 13 = .ok (.istore 6, 2) := by decide +kernel
theorem d6_15 : decode jdk_52_method_21_code 15 = .ok (.iload 6, 2) := by decide +kernel
theorem d6_17 : decode jdk_52_method_21_code 17 = .ok (.sipush 255, 3) := by decide +kernel
theorem d6_20 : decode jdk_52_method_21_code 20 = .ok (.if_icmp .le 6, 3) := by decide +kernel
theorem d6_26 : decode jdk_52_method_21_code 26 = .ok (.aload_n 2, 1) := by decide +kernel
theorem d6_27 : decode jdk_52_method_21_code 27 = .ok (.iload_n 3, 1) := by decide +kernel
theorem d6_28 : decode jdk_52_method_21_code 28 = .ok (.iload 6, 2) := by decide +kernel
theorem d6_30 : decode jdk_52_method_21_code 30 = .ok (.i2b, 1) := by decide +kernel
theorem d6_31 : decode jdk_52_method_21_code 31 = .ok (.bastore, 1) := by decide +kernel
theorem d6_32 : decode jdk_52_method_21_code 32 = .ok (.iinc 1 1, 3) := by decide +kernel
theorem d6_35 : decode jdk_52_method_21_code 35 = .ok (.iinc 3 1, 3) := by decide +kernel
theorem d6_38 : decode jdk_52_method_21_code 38 = .ok (.iinc 5 1, 3) := by decide +kernel
theorem d6_41 : decode jdk_52_method_21_code 41 = .ok (.goto (-38), 3) := by decide +kernel
theorem d6_44 : decode jdk_52_method_21_code 44 = .ok (.iload 4, 2) := by decide +kernel
theorem d6_46 : decode jdk_52_method_21_code 46 = .ok (.ireturn, 1) := by decide +kernel
theorem pn_3 : plainName "java/lang/StringUTF16" = true := by first | (simp [plainName, overriddenIn]; done) | decide +kernel
theorem ef_co1 (m : MethodId) (x0 : Addr) (x1 : Int32) (x2 : Addr) (x3 : Int32) (x4 : Int32) : entryFrame m #[(.ref x0), (.int x1), (.ref x2), (.int x3), (.int x4)] 7 = mkF m 0 #[.val (.ref x0), .val (.int x1), .val (.ref x2), .val (.int x3), .val (.int x4), .unset, .unset] [] := by first | (simp [entryFrame, mkF, argsToLocals, Value.category]; done) | rfl
def Qco1 (Z : State) (ca : Addr) (ba : Addr) (q0 : Int32) (kc kb : ClassId) (h0 : Heap) (n0 : Nat) (v : Option Value) (h : Heap) (L : List Loc) : Prop := v = some (.int (1 : Int32)) ∧ Fr n0 L ∧ Keep h0 h [ba] ∧ Arv Z h ba kb .byte (1 : Int32) [(.int (q0.toInt8.toInt32))] (.int (0 : Int32))
set_option maxRecDepth 65536 in
set_option maxHeartbeats 40000000 in
theorem rmco1 (l : Launch) (Z : State) (a0 : Array Value) (hw : ∀ d ∈ tables_1, d.before a0 Z = true) (ws : List Jvm.Cond) (ca : Addr) (ba : Addr) (q0 : Int32) (kc kb : ClassId) (h0 : Heap) (n0 : Nat) (Z0 : n0 ≤ h0.size) (A1 : Arv Z h0 ca kc .char (1 : Int32) [(.int q0)] (.int (0 : Int32))) (A2 : Arv Z h0 ba kb .byte (1 : Int32) [(.int (0 : Int32))] (.int (0 : Int32))) (gb : n0 ≤ ba) (ncb : ca ≠ ba) (hq0 : ¬ (255 : Int32) < q0) :
    MetFree l (⟨"java/lang/StringUTF16", "compress", "([CI[BII)I"⟩ : MethodName) (head1 (Jvm.Cond.code (⟨"java/lang/StringUTF16", "compress", "([CI[BII)I"⟩ : MethodName) jdk_52_method_21_code 7 (some .int) :: ws) ({ frames := 0, cells := 0, slots := 0, locals := 0 } : Room)) (fun aA U => aA = #[(.ref ca), (.int (0 : Int32)), (.ref ba), (.int (0 : Int32)), (.int (1 : Int32))] ∧ Z.Warmed39 U.vm ∧ U.heap = h0) (fun _ _ _ _ _ => True) (fun _ U oO U' => ∃ vV LL, oO = .returned vV ∧ Qco1 Z ca ba q0 kc kb h0 n0 vV U'.heap LL ∧ FrameEnd U oO U' LL ({ frames := 0, cells := 0, slots := 0, locals := 0 } : Room).cells ({ frames := 0, cells := 0, slots := 0, locals := 0 } : Room).slots) := by
  refine MetFree.of_bodySF (plainFor_of_name pn_3) hisR ?_
  intro p e s m args below meth c s₁ Bd hml0 hP hK
  obtain ⟨rfl, hZ, hh⟩ := hP
  have hx := Bd.exec
  have hby := Bd.bytes
  have hml : c.maxLocals = 7 := hml0
  have hown : s.vm.findClass "java/lang/StringUTF16" = some m.cls := findClass_of_methodNamed Bd.named
  have hnm := (name_of_methodNamed Bd.named Bd.method).1
  have X0 : Stand p l e ({ frames := 0, cells := 0, slots := 0, locals := 0 } : Room) s m #[(.ref ca), (.int (0 : Int32)), (.ref ba), (.int (0 : Int32)), (.int (1 : Int32))] below meth c s₁ [] 0 0 := Stand.of_body Bd
  have e0 : s₁.heap = h0 := by rw [← hh, Bd.state]; rfl
  have N0 := Fr.nil n0
  have K0 : Keep h0 h0 [ba] := Keep.refl _ _
  have pre0 : Rch p.tables e below (s₁.setTop (entryFrame m #[(.ref ca), (.int (0 : Int32)), (.ref ba), (.int (0 : Int32)), (.int (1 : Int32))] 7)) (s₁.setTop (mkF m 0 #[.val (.ref ca), .val (.int (0 : Int32)), .val (.ref ba), .val (.int (0 : Int32)), .val (.int (1 : Int32)), .unset, .unset] [])) := fun tgt ktg => castTop (ef_co1 m ca (0 : Int32) ba (0 : Int32) (1 : Int32)) ktg
  have pre_1 : Rch p.tables e below (s₁.setTop (entryFrame m #[(.ref ca), (.int (0 : Int32)), (.ref ba), (.int (0 : Int32)), (.int (1 : Int32))] 7)) (s₁.setTop (mkF m 12 #[.val (.ref ca), .val (.int (0 : Int32)), .val (.ref ba), .val (.int (0 : Int32)), .val (.int (1 : Int32)), .val (.int (0 : Int32)), .unset] [(.int (0 : Int32)), (.ref ca)])) := fun tgt ktg => pre0 tgt (by
    show Steps p.tables e below (s₁.setTop (mkF m 0 #[.val (.ref ca), .val (.int (0 : Int32)), .val (.ref ba), .val (.int (0 : Int32)), .val (.int (1 : Int32)), .unset, .unset] [])) _
    refine XS.iconst X0.here hx rfl (hb hby d6_0) ?_
    show Steps p.tables e below (s₁.setTop (mkF m 1 #[.val (.ref ca), .val (.int (0 : Int32)), .val (.ref ba), .val (.int (0 : Int32)), .val (.int (1 : Int32)), .unset, .unset] [(.int (0 : Int32))])) _
    refine XS.istore X0.here hx rfl (hb hby d6_1) rfl (l' := #[.val (.ref ca), .val (.int (0 : Int32)), .val (.ref ba), .val (.int (0 : Int32)), .val (.int (1 : Int32)), .val (.int (0 : Int32)), .unset]) rfl ?_
    show Steps p.tables e below (s₁.setTop (mkF m 3 #[.val (.ref ca), .val (.int (0 : Int32)), .val (.ref ba), .val (.int (0 : Int32)), .val (.int (1 : Int32)), .val (.int (0 : Int32)), .unset] [])) _
    refine XS.iload X0.here hx rfl (hb hby d6_3) rfl ?_
    show Steps p.tables e below (s₁.setTop (mkF m 5 #[.val (.ref ca), .val (.int (0 : Int32)), .val (.ref ba), .val (.int (0 : Int32)), .val (.int (1 : Int32)), .val (.int (0 : Int32)), .unset] [(.int (0 : Int32))])) _
    refine XS.iload X0.here hx rfl (hb hby d6_5) rfl ?_
    show Steps p.tables e below (s₁.setTop (mkF m 7 #[.val (.ref ca), .val (.int (0 : Int32)), .val (.ref ba), .val (.int (0 : Int32)), .val (.int (1 : Int32)), .val (.int (0 : Int32)), .unset] [(.int (1 : Int32)), (.int (0 : Int32))])) _
    refine XS.icmpNo X0.here hx rfl (hb hby d6_7) rfl (tlt (by decide : (0 : Int32) < (1 : Int32))).2.1 ?_
    show Steps p.tables e below (s₁.setTop (mkF m 10 #[.val (.ref ca), .val (.int (0 : Int32)), .val (.ref ba), .val (.int (0 : Int32)), .val (.int (1 : Int32)), .val (.int (0 : Int32)), .unset] [])) _
    refine XS.aloadN X0.here hx rfl (hb hby d6_10) rfl rfl ?_
    show Steps p.tables e below (s₁.setTop (mkF m 11 #[.val (.ref ca), .val (.int (0 : Int32)), .val (.ref ba), .val (.int (0 : Int32)), .val (.int (1 : Int32)), .val (.int (0 : Int32)), .unset] [(.ref ca)])) _
    refine XS.iloadN X0.here hx rfl (hb hby d6_11) rfl ?_
    exact ktg)
  obtain ⟨cl__2, Ar__2, q__2, S__2, N__2, H__2, G__2⟩ := id A1
  have hin__2 : ¬ ((0 : Int32) < 0 ∨ cl__2.slots.size ≤ ((0 : Int32)).toNatClampNeg) := inb_of S__2 ⟨by decide, by decide⟩
  have hat__2 : cl__2.slots[((0 : Int32)).toNatClampNeg]? = some (.int q0) := H__2.at hin__2 rfl
  have pre_3 : Rch p.tables e below (s₁.setTop (entryFrame m #[(.ref ca), (.int (0 : Int32)), (.ref ba), (.int (0 : Int32)), (.int (1 : Int32))] 7)) (s₁.setTop (mkF m 13 #[.val (.ref ca), .val (.int (0 : Int32)), .val (.ref ba), .val (.int (0 : Int32)), .val (.int (1 : Int32)), .val (.int (0 : Int32)), .unset] [(.int q0)])) := fun tgt ktg => pre_1 tgt (X0.caload hx (j := (0 : Int32)) (v := (.int q0)) (by rw [e0]; exact Ar__2.1) (State.isArrayOf_alike hZ.alike Ar__2.2.1) Ar__2.2.2 hin__2 hat__2 (g := (mkF m 12 #[.val (.ref ca), .val (.int (0 : Int32)), .val (.ref ba), .val (.int (0 : Int32)), .val (.int (1 : Int32)), .val (.int (0 : Int32)), .unset] [(.int (0 : Int32)), (.ref ca)])) rfl rfl (hb hby d6_12) _ ktg)
  have pre_4 : Rch p.tables e below (s₁.setTop (entryFrame m #[(.ref ca), (.int (0 : Int32)), (.ref ba), (.int (0 : Int32)), (.int (1 : Int32))] 7)) (s₁.setTop (mkF m 31 #[.val (.ref ca), .val (.int (0 : Int32)), .val (.ref ba), .val (.int (0 : Int32)), .val (.int (1 : Int32)), .val (.int (0 : Int32)), .val (.int q0)] [(.int (q0.toInt8.toInt32)), (.int (0 : Int32)), (.ref ba)])) := fun tgt ktg => pre_3 tgt (by
    show Steps p.tables e below (s₁.setTop (mkF m 13 #[.val (.ref ca), .val (.int (0 : Int32)), .val (.ref ba), .val (.int (0 : Int32)), .val (.int (1 : Int32)), .val (.int (0 : Int32)), .unset] [(.int q0)])) _
    refine XS.istore X0.here hx rfl (hb hby d6_13) rfl (l' := #[.val (.ref ca), .val (.int (0 : Int32)), .val (.ref ba), .val (.int (0 : Int32)), .val (.int (1 : Int32)), .val (.int (0 : Int32)), .val (.int q0)]) rfl ?_
    show Steps p.tables e below (s₁.setTop (mkF m 15 #[.val (.ref ca), .val (.int (0 : Int32)), .val (.ref ba), .val (.int (0 : Int32)), .val (.int (1 : Int32)), .val (.int (0 : Int32)), .val (.int q0)] [])) _
    refine XS.iload X0.here hx rfl (hb hby d6_15) rfl ?_
    show Steps p.tables e below (s₁.setTop (mkF m 17 #[.val (.ref ca), .val (.int (0 : Int32)), .val (.ref ba), .val (.int (0 : Int32)), .val (.int (1 : Int32)), .val (.int (0 : Int32)), .val (.int q0)] [(.int q0)])) _
    refine XS.sipush X0.here hx rfl (hb hby d6_17) ?_
    show Steps p.tables e below (s₁.setTop (mkF m 20 #[.val (.ref ca), .val (.int (0 : Int32)), .val (.ref ba), .val (.int (0 : Int32)), .val (.int (1 : Int32)), .val (.int (0 : Int32)), .val (.int q0)] [(.int (255 : Int32)), (.int q0)])) _
    refine XS.icmpYes X0.here hx rfl (pc0 := 20) (pc' := 26) rfl (hb hby d6_20) rfl (flt hq0).2.2.2 (by decide) (by decide) ?_
    show Steps p.tables e below (s₁.setTop (mkF m 26 #[.val (.ref ca), .val (.int (0 : Int32)), .val (.ref ba), .val (.int (0 : Int32)), .val (.int (1 : Int32)), .val (.int (0 : Int32)), .val (.int q0)] [])) _
    refine XS.aloadN X0.here hx rfl (hb hby d6_26) rfl rfl ?_
    show Steps p.tables e below (s₁.setTop (mkF m 27 #[.val (.ref ca), .val (.int (0 : Int32)), .val (.ref ba), .val (.int (0 : Int32)), .val (.int (1 : Int32)), .val (.int (0 : Int32)), .val (.int q0)] [(.ref ba)])) _
    refine XS.iloadN X0.here hx rfl (hb hby d6_27) rfl ?_
    show Steps p.tables e below (s₁.setTop (mkF m 28 #[.val (.ref ca), .val (.int (0 : Int32)), .val (.ref ba), .val (.int (0 : Int32)), .val (.int (1 : Int32)), .val (.int (0 : Int32)), .val (.int q0)] [(.int (0 : Int32)), (.ref ba)])) _
    refine XS.iload X0.here hx rfl (hb hby d6_28) rfl ?_
    show Steps p.tables e below (s₁.setTop (mkF m 30 #[.val (.ref ca), .val (.int (0 : Int32)), .val (.ref ba), .val (.int (0 : Int32)), .val (.int (1 : Int32)), .val (.int (0 : Int32)), .val (.int q0)] [(.int q0), (.int (0 : Int32)), (.ref ba)])) _
    refine XT.i2b X0.here hx rfl (hb hby d6_30) rfl ?_
    exact ktg)
  obtain ⟨cl__5, Ar__5, q__5, S__5, N__5, H__5, G__5⟩ := id A2
  have hin__5 : ¬ ((0 : Int32) < 0 ∨ cl__5.slots.size ≤ ((0 : Int32)).toNatClampNeg) := inb_of S__5 ⟨by decide, by decide⟩
  obtain ⟨T_6, h_6, X_6, e_6, W_6, st_6⟩ := stB X0 hx hZ e0 Ar__5 (j := (0 : Int32)) hin__5 (g := (mkF m 31 #[.val (.ref ca), .val (.int (0 : Int32)), .val (.ref ba), .val (.int (0 : Int32)), .val (.int (1 : Int32)), .val (.int (0 : Int32)), .val (.int q0)] [(.int (q0.toInt8.toInt32)), (.int (0 : Int32)), (.ref ba)])) rfl rfl (hb hby d6_31)
  have pre_6 : Rch p.tables e below (s₁.setTop (entryFrame m #[(.ref ca), (.int (0 : Int32)), (.ref ba), (.int (0 : Int32)), (.int (1 : Int32))] 7)) (T_6.setTop (mkF m 32 #[.val (.ref ca), .val (.int (0 : Int32)), .val (.ref ba), .val (.int (0 : Int32)), .val (.int (1 : Int32)), .val (.int (0 : Int32)), .val (.int q0)] [])) := fun tgt ktg => pre_4 tgt (st_6 tgt ktg)
  have f_7 : Arv Z h_6 ca kc .char (1 : Int32) [(.int q0)] (.int (0 : Int32)) := A1.other W_6 ncb
  have z_8 : n0 ≤ h_6.size := Nat.le_trans Z0 (Keep.of_wr W_6).1
  have K_9 : Keep h0 h_6 [ba] := K0.wr W_6 (Or.inl (List.mem_of_getElem? (i := 0) rfl))
  have f_10 : Arv Z h_6 ba kb .byte (1 : Int32) [(.int (nar .byte (q0.toInt8.toInt32)))] (.int (0 : Int32)) := Arv.set Ar__5 q__5 S__5 N__5 H__5 G__5 (fits_nar_byte _) W_6 0 rfl (Nat.le_of_ble_eq_true rfl)
  have N_11 := Fr.snoc X_6 N0 gb
  rw [own_idem] at f_10
  have pre_12 : Rch p.tables e below (s₁.setTop (entryFrame m #[(.ref ca), (.int (0 : Int32)), (.ref ba), (.int (0 : Int32)), (.int (1 : Int32))] 7)) (T_6.setTop (mkF m 46 #[.val (.ref ca), .val (.int (1 : Int32)), .val (.ref ba), .val (.int (1 : Int32)), .val (.int (1 : Int32)), .val (.int (1 : Int32)), .val (.int q0)] [(.int (1 : Int32))])) := fun tgt ktg => pre_6 tgt (by
    show Steps p.tables e below (T_6.setTop (mkF m 32 #[.val (.ref ca), .val (.int (0 : Int32)), .val (.ref ba), .val (.int (0 : Int32)), .val (.int (1 : Int32)), .val (.int (0 : Int32)), .val (.int q0)] [])) _
    refine XS.iinc X_6.here hx rfl (hb hby d6_32) rfl (l' := #[.val (.ref ca), .val (.int (1 : Int32)), .val (.ref ba), .val (.int (0 : Int32)), .val (.int (1 : Int32)), .val (.int (0 : Int32)), .val (.int q0)]) rfl ?_
    show Steps p.tables e below (T_6.setTop (mkF m 35 #[.val (.ref ca), .val (.int (1 : Int32)), .val (.ref ba), .val (.int (0 : Int32)), .val (.int (1 : Int32)), .val (.int (0 : Int32)), .val (.int q0)] [])) _
    refine XS.iinc X_6.here hx rfl (hb hby d6_35) rfl (l' := #[.val (.ref ca), .val (.int (1 : Int32)), .val (.ref ba), .val (.int (1 : Int32)), .val (.int (1 : Int32)), .val (.int (0 : Int32)), .val (.int q0)]) rfl ?_
    show Steps p.tables e below (T_6.setTop (mkF m 38 #[.val (.ref ca), .val (.int (1 : Int32)), .val (.ref ba), .val (.int (1 : Int32)), .val (.int (1 : Int32)), .val (.int (0 : Int32)), .val (.int q0)] [])) _
    refine XS.iinc X_6.here hx rfl (hb hby d6_38) rfl (l' := #[.val (.ref ca), .val (.int (1 : Int32)), .val (.ref ba), .val (.int (1 : Int32)), .val (.int (1 : Int32)), .val (.int (1 : Int32)), .val (.int q0)]) rfl ?_
    show Steps p.tables e below (T_6.setTop (mkF m 41 #[.val (.ref ca), .val (.int (1 : Int32)), .val (.ref ba), .val (.int (1 : Int32)), .val (.int (1 : Int32)), .val (.int (1 : Int32)), .val (.int q0)] [])) _
    refine XS.goto X_6.here hx rfl (pc0 := 41) (pc' := 3) rfl (hb hby d6_41) (by decide) (by decide) ?_
    show Steps p.tables e below (T_6.setTop (mkF m 3 #[.val (.ref ca), .val (.int (1 : Int32)), .val (.ref ba), .val (.int (1 : Int32)), .val (.int (1 : Int32)), .val (.int (1 : Int32)), .val (.int q0)] [])) _
    refine XS.iload X_6.here hx rfl (hb hby d6_3) rfl ?_
    show Steps p.tables e below (T_6.setTop (mkF m 5 #[.val (.ref ca), .val (.int (1 : Int32)), .val (.ref ba), .val (.int (1 : Int32)), .val (.int (1 : Int32)), .val (.int (1 : Int32)), .val (.int q0)] [(.int (1 : Int32))])) _
    refine XS.iload X_6.here hx rfl (hb hby d6_5) rfl ?_
    show Steps p.tables e below (T_6.setTop (mkF m 7 #[.val (.ref ca), .val (.int (1 : Int32)), .val (.ref ba), .val (.int (1 : Int32)), .val (.int (1 : Int32)), .val (.int (1 : Int32)), .val (.int q0)] [(.int (1 : Int32)), (.int (1 : Int32))])) _
    refine XS.icmpYes X_6.here hx rfl (pc0 := 7) (pc' := 44) rfl (hb hby d6_7) rfl (flt (by decide : ¬ ((1 : Int32) < (1 : Int32)))).2.1 (by decide) (by decide) ?_
    show Steps p.tables e below (T_6.setTop (mkF m 44 #[.val (.ref ca), .val (.int (1 : Int32)), .val (.ref ba), .val (.int (1 : Int32)), .val (.int (1 : Int32)), .val (.int (1 : Int32)), .val (.int q0)] [])) _
    refine XS.iload X_6.here hx rfl (hb hby d6_44) rfl ?_
    exact ktg)
  obtain ⟨fs, hr, hrun, hended, hW, hsame⟩ := X_6.leave (v := some (.int (1 : Int32))) (fun h => by rw [Bd.returns] at h; cases h)
  refine ⟨_, _, pre_12 _ ?_, hrun, hended, _, _, rfl, ?_, ⟨_, rfl⟩, hW, hsame.mono (by decide) (by decide)⟩
  · show Steps p.tables e below (T_6.setTop (mkF m 46 #[.val (.ref ca), .val (.int (1 : Int32)), .val (.ref ba), .val (.int (1 : Int32)), .val (.int (1 : Int32)), .val (.int (1 : Int32)), .val (.int q0)] [(.int (1 : Int32))])) _
    exact retI X_6 hx Bd.returns (hb hby d6_46) hr
  · show Qco1 Z ca ba q0 kc kb h0 n0 _ T_6.heap _
    rw [e_6]
    exact ⟨rfl, N_11, K_9, f_10⟩
theorem d5_0 : decode jdk_52_method_16_code 0 = .ok (.iload_n 2, 1) := by decide +kernel
theorem d5_1 : decode jdk_52_method_16_code 1 = .ok (.newarray .byte, 2) := by decide +kernel
theorem d5_3 : decode jdk_52_method_16_code 3 = .ok (.astore_n 3, 1) := by decide +kernel
theorem d5_4 : decode jdk_52_method_16_code 4 = .ok (.aload_n 0, 1) := by decide +kernel
theorem d5_5 : decode jdk_52_method_16_code 5 = .ok (.iload_n 1, 1) := by decide +kernel
theorem d5_6 : decode jdk_52_method_16_code 6 = .ok (.aload_n 3, 1) := by decide +kernel
theorem d5_7 : decode jdk_52_method_16_code 7 = .ok (.iconst 0, 1) := by decide +kernel
theorem d5_8 : decode jdk_52_method_16_code 8 = .ok (.iload_n 2, 1) := by decide +kernel
theorem d5_9 : decode jdk_52_method_16_code 9 = .ok (.invokestatic 115, 3) := by decide +kernel
theorem pd_7 : parseMethodDescriptor "([CI[BII)I" = some ⟨[(.array .char), .int, (.array .byte), .int, .int], some .int⟩ := by decide +kernel
theorem d5_12 : decode jdk_52_method_16_code 12 = .ok (.istore 4, 2) := by decide +kernel
theorem d5_14 : decode jdk_52_method_16_code 14 = .ok (.iload 4, 2) := by decide +kernel
theorem d5_16 : decode jdk_52_method_16_code 16 = .ok (.iload_n 2, 1) := by decide +kernel
theorem d5_17 : decode jdk_52_method_16_code 17 = .ok (.if_icmp .eq 40, 3) := by decide +kernel
theorem d5_57 : decode jdk_52_method_16_code 57 = .ok (.aload_n 3, 1) := by decide +kernel
theorem d5_58 : decode jdk_52_method_16_code 58 = .ok (.areturn, 1) := by decide +kernel
theorem ef_cp1 (m : MethodId) (x0 : Addr) (x1 : Int32) (x2 : Int32) : entryFrame m #[(.ref x0), (.int x1), (.int x2)] 6 = mkF m 0 #[.val (.ref x0), .val (.int x1), .val (.int x2), .unset, .unset, .unset] [] := by first | (simp [entryFrame, mkF, argsToLocals, Value.category]; done) | rfl
def Qcp1 (Z : State) (ca : Addr) (q0 : Int32) (kc : ClassId) (h0 : Heap) (n0 : Nat) (v : Option Value) (h : Heap) (L : List Loc) : Prop := ∃ (ba : Addr) (kb : ClassId), v = some (.ref ba) ∧ Fr n0 L ∧ Keep h0 h [] ∧ h0.size ≤ ba ∧ n0 ≤ ba ∧ Arv Z h ba kb .byte (1 : Int32) [(.int (q0.toInt8.toInt32))] (.int (0 : Int32))
set_option maxRecDepth 65536 in
set_option maxHeartbeats 40000000 in
theorem rmcp1 (l : Launch) (Z : State) (a0 : Array Value) (hw : ∀ d ∈ tables_1, d.before a0 Z = true) (ws : List Jvm.Cond) (ca : Addr) (q0 : Int32) (kc : ClassId) (h0 : Heap) (n0 : Nat) (Z0 : n0 ≤ h0.size) (A1 : Arv Z h0 ca kc .char (1 : Int32) [(.int q0)] (.int (0 : Int32))) (hq0 : ¬ (255 : Int32) < q0) :
    MetFree l (⟨"java/lang/StringUTF16", "compress", "([CII)[B"⟩ : MethodName) (head1 (Jvm.Cond.code (⟨"java/lang/StringUTF16", "compress", "([CII)[B"⟩ : MethodName) jdk_52_method_16_code 6 (some (.array .byte)) :: ws) ({ frames := 1, cells := 1, slots := 1, locals := 18 } : Room)) (fun aA U => aA = #[(.ref ca), (.int (0 : Int32)), (.int (1 : Int32))] ∧ Z.Warmed39 U.vm ∧ U.heap = h0) (fun _ _ _ _ _ => True) (fun _ U oO U' => ∃ vV LL, oO = .returned vV ∧ Qcp1 Z ca q0 kc h0 n0 vV U'.heap LL ∧ FrameEnd U oO U' LL ({ frames := 1, cells := 1, slots := 1, locals := 18 } : Room).cells ({ frames := 1, cells := 1, slots := 1, locals := 18 } : Room).slots) := by
  refine MetFree.of_bodySF (plainFor_of_name pn_3) hisR ?_
  intro p e s m args below meth c s₁ Bd hml0 hP hK
  obtain ⟨rfl, hZ, hh⟩ := hP
  have hx := Bd.exec
  have hby := Bd.bytes
  have hml : c.maxLocals = 6 := hml0
  have hown : s.vm.findClass "java/lang/StringUTF16" = some m.cls := findClass_of_methodNamed Bd.named
  have hnm := (name_of_methodNamed Bd.named Bd.method).1
  have X0 : Stand p l e ({ frames := 1, cells := 1, slots := 1, locals := 18 } : Room) s m #[(.ref ca), (.int (0 : Int32)), (.int (1 : Int32))] below meth c s₁ [] 0 0 := Stand.of_body Bd
  have e0 : s₁.heap = h0 := by rw [← hh, Bd.state]; rfl
  have N0 := Fr.nil n0
  have K0 : Keep h0 h0 [] := Keep.refl _ _
  have pre0 : Rch p.tables e below (s₁.setTop (entryFrame m #[(.ref ca), (.int (0 : Int32)), (.int (1 : Int32))] 6)) (s₁.setTop (mkF m 0 #[.val (.ref ca), .val (.int (0 : Int32)), .val (.int (1 : Int32)), .unset, .unset, .unset] [])) := fun tgt ktg => castTop (ef_cp1 m ca (0 : Int32) (1 : Int32)) ktg
  have pre_1 : Rch p.tables e below (s₁.setTop (entryFrame m #[(.ref ca), (.int (0 : Int32)), (.int (1 : Int32))] 6)) (s₁.setTop (mkF m 1 #[.val (.ref ca), .val (.int (0 : Int32)), .val (.int (1 : Int32)), .unset, .unset, .unset] [(.int (1 : Int32))])) := fun tgt ktg => pre0 tgt (by
    show Steps p.tables e below (s₁.setTop (mkF m 0 #[.val (.ref ca), .val (.int (0 : Int32)), .val (.int (1 : Int32)), .unset, .unset, .unset] [])) _
    refine XS.iloadN X0.here hx rfl (hb hby d5_0) rfl ?_
    exact ktg)
  obtain ⟨T_2, h_2, k_2, X_2, e_2, E_2, A_2, st_2⟩ := newP X0 hx hZ (hw _ (List.mem_of_getElem? (i := 23) rfl)) e0 (g := (mkF m 1 #[.val (.ref ca), .val (.int (0 : Int32)), .val (.int (1 : Int32)), .unset, .unset, .unset] [(.int (1 : Int32))])) rfl (hb hby d5_1) rfl (by decide) (cap := 1) (by decide) (by decide) (by decide) (by decide)
  obtain ⟨ba, g_2⟩ : ∃ nm_, nm_ = h0.size := ⟨_, rfl⟩
  rw [← g_2] at A_2 st_2
  have ne_ca_ba : ca ≠ ba := Nat.ne_of_lt (Nat.lt_of_lt_of_le A1.lt (Nat.le_of_eq g_2.symm))
  have g_ba : n0 ≤ ba := Nat.le_trans Z0 (Nat.le_of_eq g_2.symm)
  have sz_ba : h0.size ≤ ba := Nat.le_trans K0.1 (Nat.le_of_eq g_2.symm)
  have pre_2 : Rch p.tables e below (s₁.setTop (entryFrame m #[(.ref ca), (.int (0 : Int32)), (.int (1 : Int32))] 6)) (T_2.setTop (mkF m 3 #[.val (.ref ca), .val (.int (0 : Int32)), .val (.int (1 : Int32)), .unset, .unset, .unset] [(.ref ba)])) := fun tgt ktg => pre_1 tgt (st_2 tgt ktg)
  have f_3 : Arv Z h_2 ca kc .char (1 : Int32) [(.int q0)] (.int (0 : Int32)) := A1.ext E_2
  have z_4 : n0 ≤ h_2.size := Nat.le_trans Z0 E_2.1
  have K_5 : Keep h0 h_2 [] := K0.ext E_2
  have f_6 : Arv Z h_2 ba k_2 .byte (1 : Int32) [(.int (0 : Int32))] (.int (0 : Int32)) := (Arv.new A_2 (by decide)).pad (pad_rep [] (.int (0 : Int32)) 1)
  have pre_7 : Rch p.tables e below (s₁.setTop (entryFrame m #[(.ref ca), (.int (0 : Int32)), (.int (1 : Int32))] 6)) (T_2.setTop (mkF m 9 #[.val (.ref ca), .val (.int (0 : Int32)), .val (.int (1 : Int32)), .val (.ref ba), .unset, .unset] [(.int (1 : Int32)), (.int (0 : Int32)), (.ref ba), (.int (0 : Int32)), (.ref ca)])) := fun tgt ktg => pre_2 tgt (by
    show Steps p.tables e below (T_2.setTop (mkF m 3 #[.val (.ref ca), .val (.int (0 : Int32)), .val (.int (1 : Int32)), .unset, .unset, .unset] [(.ref ba)])) _
    refine XS.astoreN X_2.here hx rfl (hb hby d5_3) rfl rfl (l' := #[.val (.ref ca), .val (.int (0 : Int32)), .val (.int (1 : Int32)), .val (.ref ba), .unset, .unset]) rfl ?_
    show Steps p.tables e below (T_2.setTop (mkF m 4 #[.val (.ref ca), .val (.int (0 : Int32)), .val (.int (1 : Int32)), .val (.ref ba), .unset, .unset] [])) _
    refine XS.aloadN X_2.here hx rfl (hb hby d5_4) rfl rfl ?_
    show Steps p.tables e below (T_2.setTop (mkF m 5 #[.val (.ref ca), .val (.int (0 : Int32)), .val (.int (1 : Int32)), .val (.ref ba), .unset, .unset] [(.ref ca)])) _
    refine XS.iloadN X_2.here hx rfl (hb hby d5_5) rfl ?_
    show Steps p.tables e below (T_2.setTop (mkF m 6 #[.val (.ref ca), .val (.int (0 : Int32)), .val (.int (1 : Int32)), .val (.ref ba), .unset, .unset] [(.int (0 : Int32)), (.ref ca)])) _
    refine XS.aloadN X_2.here hx rfl (hb hby d5_6) rfl rfl ?_
    show Steps p.tables e below (T_2.setTop (mkF m 7 #[.val (.ref ca), .val (.int (0 : Int32)), .val (.int (1 : Int32)), .val (.ref ba), .unset, .unset] [(.ref ba), (.int (0 : Int32)), (.ref ca)])) _
    refine XS.iconst X_2.here hx rfl (hb hby d5_7) ?_
    show Steps p.tables e below (T_2.setTop (mkF m 8 #[.val (.ref ca), .val (.int (0 : Int32)), .val (.int (1 : Int32)), .val (.ref ba), .unset, .unset] [(.int (0 : Int32)), (.ref ba), (.int (0 : Int32)), (.ref ca)])) _
    refine XS.iloadN X_2.here hx rfl (hb hby d5_8) rfl ?_
    exact ktg)
  obtain ⟨_, _, ⟨T_8, L_8, k_8, n_8⟩, -, X_8, ⟨Lc_8, hQ_8, l_8, y_8, z_8⟩, st_8⟩ := Jvm.LawKit.callS X_2 hx (y := (⟨"java/lang/StringUTF16", "compress", "([CI[BII)I"⟩ : MethodName)) hown (mvT hZ (hw _ (List.mem_of_getElem? (i := 24) rfl))) (mvT hZ (hw _ (List.mem_of_getElem? (i := 25) rfl))) (mvT hZ (hw _ (List.mem_of_getElem? (i := 21) rfl))) (mvT hZ (hw _ (List.mem_of_getElem? (i := 26) rfl))) (by decide) (backOf (W := 0) (rmco1 l Z a0 hw [] ca ba q0 kc k_2 h_2 n0 z_4 f_3 f_6 g_ba ne_ca_ba hq0) hZ (hw _ (List.mem_of_getElem? (i := 26) rfl)) (hw _ (List.mem_of_getElem? (i := 21) rfl)) (by decide) (by decide)) (g := (mkF m 9 #[.val (.ref ca), .val (.int (0 : Int32)), .val (.int (1 : Int32)), .val (.ref ba), .unset, .unset] [(.int (1 : Int32)), (.int (0 : Int32)), (.ref ba), (.int (0 : Int32)), (.ref ca)])) rfl (by rw [hml]; rfl) (argsL := [(.ref ca), (.int (0 : Int32)), (.ref ba), (.int (0 : Int32)), (.int (1 : Int32))]) (rest := []) (lenOf pd_7 rfl) rfl (by show 2 * 0 + _ ≤ _; exact Nat.le_of_eq rfl) (hb hby d5_9) (fun _ _ => ⟨rfl, e_2, (by decide : 1 + 0 ≤ _), (by decide : 1 + 0 ≤ _)⟩)
  dsimp only [Pt.U, Pt.locs, Pt.cells, Pt.slots] at X_8 l_8 y_8 z_8 st_8 hQ_8
  subst l_8 y_8 z_8
  obtain ⟨rfl, Nq_8, Kq_8, b0⟩ := hQ_8
  have N_9 := Fr.app N0 Nq_8
  have pre_8 : Rch p.tables e below (s₁.setTop (entryFrame m #[(.ref ca), (.int (0 : Int32)), (.int (1 : Int32))] 6)) (T_8.setTop (mkF m 12 #[.val (.ref ca), .val (.int (0 : Int32)), .val (.int (1 : Int32)), .val (.ref ba), .unset, .unset] [(.int (1 : Int32))])) := fun tgt ktg => pre_7 tgt (st_8 tgt ktg)
  have z_10 : n0 ≤ T_8.heap.size := Nat.le_trans z_4 Kq_8.1
  have K_11 : Keep h0 T_8.heap [] := K_5.trans Kq_8 (allS (P := fun x => x ∈ ([] : List Addr) ∨ h0.size ≤ x) (Or.inr sz_ba) (all0 (P := fun x => x ∈ ([] : List Addr) ∨ h0.size ≤ x)))
  have pre_12 : Rch p.tables e below (s₁.setTop (entryFrame m #[(.ref ca), (.int (0 : Int32)), (.int (1 : Int32))] 6)) (T_8.setTop (mkF m 58 #[.val (.ref ca), .val (.int (0 : Int32)), .val (.int (1 : Int32)), .val (.ref ba), .val (.int (1 : Int32)), .unset] [(.ref ba)])) := fun tgt ktg => pre_8 tgt (by
    show Steps p.tables e below (T_8.setTop (mkF m 12 #[.val (.ref ca), .val (.int (0 : Int32)), .val (.int (1 : Int32)), .val (.ref ba), .unset, .unset] [(.int (1 : Int32))])) _
    refine XS.istore X_8.here hx rfl (hb hby d5_12) rfl (l' := #[.val (.ref ca), .val (.int (0 : Int32)), .val (.int (1 : Int32)), .val (.ref ba), .val (.int (1 : Int32)), .unset]) rfl ?_
    show Steps p.tables e below (T_8.setTop (mkF m 14 #[.val (.ref ca), .val (.int (0 : Int32)), .val (.int (1 : Int32)), .val (.ref ba), .val (.int (1 : Int32)), .unset] [])) _
    refine XS.iload X_8.here hx rfl (hb hby d5_14) rfl ?_
    show Steps p.tables e below (T_8.setTop (mkF m 16 #[.val (.ref ca), .val (.int (0 : Int32)), .val (.int (1 : Int32)), .val (.ref ba), .val (.int (1 : Int32)), .unset] [(.int (1 : Int32))])) _
    refine XS.iloadN X_8.here hx rfl (hb hby d5_16) rfl ?_
    show Steps p.tables e below (T_8.setTop (mkF m 17 #[.val (.ref ca), .val (.int (0 : Int32)), .val (.int (1 : Int32)), .val (.ref ba), .val (.int (1 : Int32)), .unset] [(.int (1 : Int32)), (.int (1 : Int32))])) _
    refine XS.icmpYes X_8.here hx rfl (pc0 := 17) (pc' := 57) rfl (hb hby d5_17) rfl (teq (rfl : (1 : Int32) = (1 : Int32))).1 (by decide) (by decide) ?_
    show Steps p.tables e below (T_8.setTop (mkF m 57 #[.val (.ref ca), .val (.int (0 : Int32)), .val (.int (1 : Int32)), .val (.ref ba), .val (.int (1 : Int32)), .unset] [])) _
    refine XS.aloadN X_8.here hx rfl (hb hby d5_57) rfl rfl ?_
    exact ktg)
  obtain ⟨fs, hr, hrun, hended, hW, hsame⟩ := X_8.leave (v := some (.ref ba)) (fun h => by rw [Bd.returns] at h; cases h)
  refine ⟨_, _, pre_12 _ ?_, hrun, hended, _, _, rfl, ?_, ⟨_, rfl⟩, hW, hsame.mono (by decide) (by decide)⟩
  · show Steps p.tables e below (T_8.setTop (mkF m 58 #[.val (.ref ca), .val (.int (0 : Int32)), .val (.int (1 : Int32)), .val (.ref ba), .val (.int (1 : Int32)), .unset] [(.ref ba)])) _
    jvm_step X_8.here [X_8.here.top, hx, (hb hby d5_58), X_8.method', Bd.returns, Value.isRef, FieldType.isReference]
    first | (intro acts; rw [hr _ acts rfl rfl rfl]) | rw [hr _ _ rfl rfl rfl]
    exact Steps.refl _
  · show Qcp1 Z ca q0 kc h0 n0 _ T_8.heap _
    exact ⟨ba, k_2, rfl, N_9, K_11, sz_ba, g_ba, b0⟩
theorem d7_0 : decode jdk_52_method_15_code 0 = .ok (.iload_n 1, 1) := by decide +kernel
theorem d7_1 : decode jdk_52_method_15_code 1 = .ok (.aload_n 0, 1) := by decide +kernel
theorem d7_2 : decode jdk_52_method_15_code 2 = .ok (.arraylength, 1) := by decide +kernel
theorem d7_3 : decode jdk_52_method_15_code 3 = .ok (.isub, 1) := by decide +kernel
theorem d7_4 : decode jdk_52_method_15_code 4 = .ok (.bipush 31, 2) := by decide +kernel
theorem d7_6 : decode jdk_52_method_15_code 6 = .ok (.iushr, 1) := by decide +kernel
theorem d7_7 : decode jdk_52_method_15_code 7 = .ok (.i2b, 1) := by decide +kernel
theorem d7_8 : decode jdk_52_method_15_code 8 = .ok (.ireturn, 1) := by decide +kernel
theorem ef_cf1 (m : MethodId) (x0 : Addr) (x1 : Int32) : entryFrame m #[(.ref x0), (.int x1)] 2 = mkF m 0 #[.val (.ref x0), .val (.int x1)] [] := by first | (simp [entryFrame, mkF, argsToLocals, Value.category]; done) | rfl
def Qcf1 (Z : State) (ba : Addr) (kb : ClassId) (vs : List Value) (h0 : Heap) (n0 : Nat) (v : Option Value) (h : Heap) (L : List Loc) : Prop := v = some (.int 0) ∧ Fr n0 L ∧ h = h0
set_option maxRecDepth 65536 in
set_option maxHeartbeats 40000000 in
theorem rmcf1 (l : Launch) (Z : State) (a0 : Array Value) (hw : ∀ d ∈ tables_1, d.before a0 Z = true) (ws : List Jvm.Cond) (ba : Addr) (kb : ClassId) (vs : List Value) (h0 : Heap) (n0 : Nat) (Z0 : n0 ≤ h0.size) (A1 : Arv Z h0 ba kb .byte (1 : Int32) vs (.int (0 : Int32))) :
    MetFree l (⟨"java/lang/StringUTF16", "coderFromArrayLen", "([BI)B"⟩ : MethodName) (head1 (Jvm.Cond.code (⟨"java/lang/StringUTF16", "coderFromArrayLen", "([BI)B"⟩ : MethodName) jdk_52_method_15_code 2 (some .byte) :: ws) ({ frames := 0, cells := 0, slots := 0, locals := 0 } : Room)) (fun aA U => aA = #[(.ref ba), (.int (1 : Int32))] ∧ Z.Warmed39 U.vm ∧ U.heap = h0) (fun _ _ _ _ _ => True) (fun _ U oO U' => ∃ vV LL, oO = .returned vV ∧ Qcf1 Z ba kb vs h0 n0 vV U'.heap LL ∧ FrameEnd U oO U' LL ({ frames := 0, cells := 0, slots := 0, locals := 0 } : Room).cells ({ frames := 0, cells := 0, slots := 0, locals := 0 } : Room).slots) := by
  refine MetFree.of_bodySF (plainFor_of_name pn_3) hisR ?_
  intro p e s m args below meth c s₁ Bd hml0 hP hK
  obtain ⟨rfl, hZ, hh⟩ := hP
  have hx := Bd.exec
  have hby := Bd.bytes
  have hml : c.maxLocals = 2 := hml0
  have hown : s.vm.findClass "java/lang/StringUTF16" = some m.cls := findClass_of_methodNamed Bd.named
  have hnm := (name_of_methodNamed Bd.named Bd.method).1
  have X0 : Stand p l e ({ frames := 0, cells := 0, slots := 0, locals := 0 } : Room) s m #[(.ref ba), (.int (1 : Int32))] below meth c s₁ [] 0 0 := Stand.of_body Bd
  have e0 : s₁.heap = h0 := by rw [← hh, Bd.state]; rfl
  have N0 := Fr.nil n0
  have K0 : Keep h0 h0 [] := Keep.refl _ _
  have pre0 : Rch p.tables e below (s₁.setTop (entryFrame m #[(.ref ba), (.int (1 : Int32))] 2)) (s₁.setTop (mkF m 0 #[.val (.ref ba), .val (.int (1 : Int32))] [])) := fun tgt ktg => castTop (ef_cf1 m ba (1 : Int32)) ktg
  have pre_1 : Rch p.tables e below (s₁.setTop (entryFrame m #[(.ref ba), (.int (1 : Int32))] 2)) (s₁.setTop (mkF m 2 #[.val (.ref ba), .val (.int (1 : Int32))] [(.ref ba), (.int (1 : Int32))])) := fun tgt ktg => pre0 tgt (by
    show Steps p.tables e below (s₁.setTop (mkF m 0 #[.val (.ref ba), .val (.int (1 : Int32))] [])) _
    refine XS.iloadN X0.here hx rfl (hb hby d7_0) rfl ?_
    show Steps p.tables e below (s₁.setTop (mkF m 1 #[.val (.ref ba), .val (.int (1 : Int32))] [(.int (1 : Int32))])) _
    refine XS.aloadN X0.here hx rfl (hb hby d7_1) rfl rfl ?_
    exact ktg)
  obtain ⟨cl__2, Ar__2, q__2, S__2, N__2, H__2, G__2⟩ := id A1
  have pre_3 : Rch p.tables e below (s₁.setTop (entryFrame m #[(.ref ba), (.int (1 : Int32))] 2)) (s₁.setTop (mkF m 3 #[.val (.ref ba), .val (.int (1 : Int32))] [(.int (1 : Int32)), (.int (1 : Int32))])) := fun tgt ktg => pre_1 tgt (X0.arraylength hx (by rw [e0]; exact Ar__2.1) (State.isArrayOf_alike hZ.alike Ar__2.2.1) (g := (mkF m 2 #[.val (.ref ba), .val (.int (1 : Int32))] [(.ref ba), (.int (1 : Int32))])) rfl rfl (hb hby d7_2) _ (by rw [len_of S__2 N__2]; exact ktg))
  have pre_4 : Rch p.tables e below (s₁.setTop (entryFrame m #[(.ref ba), (.int (1 : Int32))] 2)) (s₁.setTop (mkF m 8 #[.val (.ref ba), .val (.int (1 : Int32))] [(.int ((((0 : Int32).toUInt32 >>> ((31 : Int32) &&& 31).toUInt32).toInt32).toInt8.toInt32))])) := fun tgt ktg => pre_3 tgt (by
    show Steps p.tables e below (s₁.setTop (mkF m 3 #[.val (.ref ba), .val (.int (1 : Int32))] [(.int (1 : Int32)), (.int (1 : Int32))])) _
    refine XS.isub X0.here hx rfl (hb hby d7_3) rfl ?_
    show Steps p.tables e below (s₁.setTop (mkF m 4 #[.val (.ref ba), .val (.int (1 : Int32))] [(.int (0 : Int32))])) _
    refine XS.bipush X0.here hx rfl (hb hby d7_4) ?_
    show Steps p.tables e below (s₁.setTop (mkF m 6 #[.val (.ref ba), .val (.int (1 : Int32))] [(.int (31 : Int32)), (.int (0 : Int32))])) _
    refine XT.iushr X0.here hx rfl (hb hby d7_6) rfl ?_
    show Steps p.tables e below (s₁.setTop (mkF m 7 #[.val (.ref ba), .val (.int (1 : Int32))] [(.int (((0 : Int32).toUInt32 >>> ((31 : Int32) &&& 31).toUInt32).toInt32))])) _
    refine XT.i2b X0.here hx rfl (hb hby d7_7) rfl ?_
    exact ktg)
  obtain ⟨fs, hr, hrun, hended, hW, hsame⟩ := X0.leave (v := some (.int (nar .byte ((((0 : Int32).toUInt32 >>> ((31 : Int32) &&& 31).toUInt32).toInt32).toInt8.toInt32)))) (fun h => by rw [Bd.returns] at h; cases h)
  refine ⟨_, _, pre_4 _ ?_, hrun, hended, _, _, rfl, ?_, ⟨_, rfl⟩, hW, hsame.mono (by decide) (by decide)⟩
  · show Steps p.tables e below (s₁.setTop (mkF m 8 #[.val (.ref ba), .val (.int (1 : Int32))] [(.int ((((0 : Int32).toUInt32 >>> ((31 : Int32) &&& 31).toUInt32).toInt32).toInt8.toInt32))])) _
    exact retN X0 hx (t := .byte) Bd.returns (by simp) (hb hby d7_8) hr
  · show Qcf1 Z ba kb vs h0 n0 _ s₁.heap _
    rw [e0]
    exact ⟨rfl, N0, rfl⟩
theorem d3_0 : decode jdk_42_method_149_code 0 = .ok (.aload_n 0, 1) := by decide +kernel
theorem d3_1 : decode jdk_42_method_149_code 1 = .ok (.invokespecial 1, 3) := by decide +kernel
theorem d3_4 : decode jdk_42_method_149_code 4 = .ok (.iload_n 3, 1) := by decide +kernel
theorem d3_5 : decode jdk_42_method_149_code 5 = .ok (.ifCond .ne 22, 3) := by decide +kernel
theorem d3_27 : decode jdk_42_method_149_code 27 = .ok (.getstatic 38, 3) := by decide +kernel
theorem d3_30 : decode jdk_42_method_149_code 30 = .ok (.ifCond .eq 28, 3) := by decide +kernel
theorem d3_33 : decode jdk_42_method_149_code 33 = .ok (.aload_n 1, 1) := by decide +kernel
theorem d3_34 : decode jdk_42_method_149_code 34 = .ok (.iload_n 2, 1) := by decide +kernel
theorem d3_35 : decode jdk_42_method_149_code 35 = .ok (.iload_n 3, 1) := by decide +kernel
theorem d3_36 : decode jdk_42_method_149_code 36 = .ok (.invokestatic 177, 3) := by decide +kernel
theorem pd_8 : parseMethodDescriptor "([CII)[B" = some ⟨[(.array .char), .int, .int], some (.array .byte)⟩ := by decide +kernel
theorem d3_39 : decode jdk_42_method_149_code 39 = .ok (.astore 5, 2) := by decide +kernel
theorem d3_41 : decode jdk_42_method_149_code 41 = .ok (.aload_n 0, 1) := by decide +kernel
theorem d3_42 : decode jdk_42_method_149_code 42 = .ok (.aload 5, 2) := by decide +kernel
theorem d3_44 : decode jdk_42_method_149_code 44 = .ok (.iload_n 3, 1) := by decide +kernel
theorem d3_45 : decode jdk_42_method_149_code 45 = .ok (.invokestatic 47, 3) := by decide +kernel
theorem pd_9 : parseMethodDescriptor "([BI)B" = some ⟨[(.array .byte), .int], some .byte⟩ := by decide +kernel
theorem d3_48 : decode jdk_42_method_149_code 48 = .ok (.putfield 15, 3) := by decide +kernel
theorem d3_51 : decode jdk_42_method_149_code 51 = .ok (.aload_n 0, 1) := by decide +kernel
theorem d3_52 : decode jdk_42_method_149_code 52 = .ok (.aload 5, 2) := by decide +kernel
theorem d3_54 : decode jdk_42_method_149_code 54 = .ok (.putfield 9, 3) := by decide +kernel
theorem d3_57 : decode jdk_42_method_149_code 57 = .ok (.return_, 1) := by decide +kernel
theorem ef_sv1 (m : MethodId) (x0 : Addr) (x1 : Addr) (x2 : Int32) (x3 : Int32) : entryFrame m #[(.ref x0), (.ref x1), (.int x2), (.int x3), .null] 6 = mkF m 0 #[.val (.ref x0), .val (.ref x1), .val (.int x2), .val (.int x3), .val .null, .unset] [] := by first | (simp [entryFrame, mkF, argsToLocals, Value.category]; done) | rfl
def Qsv1 (Z : State) (a : Addr) (ca : Addr) (q0 : Int32) (kc : ClassId) (h0 : Heap) (n0 : Nat) (v : Option Value) (h : Heap) (L : List Loc) : Prop := ∃ (ba : Addr) (kb : ClassId), v = none ∧ Fr n0 L ∧ Keep h0 h [a] ∧ Exa Z h a "java/lang/String" ∧ Fld Z h a "java/lang/String" "coder" "B" (.int (0 : Int32)) ∧ Fld Z h a "java/lang/String" "value" "[B" (.ref ba) ∧ Arv Z h ba kb .byte (1 : Int32) [(.int (q0.toInt8.toInt32))] (.int (0 : Int32))
set_option maxRecDepth 65536 in
set_option maxHeartbeats 40000000 in
theorem rmsv1 (l : Launch) (Z : State) (a0 : Array Value) (hw : ∀ d ∈ tables_1, d.before a0 Z = true) (ws : List Jvm.Cond) (a : Addr) (ca : Addr) (q0 : Int32) (kc : ClassId) (h0 : Heap) (n0 : Nat) (Z0 : n0 ≤ h0.size) (E1 : Exa Z h0 a "java/lang/String") (F1 : Fld Z h0 a "java/lang/String" "value" "[B" .null) (F2 : Fld Z h0 a "java/lang/String" "coder" "B" (.int (0 : Int32))) (A1 : Arv Z h0 ca kc .char (1 : Int32) [(.int q0)] (.int (0 : Int32))) (nca : ca ≠ a) (ga : n0 ≤ a) (hq0 : ¬ (255 : Int32) < q0) (cs : Int32) (hcs : ¬ cs = 0) (S1 : Sta Z h0 "java/lang/String" "COMPACT_STRINGS" "Z" (.int cs)) :
    MetFree l (⟨"java/lang/String", "<init>", "([CIILjava/lang/Void;)V"⟩ : MethodName) (head1 (Jvm.Cond.code (⟨"java/lang/String", "<init>", "([CIILjava/lang/Void;)V"⟩ : MethodName) jdk_42_method_149_code 6 none :: ws) ({ frames := 2, cells := 1, slots := 1, locals := 40 } : Room)) (fun aA U => aA = #[(.ref a), (.ref ca), (.int (0 : Int32)), (.int (1 : Int32)), .null] ∧ Z.Warmed39 U.vm ∧ U.heap = h0) (fun _ _ _ _ _ => True) (fun _ U oO U' => ∃ vV LL, oO = .returned vV ∧ Qsv1 Z a ca q0 kc h0 n0 vV U'.heap LL ∧ FrameEnd U oO U' LL ({ frames := 2, cells := 1, slots := 1, locals := 40 } : Room).cells ({ frames := 2, cells := 1, slots := 1, locals := 40 } : Room).slots) := by
  refine MetFree.of_bodySF (plainFor_of_name pn_0) hisR ?_
  intro p e s m args below meth c s₁ Bd hml0 hP hK
  obtain ⟨rfl, hZ, hh⟩ := hP
  have hx := Bd.exec
  have hby := Bd.bytes
  have hml : c.maxLocals = 6 := hml0
  have hown : s.vm.findClass "java/lang/String" = some m.cls := findClass_of_methodNamed Bd.named
  have hnm := (name_of_methodNamed Bd.named Bd.method).1
  have X0 : Stand p l e ({ frames := 2, cells := 1, slots := 1, locals := 40 } : Room) s m #[(.ref a), (.ref ca), (.int (0 : Int32)), (.int (1 : Int32)), .null] below meth c s₁ [] 0 0 := Stand.of_body Bd
  have e0 : s₁.heap = h0 := by rw [← hh, Bd.state]; rfl
  have N0 := Fr.nil n0
  have K0 : Keep h0 h0 [a] := Keep.refl _ _
  have pre0 : Rch p.tables e below (s₁.setTop (entryFrame m #[(.ref a), (.ref ca), (.int (0 : Int32)), (.int (1 : Int32)), .null] 6)) (s₁.setTop (mkF m 0 #[.val (.ref a), .val (.ref ca), .val (.int (0 : Int32)), .val (.int (1 : Int32)), .val .null, .unset] [])) := fun tgt ktg => castTop (ef_sv1 m a ca (0 : Int32) (1 : Int32)) ktg
  have pre_1 : Rch p.tables e below (s₁.setTop (entryFrame m #[(.ref a), (.ref ca), (.int (0 : Int32)), (.int (1 : Int32)), .null] 6)) (s₁.setTop (mkF m 1 #[.val (.ref a), .val (.ref ca), .val (.int (0 : Int32)), .val (.int (1 : Int32)), .val .null, .unset] [(.ref a)])) := fun tgt ktg => pre0 tgt (by
    show Steps p.tables e below (s₁.setTop (mkF m 0 #[.val (.ref a), .val (.ref ca), .val (.int (0 : Int32)), .val (.int (1 : Int32)), .val .null, .unset] [])) _
    refine XS.aloadN X0.here hx rfl (hb hby d3_0) rfl rfl ?_
    exact ktg)
  obtain ⟨T_2, X_2, e_2, st_2⟩ := initO X0 hx hZ hown (hw _ (List.mem_of_getElem? (i := 15) rfl)) (hw _ (List.mem_of_getElem? (i := 16) rfl)) (hw _ (List.mem_of_getElem? (i := 17) rfl)) e0 (g := (mkF m 1 #[.val (.ref a), .val (.ref ca), .val (.int (0 : Int32)), .val (.int (1 : Int32)), .val .null, .unset] [(.ref a)])) rfl (by rw [hml]; rfl) rfl (hb hby d3_1) (by decide) (W := 0) (by show 2 * 0 + _ ≤ _; exact Nat.le_of_eq rfl) (by decide)
  have pre_2 : Rch p.tables e below (s₁.setTop (entryFrame m #[(.ref a), (.ref ca), (.int (0 : Int32)), (.int (1 : Int32)), .null] 6)) (T_2.setTop (mkF m 4 #[.val (.ref a), .val (.ref ca), .val (.int (0 : Int32)), .val (.int (1 : Int32)), .val .null, .unset] [])) := fun tgt ktg => pre_1 tgt (st_2 tgt ktg)
  have pre_3 : Rch p.tables e below (s₁.setTop (entryFrame m #[(.ref a), (.ref ca), (.int (0 : Int32)), (.int (1 : Int32)), .null] 6)) (T_2.setTop (mkF m 27 #[.val (.ref a), .val (.ref ca), .val (.int (0 : Int32)), .val (.int (1 : Int32)), .val .null, .unset] [])) := fun tgt ktg => pre_2 tgt (by
    show Steps p.tables e below (T_2.setTop (mkF m 4 #[.val (.ref a), .val (.ref ca), .val (.int (0 : Int32)), .val (.int (1 : Int32)), .val .null, .unset] [])) _
    refine XS.iloadN X_2.here hx rfl (hb hby d3_4) rfl ?_
    show Steps p.tables e below (T_2.setTop (mkF m 5 #[.val (.ref a), .val (.ref ca), .val (.int (0 : Int32)), .val (.int (1 : Int32)), .val .null, .unset] [(.int (1 : Int32))])) _
    refine XS.ifYes X_2.here hx rfl (pc0 := 5) (pc' := 27) rfl (hb hby d3_5) rfl ((if0 _ _).trans (feq (by decide : ¬ ((1 : Int32) = (0 : Int32)))).2) (by decide) (by decide) ?_
    exact ktg)
  obtain ⟨T_4, X_4, e_4, st_4⟩ := getS2 X_2 hx hZ hown (host := "") (Or.inl (hw _ (List.mem_of_getElem? (i := 18) rfl))) Via.refl e_2 S1 (g := (mkF m 27 #[.val (.ref a), .val (.ref ca), .val (.int (0 : Int32)), .val (.int (1 : Int32)), .val .null, .unset] [])) rfl (hb hby d3_27)
  have pre_4 : Rch p.tables e below (s₁.setTop (entryFrame m #[(.ref a), (.ref ca), (.int (0 : Int32)), (.int (1 : Int32)), .null] 6)) (T_4.setTop (mkF m 30 #[.val (.ref a), .val (.ref ca), .val (.int (0 : Int32)), .val (.int (1 : Int32)), .val .null, .unset] [(.int cs)])) := fun tgt ktg => pre_3 tgt (st_4 tgt ktg)
  have pre_5 : Rch p.tables e below (s₁.setTop (entryFrame m #[(.ref a), (.ref ca), (.int (0 : Int32)), (.int (1 : Int32)), .null] 6)) (T_4.setTop (mkF m 36 #[.val (.ref a), .val (.ref ca), .val (.int (0 : Int32)), .val (.int (1 : Int32)), .val .null, .unset] [(.int (1 : Int32)), (.int (0 : Int32)), (.ref ca)])) := fun tgt ktg => pre_4 tgt (by
    show Steps p.tables e below (T_4.setTop (mkF m 30 #[.val (.ref a), .val (.ref ca), .val (.int (0 : Int32)), .val (.int (1 : Int32)), .val .null, .unset] [(.int cs)])) _
    refine XS.ifNo X_4.here hx rfl (hb hby d3_30) rfl ((if0 _ _).trans (feq hcs).1) ?_
    show Steps p.tables e below (T_4.setTop (mkF m 33 #[.val (.ref a), .val (.ref ca), .val (.int (0 : Int32)), .val (.int (1 : Int32)), .val .null, .unset] [])) _
    refine XS.aloadN X_4.here hx rfl (hb hby d3_33) rfl rfl ?_
    show Steps p.tables e below (T_4.setTop (mkF m 34 #[.val (.ref a), .val (.ref ca), .val (.int (0 : Int32)), .val (.int (1 : Int32)), .val .null, .unset] [(.ref ca)])) _
    refine XS.iloadN X_4.here hx rfl (hb hby d3_34) rfl ?_
    show Steps p.tables e below (T_4.setTop (mkF m 35 #[.val (.ref a), .val (.ref ca), .val (.int (0 : Int32)), .val (.int (1 : Int32)), .val .null, .unset] [(.int (0 : Int32)), (.ref ca)])) _
    refine XS.iloadN X_4.here hx rfl (hb hby d3_35) rfl ?_
    exact ktg)
  have alt := E1.lt
  obtain ⟨_, _, ⟨T_6, L_6, k_6, n_6⟩, -, X_6, ⟨Lc_6, hQ_6, l_6, y_6, z_6⟩, st_6⟩ := Jvm.LawKit.callS X_4 hx (y := (⟨"java/lang/StringUTF16", "compress", "([CII)[B"⟩ : MethodName)) hown (mvT hZ (hw _ (List.mem_of_getElem? (i := 19) rfl))) (mvT hZ (hw _ (List.mem_of_getElem? (i := 20) rfl))) (mvT hZ (hw _ (List.mem_of_getElem? (i := 21) rfl))) (mvT hZ (hw _ (List.mem_of_getElem? (i := 22) rfl))) (by decide) (backOf (W := 0) (rmcp1 l Z a0 hw [] ca q0 kc h0 n0 Z0 A1 hq0) hZ (hw _ (List.mem_of_getElem? (i := 22) rfl)) (hw _ (List.mem_of_getElem? (i := 21) rfl)) (by decide) (by decide)) (g := (mkF m 36 #[.val (.ref a), .val (.ref ca), .val (.int (0 : Int32)), .val (.int (1 : Int32)), .val .null, .unset] [(.int (1 : Int32)), (.int (0 : Int32)), (.ref ca)])) rfl (by rw [hml]; rfl) (argsL := [(.ref ca), (.int (0 : Int32)), (.int (1 : Int32))]) (rest := []) (lenOf pd_8 rfl) rfl (by show 2 * 0 + _ ≤ _; exact Nat.le_of_eq rfl) (hb hby d3_36) (fun _ _ => ⟨rfl, e_4, (by decide : 0 + 1 ≤ _), (by decide : 0 + 1 ≤ _)⟩)
  dsimp only [Pt.U, Pt.locs, Pt.cells, Pt.slots] at X_6 l_6 y_6 z_6 st_6 hQ_6
  subst l_6 y_6 z_6
  obtain ⟨ba, kb, rfl, Nq_6, Kq_6, sba, gba, b0⟩ := hQ_6
  have N_7 := Fr.app N0 Nq_6
  have pre_6 : Rch p.tables e below (s₁.setTop (entryFrame m #[(.ref a), (.ref ca), (.int (0 : Int32)), (.int (1 : Int32)), .null] 6)) (T_6.setTop (mkF m 39 #[.val (.ref a), .val (.ref ca), .val (.int (0 : Int32)), .val (.int (1 : Int32)), .val .null, .unset] [(.ref ba)])) := fun tgt ktg => pre_5 tgt (st_6 tgt ktg)
  have f_8 : Exa Z T_6.heap a "java/lang/String" := E1.keep Kq_6
  have f_9 : Fld Z T_6.heap a "java/lang/String" "value" "[B" .null := F1.keep Kq_6 nin0
  have f_10 : Fld Z T_6.heap a "java/lang/String" "coder" "B" (.int (0 : Int32)) := F2.keep Kq_6 nin0
  have f_11 : Arv Z T_6.heap ca kc .char (1 : Int32) [(.int q0)] (.int (0 : Int32)) := A1.keep Kq_6 nin0
  have f_12 : Sta Z T_6.heap "java/lang/String" "COMPACT_STRINGS" "Z" (.int cs) := own_sta_keep S1 Kq_6 ns0
  have z_13 : n0 ≤ T_6.heap.size := Nat.le_trans Z0 Kq_6.1
  have K_14 : Keep h0 T_6.heap [a] := K0.trans Kq_6 (all0 (P := fun x => x ∈ [a] ∨ h0.size ≤ x))
  have nab : a ≠ ba := Nat.ne_of_lt (Nat.lt_of_lt_of_le alt sba)
  have pre_15 : Rch p.tables e below (s₁.setTop (entryFrame m #[(.ref a), (.ref ca), (.int (0 : Int32)), (.int (1 : Int32)), .null] 6)) (T_6.setTop (mkF m 45 #[.val (.ref a), .val (.ref ca), .val (.int (0 : Int32)), .val (.int (1 : Int32)), .val .null, .val (.ref ba)] [(.int (1 : Int32)), (.ref ba), (.ref a)])) := fun tgt ktg => pre_6 tgt (by
    show Steps p.tables e below (T_6.setTop (mkF m 39 #[.val (.ref a), .val (.ref ca), .val (.int (0 : Int32)), .val (.int (1 : Int32)), .val .null, .unset] [(.ref ba)])) _
    refine XS.astore X_6.here hx rfl (hb hby d3_39) rfl rfl (l' := #[.val (.ref a), .val (.ref ca), .val (.int (0 : Int32)), .val (.int (1 : Int32)), .val .null, .val (.ref ba)]) rfl ?_
    show Steps p.tables e below (T_6.setTop (mkF m 41 #[.val (.ref a), .val (.ref ca), .val (.int (0 : Int32)), .val (.int (1 : Int32)), .val .null, .val (.ref ba)] [])) _
    refine XS.aloadN X_6.here hx rfl (hb hby d3_41) rfl rfl ?_
    show Steps p.tables e below (T_6.setTop (mkF m 42 #[.val (.ref a), .val (.ref ca), .val (.int (0 : Int32)), .val (.int (1 : Int32)), .val .null, .val (.ref ba)] [(.ref a)])) _
    refine XS.aload X_6.here hx rfl (hb hby d3_42) rfl rfl ?_
    show Steps p.tables e below (T_6.setTop (mkF m 44 #[.val (.ref a), .val (.ref ca), .val (.int (0 : Int32)), .val (.int (1 : Int32)), .val .null, .val (.ref ba)] [(.ref ba), (.ref a)])) _
    refine XS.iloadN X_6.here hx rfl (hb hby d3_44) rfl ?_
    exact ktg)
  obtain ⟨_, _, ⟨T_16, L_16, k_16, n_16⟩, -, X_16, ⟨Lc_16, hQ_16, l_16, y_16, z_16⟩, st_16⟩ := Jvm.LawKit.callS X_6 hx (y := (⟨"java/lang/StringUTF16", "coderFromArrayLen", "([BI)B"⟩ : MethodName)) hown (mvT hZ (hw _ (List.mem_of_getElem? (i := 27) rfl))) (mvT hZ (hw _ (List.mem_of_getElem? (i := 28) rfl))) (mvT hZ (hw _ (List.mem_of_getElem? (i := 21) rfl))) (mvT hZ (hw _ (List.mem_of_getElem? (i := 29) rfl))) (by decide) (backOf (W := 1) (rmcf1 l Z a0 hw [] ba kb [(.int (q0.toInt8.toInt32))] T_6.heap n0 z_13 b0) hZ (hw _ (List.mem_of_getElem? (i := 29) rfl)) (hw _ (List.mem_of_getElem? (i := 21) rfl)) (by decide) (by decide)) (g := (mkF m 45 #[.val (.ref a), .val (.ref ca), .val (.int (0 : Int32)), .val (.int (1 : Int32)), .val .null, .val (.ref ba)] [(.int (1 : Int32)), (.ref ba), (.ref a)])) rfl (by rw [hml]; rfl) (argsL := [(.ref ba), (.int (1 : Int32))]) (rest := [(.ref a)]) (lenOf pd_9 rfl) rfl (by show 2 * 0 + _ ≤ _; exact Nat.le_of_eq rfl) (hb hby d3_45) (fun _ _ => ⟨rfl, rfl, (by decide : 1 + 0 ≤ _), (by decide : 1 + 0 ≤ _)⟩)
  dsimp only [Pt.U, Pt.locs, Pt.cells, Pt.slots] at X_16 l_16 y_16 z_16 st_16 hQ_16
  subst l_16 y_16 z_16
  obtain ⟨rfl, Nq_16, eh_16⟩ := hQ_16
  have N_17 := Fr.app N_7 Nq_16
  have pre_16 : Rch p.tables e below (s₁.setTop (entryFrame m #[(.ref a), (.ref ca), (.int (0 : Int32)), (.int (1 : Int32)), .null] 6)) (T_16.setTop (mkF m 48 #[.val (.ref a), .val (.ref ca), .val (.int (0 : Int32)), .val (.int (1 : Int32)), .val .null, .val (.ref ba)] [(.int (0 : Int32)), (.ref a)])) := fun tgt ktg => pre_15 tgt (st_16 tgt ktg)
  obtain ⟨T_18, h_18, X_18, e_18, W_18, st_18⟩ := putFN X_16 hx hZ hown (hw _ (List.mem_of_getElem? (i := 30) rfl)) Via.refl eh_16 f_10 f_8 (Or.inr ⟨(hw _ (List.mem_of_getElem? (i := 31) rfl)), rfl, hnm⟩) (hw _ (List.mem_of_getElem? (i := 5) rfl)) (ty := .byte) (v' := (.int (0 : Int32))) (by decide) rfl (by decide) (g := (mkF m 48 #[.val (.ref a), .val (.ref ca), .val (.int (0 : Int32)), .val (.int (1 : Int32)), .val .null, .val (.ref ba)] [(.int (0 : Int32)), (.ref a)])) rfl rfl (hb hby d3_48)
  have pre_18 : Rch p.tables e below (s₁.setTop (entryFrame m #[(.ref a), (.ref ca), (.int (0 : Int32)), (.int (1 : Int32)), .null] 6)) (T_18.setTop (mkF m 51 #[.val (.ref a), .val (.ref ca), .val (.int (0 : Int32)), .val (.int (1 : Int32)), .val .null, .val (.ref ba)] [])) := fun tgt ktg => pre_16 tgt (st_18 tgt ktg)
  have f_19 : Exa Z h_18 a "java/lang/String" := f_8.wr W_18
  have f_20 : Fld Z h_18 a "java/lang/String" "value" "[B" .null := f_9.other W_18 (Or.inr (slot_ne (Or.inr (hw _ (List.mem_of_getElem? (i := 33) rfl))) (Or.inr (hw _ (List.mem_of_getElem? (i := 31) rfl))) (by decide) (t := (.array .byte)) (t' := .byte) (by decide) (by decide)))
  have f_21 : Sta Z h_18 "java/lang/String" "COMPACT_STRINGS" "Z" (.int cs) := f_12.wr W_18
  have f_22 : Arv Z h_18 ba kb .byte (1 : Int32) [(.int (q0.toInt8.toInt32))] (.int (0 : Int32)) := b0.other W_18 (Ne.symm nab)
  have z_23 : n0 ≤ h_18.size := Nat.le_trans z_13 (Keep.of_wr W_18).1
  have K_24 : Keep h0 h_18 [a] := K_14.wr W_18 (Or.inl (List.mem_of_getElem? (i := 0) rfl))
  have f_25 : Fld Z h_18 a "java/lang/String" "coder" "B" (.int (0 : Int32)) := f_10.same W_18
  have N_26 := Fr.snoc X_18 N_17 ga
  have pre_27 : Rch p.tables e below (s₁.setTop (entryFrame m #[(.ref a), (.ref ca), (.int (0 : Int32)), (.int (1 : Int32)), .null] 6)) (T_18.setTop (mkF m 54 #[.val (.ref a), .val (.ref ca), .val (.int (0 : Int32)), .val (.int (1 : Int32)), .val .null, .val (.ref ba)] [(.ref ba), (.ref a)])) := fun tgt ktg => pre_18 tgt (by
    show Steps p.tables e below (T_18.setTop (mkF m 51 #[.val (.ref a), .val (.ref ca), .val (.int (0 : Int32)), .val (.int (1 : Int32)), .val .null, .val (.ref ba)] [])) _
    refine XS.aloadN X_18.here hx rfl (hb hby d3_51) rfl rfl ?_
    show Steps p.tables e below (T_18.setTop (mkF m 52 #[.val (.ref a), .val (.ref ca), .val (.int (0 : Int32)), .val (.int (1 : Int32)), .val .null, .val (.ref ba)] [(.ref a)])) _
    refine XS.aload X_18.here hx rfl (hb hby d3_52) rfl rfl ?_
    exact ktg)
  obtain ⟨T_28, h_28, X_28, e_28, W_28, st_28⟩ := putF X_18 hx hZ hown (host := "") (Or.inl (hw _ (List.mem_of_getElem? (i := 32) rfl))) Via.refl e_18 f_20 f_19 (Or.inr ⟨(hw _ (List.mem_of_getElem? (i := 33) rfl)), rfl, hnm⟩) (hw _ (List.mem_of_getElem? (i := 5) rfl)) (ty := (.array .byte)) (by decide) rfl rfl (g := (mkF m 54 #[.val (.ref a), .val (.ref ca), .val (.int (0 : Int32)), .val (.int (1 : Int32)), .val .null, .val (.ref ba)] [(.ref ba), (.ref a)])) rfl rfl (hb hby d3_54)
  have pre_28 : Rch p.tables e below (s₁.setTop (entryFrame m #[(.ref a), (.ref ca), (.int (0 : Int32)), (.int (1 : Int32)), .null] 6)) (T_28.setTop (mkF m 57 #[.val (.ref a), .val (.ref ca), .val (.int (0 : Int32)), .val (.int (1 : Int32)), .val .null, .val (.ref ba)] [])) := fun tgt ktg => pre_27 tgt (st_28 tgt ktg)
  have f_29 : Exa Z h_28 a "java/lang/String" := f_19.wr W_28
  have f_30 : Sta Z h_28 "java/lang/String" "COMPACT_STRINGS" "Z" (.int cs) := f_21.wr W_28
  have f_31 : Arv Z h_28 ba kb .byte (1 : Int32) [(.int (q0.toInt8.toInt32))] (.int (0 : Int32)) := f_22.other W_28 (Ne.symm nab)
  have f_32 : Fld Z h_28 a "java/lang/String" "coder" "B" (.int (0 : Int32)) := f_25.other W_28 (Or.inr (slot_ne (Or.inr (hw _ (List.mem_of_getElem? (i := 31) rfl))) (Or.inr (hw _ (List.mem_of_getElem? (i := 33) rfl))) (by decide) (t := .byte) (t' := (.array .byte)) (by decide) (by decide)))
  have z_33 : n0 ≤ h_28.size := Nat.le_trans z_23 (Keep.of_wr W_28).1
  have K_34 : Keep h0 h_28 [a] := K_24.wr W_28 (Or.inl (List.mem_of_getElem? (i := 0) rfl))
  have f_35 : Fld Z h_28 a "java/lang/String" "value" "[B" (.ref ba) := f_20.same W_28
  have N_36 := Fr.snoc X_28 N_26 ga
  obtain ⟨fs, hr, hrun, hended, hW, hsame⟩ := X_28.leave (v := none) (fun _ => rfl)
  refine ⟨_, _, pre_28 _ ?_, hrun, hended, _, _, rfl, ?_, ⟨_, rfl⟩, hW, hsame.mono (by decide) (by decide)⟩
  · show Steps p.tables e below (T_28.setTop (mkF m 57 #[.val (.ref a), .val (.ref ca), .val (.int (0 : Int32)), .val (.int (1 : Int32)), .val .null, .val (.ref ba)] [])) _
    exact X_28.returnOut hx Bd.returns (hb hby d3_57) hr
  · show Qsv1 Z a ca q0 kc h0 n0 _ T_28.heap _
    rw [e_28]
    exact ⟨ba, kb, rfl, N_36, K_34, f_29, f_32, f_35, f_31⟩
theorem d2_0 : decode jdk_42_method_3_code 0 = .ok (.aload_n 0, 1) := by decide +kernel
theorem d2_1 : decode jdk_42_method_3_code 1 = .ok (.aload_n 1, 1) := by decide +kernel
theorem d2_2 : decode jdk_42_method_3_code 2 = .ok (.iconst 0, 1) := by decide +kernel
theorem d2_3 : decode jdk_42_method_3_code 3 = .ok (.aload_n 1, 1) := by decide +kernel
theorem d2_4 : decode jdk_42_method_3_code 4 = .ok (.arraylength, 1) := by decide +kernel
theorem d2_5 : decode jdk_42_method_3_code 5 = .ok (.aconst_null, 1) := by decide +kernel
theorem d2_6 : decode jdk_42_method_3_code 6 = .ok (.invokespecial 27, 3) := by decide +kernel
theorem pd_10 : parseMethodDescriptor "([CIILjava/lang/Void;)V" = some ⟨[(.array .char), .int, .int, (.object "java/lang/Void")], none⟩ := by decide +kernel
theorem d2_9 : decode jdk_42_method_3_code 9 = .ok (.return_, 1) := by decide +kernel
theorem ef_sc1 (m : MethodId) (x0 : Addr) (x1 : Addr) : entryFrame m #[(.ref x0), (.ref x1)] 2 = mkF m 0 #[.val (.ref x0), .val (.ref x1)] [] := by first | (simp [entryFrame, mkF, argsToLocals, Value.category]; done) | rfl
def Qsc1 (Z : State) (a : Addr) (ca : Addr) (q0 : Int32) (kc : ClassId) (h0 : Heap) (n0 : Nat) (v : Option Value) (h : Heap) (L : List Loc) : Prop := ∃ (ba : Addr) (kb : ClassId), v = none ∧ Fr n0 L ∧ Keep h0 h [a] ∧ Exa Z h a "java/lang/String" ∧ Fld Z h a "java/lang/String" "coder" "B" (.int (0 : Int32)) ∧ Fld Z h a "java/lang/String" "value" "[B" (.ref ba) ∧ Arv Z h ba kb .byte (1 : Int32) [(.int (q0.toInt8.toInt32))] (.int (0 : Int32))
set_option maxRecDepth 65536 in
set_option maxHeartbeats 40000000 in
theorem rmsc1 (l : Launch) (Z : State) (a0 : Array Value) (hw : ∀ d ∈ tables_1, d.before a0 Z = true) (ws : List Jvm.Cond) (a : Addr) (ca : Addr) (q0 : Int32) (kc : ClassId) (h0 : Heap) (n0 : Nat) (Z0 : n0 ≤ h0.size) (E1 : Exa Z h0 a "java/lang/String") (F1 : Fld Z h0 a "java/lang/String" "value" "[B" .null) (F2 : Fld Z h0 a "java/lang/String" "coder" "B" (.int (0 : Int32))) (A1 : Arv Z h0 ca kc .char (1 : Int32) [(.int q0)] (.int (0 : Int32))) (nca : ca ≠ a) (ga : n0 ≤ a) (hq0 : ¬ (255 : Int32) < q0) (cs : Int32) (hcs : ¬ cs = 0) (S1 : Sta Z h0 "java/lang/String" "COMPACT_STRINGS" "Z" (.int cs)) :
    MetFree l (⟨"java/lang/String", "<init>", "([C)V"⟩ : MethodName) (head1 (Jvm.Cond.code (⟨"java/lang/String", "<init>", "([C)V"⟩ : MethodName) jdk_42_method_3_code 2 none :: ws) ({ frames := 3, cells := 1, slots := 1, locals := 57 } : Room)) (fun aA U => aA = #[(.ref a), (.ref ca)] ∧ Z.Warmed39 U.vm ∧ U.heap = h0) (fun _ _ _ _ _ => True) (fun _ U oO U' => ∃ vV LL, oO = .returned vV ∧ Qsc1 Z a ca q0 kc h0 n0 vV U'.heap LL ∧ FrameEnd U oO U' LL ({ frames := 3, cells := 1, slots := 1, locals := 57 } : Room).cells ({ frames := 3, cells := 1, slots := 1, locals := 57 } : Room).slots) := by
  refine MetFree.of_bodySF (plainFor_of_name pn_0) hisR ?_
  intro p e s m args below meth c s₁ Bd hml0 hP hK
  obtain ⟨rfl, hZ, hh⟩ := hP
  have hx := Bd.exec
  have hby := Bd.bytes
  have hml : c.maxLocals = 2 := hml0
  have hown : s.vm.findClass "java/lang/String" = some m.cls := findClass_of_methodNamed Bd.named
  have hnm := (name_of_methodNamed Bd.named Bd.method).1
  have X0 : Stand p l e ({ frames := 3, cells := 1, slots := 1, locals := 57 } : Room) s m #[(.ref a), (.ref ca)] below meth c s₁ [] 0 0 := Stand.of_body Bd
  have e0 : s₁.heap = h0 := by rw [← hh, Bd.state]; rfl
  have N0 := Fr.nil n0
  have K0 : Keep h0 h0 [a] := Keep.refl _ _
  have pre0 : Rch p.tables e below (s₁.setTop (entryFrame m #[(.ref a), (.ref ca)] 2)) (s₁.setTop (mkF m 0 #[.val (.ref a), .val (.ref ca)] [])) := fun tgt ktg => castTop (ef_sc1 m a ca) ktg
  have pre_1 : Rch p.tables e below (s₁.setTop (entryFrame m #[(.ref a), (.ref ca)] 2)) (s₁.setTop (mkF m 4 #[.val (.ref a), .val (.ref ca)] [(.ref ca), (.int (0 : Int32)), (.ref ca), (.ref a)])) := fun tgt ktg => pre0 tgt (by
    show Steps p.tables e below (s₁.setTop (mkF m 0 #[.val (.ref a), .val (.ref ca)] [])) _
    refine XS.aloadN X0.here hx rfl (hb hby d2_0) rfl rfl ?_
    show Steps p.tables e below (s₁.setTop (mkF m 1 #[.val (.ref a), .val (.ref ca)] [(.ref a)])) _
    refine XS.aloadN X0.here hx rfl (hb hby d2_1) rfl rfl ?_
    show Steps p.tables e below (s₁.setTop (mkF m 2 #[.val (.ref a), .val (.ref ca)] [(.ref ca), (.ref a)])) _
    refine XS.iconst X0.here hx rfl (hb hby d2_2) ?_
    show Steps p.tables e below (s₁.setTop (mkF m 3 #[.val (.ref a), .val (.ref ca)] [(.int (0 : Int32)), (.ref ca), (.ref a)])) _
    refine XS.aloadN X0.here hx rfl (hb hby d2_3) rfl rfl ?_
    exact ktg)
  obtain ⟨cl__2, Ar__2, q__2, S__2, N__2, H__2, G__2⟩ := id A1
  have pre_3 : Rch p.tables e below (s₁.setTop (entryFrame m #[(.ref a), (.ref ca)] 2)) (s₁.setTop (mkF m 5 #[.val (.ref a), .val (.ref ca)] [(.int (1 : Int32)), (.int (0 : Int32)), (.ref ca), (.ref a)])) := fun tgt ktg => pre_1 tgt (X0.arraylength hx (by rw [e0]; exact Ar__2.1) (State.isArrayOf_alike hZ.alike Ar__2.2.1) (g := (mkF m 4 #[.val (.ref a), .val (.ref ca)] [(.ref ca), (.int (0 : Int32)), (.ref ca), (.ref a)])) rfl rfl (hb hby d2_4) _ (by rw [len_of S__2 N__2]; exact ktg))
  have pre_4 : Rch p.tables e below (s₁.setTop (entryFrame m #[(.ref a), (.ref ca)] 2)) (s₁.setTop (mkF m 6 #[.val (.ref a), .val (.ref ca)] [.null, (.int (1 : Int32)), (.int (0 : Int32)), (.ref ca), (.ref a)])) := fun tgt ktg => pre_3 tgt (by
    show Steps p.tables e below (s₁.setTop (mkF m 5 #[.val (.ref a), .val (.ref ca)] [(.int (1 : Int32)), (.int (0 : Int32)), (.ref ca), (.ref a)])) _
    refine XS.aconstNull X0.here hx rfl (hb hby d2_5) ?_
    exact ktg)
  obtain ⟨_, _, ⟨T_5, L_5, k_5, n_5⟩, -, X_5, ⟨Lc_5, hQ_5, l_5, y_5, z_5⟩, st_5⟩ := X0.specialBack hx (y := (⟨"java/lang/String", "<init>", "([CIILjava/lang/Void;)V"⟩ : MethodName)) rfl hown (mvT hZ (hw _ (List.mem_of_getElem? (i := 11) rfl))) (mvT hZ (hw _ (List.mem_of_getElem? (i := 12) rfl))) (mvT hZ (hw _ (List.mem_of_getElem? (i := 14) rfl))) (by decide) (backOf (W := 0) (rmsv1 l Z a0 hw [] a ca q0 kc h0 n0 Z0 E1 F1 F2 A1 nca ga hq0 cs hcs S1) hZ (hw _ (List.mem_of_getElem? (i := 14) rfl)) (hw _ (List.mem_of_getElem? (i := 6) rfl)) (by decide) (by decide)) (g := (mkF m 6 #[.val (.ref a), .val (.ref ca)] [.null, (.int (1 : Int32)), (.int (0 : Int32)), (.ref ca), (.ref a)])) rfl (by rw [hml]; rfl) (Steps.refl _) (a := a) (argsL := [(.ref ca), (.int (0 : Int32)), (.int (1 : Int32)), .null]) (rest := []) (lenOf pd_10 rfl) rfl (by show 2 * 0 + _ ≤ _; exact Nat.le_of_eq rfl) (hb hby d2_6) (fun _ _ => ⟨rfl, e0, (by decide : 0 + 1 ≤ _), (by decide : 0 + 1 ≤ _)⟩)
  dsimp only [Pt.U, Pt.locs, Pt.cells, Pt.slots] at X_5 l_5 y_5 z_5 st_5 hQ_5
  subst l_5 y_5 z_5
  obtain ⟨ba, kb, rfl, Nq_5, Kq_5, b1, b2, b3, b4⟩ := hQ_5
  have N_6 := Fr.app N0 Nq_5
  have pre_5 : Rch p.tables e below (s₁.setTop (entryFrame m #[(.ref a), (.ref ca)] 2)) (T_5.setTop (mkF m 9 #[.val (.ref a), .val (.ref ca)] [])) := fun tgt ktg => pre_4 tgt (st_5.trans ktg)
  have z_7 : n0 ≤ T_5.heap.size := Nat.le_trans Z0 Kq_5.1
  have K_8 : Keep h0 T_5.heap [a] := K0.trans Kq_5 (allS (P := fun x => x ∈ [a] ∨ h0.size ≤ x) (Or.inl (List.mem_of_getElem? (i := 0) rfl)) (all0 (P := fun x => x ∈ [a] ∨ h0.size ≤ x)))
  obtain ⟨fs, hr, hrun, hended, hW, hsame⟩ := X_5.leave (v := none) (fun _ => rfl)
  refine ⟨_, _, pre_5 _ ?_, hrun, hended, _, _, rfl, ?_, ⟨_, rfl⟩, hW, hsame.mono (by decide) (by decide)⟩
  · show Steps p.tables e below (T_5.setTop (mkF m 9 #[.val (.ref a), .val (.ref ca)] [])) _
    exact X_5.returnOut hx Bd.returns (hb hby d2_9) hr
  · show Qsc1 Z a ca q0 kc h0 n0 _ T_5.heap _
    exact ⟨ba, kb, rfl, N_6, K_8, b1, b2, b3, b4⟩
theorem ef_co2 (m : MethodId) (x0 : Addr) (x1 : Int32) (x2 : Addr) (x3 : Int32) (x4 : Int32) : entryFrame m #[(.ref x0), (.int x1), (.ref x2), (.int x3), (.int x4)] 7 = mkF m 0 #[.val (.ref x0), .val (.int x1), .val (.ref x2), .val (.int x3), .val (.int x4), .unset, .unset] [] := by first | (simp [entryFrame, mkF, argsToLocals, Value.category]; done) | rfl
def Qco2 (Z : State) (ca : Addr) (ba : Addr) (q0 : Int32) (q1 : Int32) (kc kb : ClassId) (h0 : Heap) (n0 : Nat) (v : Option Value) (h : Heap) (L : List Loc) : Prop := v = some (.int (2 : Int32)) ∧ Fr n0 L ∧ Keep h0 h [ba] ∧ Arv Z h ba kb .byte (2 : Int32) [(.int (q0.toInt8.toInt32)), (.int (q1.toInt8.toInt32))] (.int (0 : Int32))
set_option maxRecDepth 65536 in
set_option maxHeartbeats 40000000 in
theorem rmco2 (l : Launch) (Z : State) (a0 : Array Value) (hw : ∀ d ∈ tables_1, d.before a0 Z = true) (ws : List Jvm.Cond) (ca : Addr) (ba : Addr) (q0 : Int32) (q1 : Int32) (kc kb : ClassId) (h0 : Heap) (n0 : Nat) (Z0 : n0 ≤ h0.size) (A1 : Arv Z h0 ca kc .char (2 : Int32) [(.int q0), (.int q1)] (.int (0 : Int32))) (A2 : Arv Z h0 ba kb .byte (2 : Int32) [(.int (0 : Int32)), (.int (0 : Int32))] (.int (0 : Int32))) (gb : n0 ≤ ba) (ncb : ca ≠ ba) (hq0 : ¬ (255 : Int32) < q0) (hq1 : ¬ (255 : Int32) < q1) :
    MetFree l (⟨"java/lang/StringUTF16", "compress", "([CI[BII)I"⟩ : MethodName) (head1 (Jvm.Cond.code (⟨"java/lang/StringUTF16", "compress", "([CI[BII)I"⟩ : MethodName) jdk_52_method_21_code 7 (some .int) :: ws) ({ frames := 0, cells := 0, slots := 0, locals := 0 } : Room)) (fun aA U => aA = #[(.ref ca), (.int (0 : Int32)), (.ref ba), (.int (0 : Int32)), (.int (2 : Int32))] ∧ Z.Warmed39 U.vm ∧ U.heap = h0) (fun _ _ _ _ _ => True) (fun _ U oO U' => ∃ vV LL, oO = .returned vV ∧ Qco2 Z ca ba q0 q1 kc kb h0 n0 vV U'.heap LL ∧ FrameEnd U oO U' LL ({ frames := 0, cells := 0, slots := 0, locals := 0 } : Room).cells ({ frames := 0, cells := 0, slots := 0, locals := 0 } : Room).slots) := by
  refine MetFree.of_bodySF (plainFor_of_name pn_3) hisR ?_
  intro p e s m args below meth c s₁ Bd hml0 hP hK
  obtain ⟨rfl, hZ, hh⟩ := hP
  have hx := Bd.exec
  have hby := Bd.bytes
  have hml : c.maxLocals = 7 := hml0
  have hown : s.vm.findClass "java/lang/StringUTF16" = some m.cls := findClass_of_methodNamed Bd.named
  have hnm := (name_of_methodNamed Bd.named Bd.method).1
  have X0 : Stand p l e ({ frames := 0, cells := 0, slots := 0, locals := 0 } : Room) s m #[(.ref ca), (.int (0 : Int32)), (.ref ba), (.int (0 : Int32)), (.int (2 : Int32))] below meth c s₁ [] 0 0 := Stand.of_body Bd
  have e0 : s₁.heap = h0 := by rw [← hh, Bd.state]; rfl
  have N0 := Fr.nil n0
  have K0 : Keep h0 h0 [ba] := Keep.refl _ _
  have pre0 : Rch p.tables e below (s₁.setTop (entryFrame m #[(.ref ca), (.int (0 : Int32)), (.ref ba), (.int (0 : Int32)), (.int (2 : Int32))] 7)) (s₁.setTop (mkF m 0 #[.val (.ref ca), .val (.int (0 : Int32)), .val (.ref ba), .val (.int (0 : Int32)), .val (.int (2 : Int32)), .unset, .unset] [])) := fun tgt ktg => castTop (ef_co2 m ca (0 : Int32) ba (0 : Int32) (2 : Int32)) ktg
  have pre_1 : Rch p.tables e below (s₁.setTop (entryFrame m #[(.ref ca), (.int (0 : Int32)), (.ref ba), (.int (0 : Int32)), (.int (2 : Int32))] 7)) (s₁.setTop (mkF m 12 #[.val (.ref ca), .val (.int (0 : Int32)), .val (.ref ba), .val (.int (0 : Int32)), .val (.int (2 : Int32)), .val (.int (0 : Int32)), .unset] [(.int (0 : Int32)), (.ref ca)])) := fun tgt ktg => pre0 tgt (by
    show Steps p.tables e below (s₁.setTop (mkF m 0 #[.val (.ref ca), .val (.int (0 : Int32)), .val (.ref ba), .val (.int (0 : Int32)), .val (.int (2 : Int32)), .unset, .unset] [])) _
    refine XS.iconst X0.here hx rfl (hb hby d6_0) ?_
    show Steps p.tables e below (s₁.setTop (mkF m 1 #[.val (.ref ca), .val (.int (0 : Int32)), .val (.ref ba), .val (.int (0 : Int32)), .val (.int (2 : Int32)), .unset, .unset] [(.int (0 : Int32))])) _
    refine XS.istore X0.here hx rfl (hb hby d6_1) rfl (l' := #[.val (.ref ca), .val (.int (0 : Int32)), .val (.ref ba), .val (.int (0 : Int32)), .val (.int (2 : Int32)), .val (.int (0 : Int32)), .unset]) rfl ?_
    show Steps p.tables e below (s₁.setTop (mkF m 3 #[.val (.ref ca), .val (.int (0 : Int32)), .val (.ref ba), .val (.int (0 : Int32)), .val (.int (2 : Int32)), .val (.int (0 : Int32)), .unset] [])) _
    refine XS.iload X0.here hx rfl (hb hby d6_3) rfl ?_
    show Steps p.tables e below (s₁.setTop (mkF m 5 #[.val (.ref ca), .val (.int (0 : Int32)), .val (.ref ba), .val (.int (0 : Int32)), .val (.int (2 : Int32)), .val (.int (0 : Int32)), .unset] [(.int (0 : Int32))])) _
    refine XS.iload X0.here hx rfl (hb hby d6_5) rfl ?_
    show Steps p.tables e below (s₁.setTop (mkF m 7 #[.val (.ref ca), .val (.int (0 : Int32)), .val (.ref ba), .val (.int (0 : Int32)), .val (.int (2 : Int32)), .val (.int (0 : Int32)), .unset] [(.int (2 : Int32)), (.int (0 : Int32))])) _
    refine XS.icmpNo X0.here hx rfl (hb hby d6_7) rfl (tlt (by decide : (0 : Int32) < (2 : Int32))).2.1 ?_
    show Steps p.tables e below (s₁.setTop (mkF m 10 #[.val (.ref ca), .val (.int (0 : Int32)), .val (.ref ba), .val (.int (0 : Int32)), .val (.int (2 : Int32)), .val (.int (0 : Int32)), .unset] [])) _
    refine XS.aloadN X0.here hx rfl (hb hby d6_10) rfl rfl ?_
    show Steps p.tables e below (s₁.setTop (mkF m 11 #[.val (.ref ca), .val (.int (0 : Int32)), .val (.ref ba), .val (.int (0 : Int32)), .val (.int (2 : Int32)), .val (.int (0 : Int32)), .unset] [(.ref ca)])) _
    refine XS.iloadN X0.here hx rfl (hb hby d6_11) rfl ?_
    exact ktg)
  obtain ⟨cl__2, Ar__2, q__2, S__2, N__2, H__2, G__2⟩ := id A1
  have hin__2 : ¬ ((0 : Int32) < 0 ∨ cl__2.slots.size ≤ ((0 : Int32)).toNatClampNeg) := inb_of S__2 ⟨by decide, by decide⟩
  have hat__2 : cl__2.slots[((0 : Int32)).toNatClampNeg]? = some (.int q0) := H__2.at hin__2 rfl
  have pre_3 : Rch p.tables e below (s₁.setTop (entryFrame m #[(.ref ca), (.int (0 : Int32)), (.ref ba), (.int (0 : Int32)), (.int (2 : Int32))] 7)) (s₁.setTop (mkF m 13 #[.val (.ref ca), .val (.int (0 : Int32)), .val (.ref ba), .val (.int (0 : Int32)), .val (.int (2 : Int32)), .val (.int (0 : Int32)), .unset] [(.int q0)])) := fun tgt ktg => pre_1 tgt (X0.caload hx (j := (0 : Int32)) (v := (.int q0)) (by rw [e0]; exact Ar__2.1) (State.isArrayOf_alike hZ.alike Ar__2.2.1) Ar__2.2.2 hin__2 hat__2 (g := (mkF m 12 #[.val (.ref ca), .val (.int (0 : Int32)), .val (.ref ba), .val (.int (0 : Int32)), .val (.int (2 : Int32)), .val (.int (0 : Int32)), .unset] [(.int (0 : Int32)), (.ref ca)])) rfl rfl (hb hby d6_12) _ ktg)
  have pre_4 : Rch p.tables e below (s₁.setTop (entryFrame m #[(.ref ca), (.int (0 : Int32)), (.ref ba), (.int (0 : Int32)), (.int (2 : Int32))] 7)) (s₁.setTop (mkF m 31 #[.val (.ref ca), .val (.int (0 : Int32)), .val (.ref ba), .val (.int (0 : Int32)), .val (.int (2 : Int32)), .val (.int (0 : Int32)), .val (.int q0)] [(.int (q0.toInt8.toInt32)), (.int (0 : Int32)), (.ref ba)])) := fun tgt ktg => pre_3 tgt (by
    show Steps p.tables e below (s₁.setTop (mkF m 13 #[.val (.ref ca), .val (.int (0 : Int32)), .val (.ref ba), .val (.int (0 : Int32)), .val (.int (2 : Int32)), .val (.int (0 : Int32)), .unset] [(.int q0)])) _
    refine XS.istore X0.here hx rfl (hb hby d6_13) rfl (l' := #[.val (.ref ca), .val (.int (0 : Int32)), .val (.ref ba), .val (.int (0 : Int32)), .val (.int (2 : Int32)), .val (.int (0 : Int32)), .val (.int q0)]) rfl ?_
    show Steps p.tables e below (s₁.setTop (mkF m 15 #[.val (.ref ca), .val (.int (0 : Int32)), .val (.ref ba), .val (.int (0 : Int32)), .val (.int (2 : Int32)), .val (.int (0 : Int32)), .val (.int q0)] [])) _
    refine XS.iload X0.here hx rfl (hb hby d6_15) rfl ?_
    show Steps p.tables e below (s₁.setTop (mkF m 17 #[.val (.ref ca), .val (.int (0 : Int32)), .val (.ref ba), .val (.int (0 : Int32)), .val (.int (2 : Int32)), .val (.int (0 : Int32)), .val (.int q0)] [(.int q0)])) _
    refine XS.sipush X0.here hx rfl (hb hby d6_17) ?_
    show Steps p.tables e below (s₁.setTop (mkF m 20 #[.val (.ref ca), .val (.int (0 : Int32)), .val (.ref ba), .val (.int (0 : Int32)), .val (.int (2 : Int32)), .val (.int (0 : Int32)), .val (.int q0)] [(.int (255 : Int32)), (.int q0)])) _
    refine XS.icmpYes X0.here hx rfl (pc0 := 20) (pc' := 26) rfl (hb hby d6_20) rfl (flt hq0).2.2.2 (by decide) (by decide) ?_
    show Steps p.tables e below (s₁.setTop (mkF m 26 #[.val (.ref ca), .val (.int (0 : Int32)), .val (.ref ba), .val (.int (0 : Int32)), .val (.int (2 : Int32)), .val (.int (0 : Int32)), .val (.int q0)] [])) _
    refine XS.aloadN X0.here hx rfl (hb hby d6_26) rfl rfl ?_
    show Steps p.tables e below (s₁.setTop (mkF m 27 #[.val (.ref ca), .val (.int (0 : Int32)), .val (.ref ba), .val (.int (0 : Int32)), .val (.int (2 : Int32)), .val (.int (0 : Int32)), .val (.int q0)] [(.ref ba)])) _
    refine XS.iloadN X0.here hx rfl (hb hby d6_27) rfl ?_
    show Steps p.tables e below (s₁.setTop (mkF m 28 #[.val (.ref ca), .val (.int (0 : Int32)), .val (.ref ba), .val (.int (0 : Int32)), .val (.int (2 : Int32)), .val (.int (0 : Int32)), .val (.int q0)] [(.int (0 : Int32)), (.ref ba)])) _
    refine XS.iload X0.here hx rfl (hb hby d6_28) rfl ?_
    show Steps p.tables e below (s₁.setTop (mkF m 30 #[.val (.ref ca), .val (.int (0 : Int32)), .val (.ref ba), .val (.int (0 : Int32)), .val (.int (2 : Int32)), .val (.int (0 : Int32)), .val (.int q0)] [(.int q0), (.int (0 : Int32)), (.ref ba)])) _
    refine XT.i2b X0.here hx rfl (hb hby d6_30) rfl ?_
    exact ktg)
  obtain ⟨cl__5, Ar__5, q__5, S__5, N__5, H__5, G__5⟩ := id A2
  have hin__5 : ¬ ((0 : Int32) < 0 ∨ cl__5.slots.size ≤ ((0 : Int32)).toNatClampNeg) := inb_of S__5 ⟨by decide, by decide⟩
  obtain ⟨T_6, h_6, X_6, e_6, W_6, st_6⟩ := stB X0 hx hZ e0 Ar__5 (j := (0 : Int32)) hin__5 (g := (mkF m 31 #[.val (.ref ca), .val (.int (0 : Int32)), .val (.ref ba), .val (.int (0 : Int32)), .val (.int (2 : Int32)), .val (.int (0 : Int32)), .val (.int q0)] [(.int (q0.toInt8.toInt32)), (.int (0 : Int32)), (.ref ba)])) rfl rfl (hb hby d6_31)
  have pre_6 : Rch p.tables e below (s₁.setTop (entryFrame m #[(.ref ca), (.int (0 : Int32)), (.ref ba), (.int (0 : Int32)), (.int (2 : Int32))] 7)) (T_6.setTop (mkF m 32 #[.val (.ref ca), .val (.int (0 : Int32)), .val (.ref ba), .val (.int (0 : Int32)), .val (.int (2 : Int32)), .val (.int (0 : Int32)), .val (.int q0)] [])) := fun tgt ktg => pre_4 tgt (st_6 tgt ktg)
  have f_7 : Arv Z h_6 ca kc .char (2 : Int32) [(.int q0), (.int q1)] (.int (0 : Int32)) := A1.other W_6 ncb
  have z_8 : n0 ≤ h_6.size := Nat.le_trans Z0 (Keep.of_wr W_6).1
  have K_9 : Keep h0 h_6 [ba] := K0.wr W_6 (Or.inl (List.mem_of_getElem? (i := 0) rfl))
  have f_10 : Arv Z h_6 ba kb .byte (2 : Int32) [(.int (nar .byte (q0.toInt8.toInt32))), (.int (0 : Int32))] (.int (0 : Int32)) := Arv.set Ar__5 q__5 S__5 N__5 H__5 G__5 (fits_nar_byte _) W_6 0 rfl (Nat.le_of_ble_eq_true rfl)
  have N_11 := Fr.snoc X_6 N0 gb
  rw [own_idem] at f_10
  have pre_12 : Rch p.tables e below (s₁.setTop (entryFrame m #[(.ref ca), (.int (0 : Int32)), (.ref ba), (.int (0 : Int32)), (.int (2 : Int32))] 7)) (T_6.setTop (mkF m 3 #[.val (.ref ca), .val (.int (1 : Int32)), .val (.ref ba), .val (.int (1 : Int32)), .val (.int (2 : Int32)), .val (.int (1 : Int32)), .val (.int q0)] [])) := fun tgt ktg => pre_6 tgt (by
    show Steps p.tables e below (T_6.setTop (mkF m 32 #[.val (.ref ca), .val (.int (0 : Int32)), .val (.ref ba), .val (.int (0 : Int32)), .val (.int (2 : Int32)), .val (.int (0 : Int32)), .val (.int q0)] [])) _
    refine XS.iinc X_6.here hx rfl (hb hby d6_32) rfl (l' := #[.val (.ref ca), .val (.int (1 : Int32)), .val (.ref ba), .val (.int (0 : Int32)), .val (.int (2 : Int32)), .val (.int (0 : Int32)), .val (.int q0)]) rfl ?_
    show Steps p.tables e below (T_6.setTop (mkF m 35 #[.val (.ref ca), .val (.int (1 : Int32)), .val (.ref ba), .val (.int (0 : Int32)), .val (.int (2 : Int32)), .val (.int (0 : Int32)), .val (.int q0)] [])) _
    refine XS.iinc X_6.here hx rfl (hb hby d6_35) rfl (l' := #[.val (.ref ca), .val (.int (1 : Int32)), .val (.ref ba), .val (.int (1 : Int32)), .val (.int (2 : Int32)), .val (.int (0 : Int32)), .val (.int q0)]) rfl ?_
    show Steps p.tables e below (T_6.setTop (mkF m 38 #[.val (.ref ca), .val (.int (1 : Int32)), .val (.ref ba), .val (.int (1 : Int32)), .val (.int (2 : Int32)), .val (.int (0 : Int32)), .val (.int q0)] [])) _
    refine XS.iinc X_6.here hx rfl (hb hby d6_38) rfl (l' := #[.val (.ref ca), .val (.int (1 : Int32)), .val (.ref ba), .val (.int (1 : Int32)), .val (.int (2 : Int32)), .val (.int (1 : Int32)), .val (.int q0)]) rfl ?_
    show Steps p.tables e below (T_6.setTop (mkF m 41 #[.val (.ref ca), .val (.int (1 : Int32)), .val (.ref ba), .val (.int (1 : Int32)), .val (.int (2 : Int32)), .val (.int (1 : Int32)), .val (.int q0)] [])) _
    refine XS.goto X_6.here hx rfl (pc0 := 41) (pc' := 3) rfl (hb hby d6_41) (by decide) (by decide) ?_
    exact ktg)
  have pre_13 : Rch p.tables e below (s₁.setTop (entryFrame m #[(.ref ca), (.int (0 : Int32)), (.ref ba), (.int (0 : Int32)), (.int (2 : Int32))] 7)) (T_6.setTop (mkF m 12 #[.val (.ref ca), .val (.int (1 : Int32)), .val (.ref ba), .val (.int (1 : Int32)), .val (.int (2 : Int32)), .val (.int (1 : Int32)), .val (.int q0)] [(.int (1 : Int32)), (.ref ca)])) := fun tgt ktg => pre_12 tgt (by
    show Steps p.tables e below (T_6.setTop (mkF m 3 #[.val (.ref ca), .val (.int (1 : Int32)), .val (.ref ba), .val (.int (1 : Int32)), .val (.int (2 : Int32)), .val (.int (1 : Int32)), .val (.int q0)] [])) _
    refine XS.iload X_6.here hx rfl (hb hby d6_3) rfl ?_
    show Steps p.tables e below (T_6.setTop (mkF m 5 #[.val (.ref ca), .val (.int (1 : Int32)), .val (.ref ba), .val (.int (1 : Int32)), .val (.int (2 : Int32)), .val (.int (1 : Int32)), .val (.int q0)] [(.int (1 : Int32))])) _
    refine XS.iload X_6.here hx rfl (hb hby d6_5) rfl ?_
    show Steps p.tables e below (T_6.setTop (mkF m 7 #[.val (.ref ca), .val (.int (1 : Int32)), .val (.ref ba), .val (.int (1 : Int32)), .val (.int (2 : Int32)), .val (.int (1 : Int32)), .val (.int q0)] [(.int (2 : Int32)), (.int (1 : Int32))])) _
    refine XS.icmpNo X_6.here hx rfl (hb hby d6_7) rfl (tlt (by decide : (1 : Int32) < (2 : Int32))).2.1 ?_
    show Steps p.tables e below (T_6.setTop (mkF m 10 #[.val (.ref ca), .val (.int (1 : Int32)), .val (.ref ba), .val (.int (1 : Int32)), .val (.int (2 : Int32)), .val (.int (1 : Int32)), .val (.int q0)] [])) _
    refine XS.aloadN X_6.here hx rfl (hb hby d6_10) rfl rfl ?_
    show Steps p.tables e below (T_6.setTop (mkF m 11 #[.val (.ref ca), .val (.int (1 : Int32)), .val (.ref ba), .val (.int (1 : Int32)), .val (.int (2 : Int32)), .val (.int (1 : Int32)), .val (.int q0)] [(.ref ca)])) _
    refine XS.iloadN X_6.here hx rfl (hb hby d6_11) rfl ?_
    exact ktg)
  obtain ⟨cl__14, Ar__14, q__14, S__14, N__14, H__14, G__14⟩ := id f_7
  have hin__14 : ¬ ((1 : Int32) < 0 ∨ cl__14.slots.size ≤ ((1 : Int32)).toNatClampNeg) := inb_of S__14 ⟨by decide, by decide⟩
  have hat__14 : cl__14.slots[((1 : Int32)).toNatClampNeg]? = some (.int q1) := H__14.at hin__14 rfl
  have pre_15 : Rch p.tables e below (s₁.setTop (entryFrame m #[(.ref ca), (.int (0 : Int32)), (.ref ba), (.int (0 : Int32)), (.int (2 : Int32))] 7)) (T_6.setTop (mkF m 13 #[.val (.ref ca), .val (.int (1 : Int32)), .val (.ref ba), .val (.int (1 : Int32)), .val (.int (2 : Int32)), .val (.int (1 : Int32)), .val (.int q0)] [(.int q1)])) := fun tgt ktg => pre_13 tgt (X_6.caload hx (j := (1 : Int32)) (v := (.int q1)) (by rw [e_6]; exact Ar__14.1) (State.isArrayOf_alike hZ.alike Ar__14.2.1) Ar__14.2.2 hin__14 hat__14 (g := (mkF m 12 #[.val (.ref ca), .val (.int (1 : Int32)), .val (.ref ba), .val (.int (1 : Int32)), .val (.int (2 : Int32)), .val (.int (1 : Int32)), .val (.int q0)] [(.int (1 : Int32)), (.ref ca)])) rfl rfl (hb hby d6_12) _ ktg)
  have pre_16 : Rch p.tables e below (s₁.setTop (entryFrame m #[(.ref ca), (.int (0 : Int32)), (.ref ba), (.int (0 : Int32)), (.int (2 : Int32))] 7)) (T_6.setTop (mkF m 31 #[.val (.ref ca), .val (.int (1 : Int32)), .val (.ref ba), .val (.int (1 : Int32)), .val (.int (2 : Int32)), .val (.int (1 : Int32)), .val (.int q1)] [(.int (q1.toInt8.toInt32)), (.int (1 : Int32)), (.ref ba)])) := fun tgt ktg => pre_15 tgt (by
    show Steps p.tables e below (T_6.setTop (mkF m 13 #[.val (.ref ca), .val (.int (1 : Int32)), .val (.ref ba), .val (.int (1 : Int32)), .val (.int (2 : Int32)), .val (.int (1 : Int32)), .val (.int q0)] [(.int q1)])) _
    refine XS.istore X_6.here hx rfl (hb hby d6_13) rfl (l' := #[.val (.ref ca), .val (.int (1 : Int32)), .val (.ref ba), .val (.int (1 : Int32)), .val (.int (2 : Int32)), .val (.int (1 : Int32)), .val (.int q1)]) rfl ?_
    show Steps p.tables e below (T_6.setTop (mkF m 15 #[.val (.ref ca), .val (.int (1 : Int32)), .val (.ref ba), .val (.int (1 : Int32)), .val (.int (2 : Int32)), .val (.int (1 : Int32)), .val (.int q1)] [])) _
    refine XS.iload X_6.here hx rfl (hb hby d6_15) rfl ?_
    show Steps p.tables e below (T_6.setTop (mkF m 17 #[.val (.ref ca), .val (.int (1 : Int32)), .val (.ref ba), .val (.int (1 : Int32)), .val (.int (2 : Int32)), .val (.int (1 : Int32)), .val (.int q1)] [(.int q1)])) _
    refine XS.sipush X_6.here hx rfl (hb hby d6_17) ?_
    show Steps p.tables e below (T_6.setTop (mkF m 20 #[.val (.ref ca), .val (.int (1 : Int32)), .val (.ref ba), .val (.int (1 : Int32)), .val (.int (2 : Int32)), .val (.int (1 : Int32)), .val (.int q1)] [(.int (255 : Int32)), (.int q1)])) _
    refine XS.icmpYes X_6.here hx rfl (pc0 := 20) (pc' := 26) rfl (hb hby d6_20) rfl (flt hq1).2.2.2 (by decide) (by decide) ?_
    show Steps p.tables e below (T_6.setTop (mkF m 26 #[.val (.ref ca), .val (.int (1 : Int32)), .val (.ref ba), .val (.int (1 : Int32)), .val (.int (2 : Int32)), .val (.int (1 : Int32)), .val (.int q1)] [])) _
    refine XS.aloadN X_6.here hx rfl (hb hby d6_26) rfl rfl ?_
    show Steps p.tables e below (T_6.setTop (mkF m 27 #[.val (.ref ca), .val (.int (1 : Int32)), .val (.ref ba), .val (.int (1 : Int32)), .val (.int (2 : Int32)), .val (.int (1 : Int32)), .val (.int q1)] [(.ref ba)])) _
    refine XS.iloadN X_6.here hx rfl (hb hby d6_27) rfl ?_
    show Steps p.tables e below (T_6.setTop (mkF m 28 #[.val (.ref ca), .val (.int (1 : Int32)), .val (.ref ba), .val (.int (1 : Int32)), .val (.int (2 : Int32)), .val (.int (1 : Int32)), .val (.int q1)] [(.int (1 : Int32)), (.ref ba)])) _
    refine XS.iload X_6.here hx rfl (hb hby d6_28) rfl ?_
    show Steps p.tables e below (T_6.setTop (mkF m 30 #[.val (.ref ca), .val (.int (1 : Int32)), .val (.ref ba), .val (.int (1 : Int32)), .val (.int (2 : Int32)), .val (.int (1 : Int32)), .val (.int q1)] [(.int q1), (.int (1 : Int32)), (.ref ba)])) _
    refine XT.i2b X_6.here hx rfl (hb hby d6_30) rfl ?_
    exact ktg)
  obtain ⟨cl__17, Ar__17, q__17, S__17, N__17, H__17, G__17⟩ := id f_10
  have hin__17 : ¬ ((1 : Int32) < 0 ∨ cl__17.slots.size ≤ ((1 : Int32)).toNatClampNeg) := inb_of S__17 ⟨by decide, by decide⟩
  obtain ⟨T_18, h_18, X_18, e_18, W_18, st_18⟩ := stB X_6 hx hZ e_6 Ar__17 (j := (1 : Int32)) hin__17 (g := (mkF m 31 #[.val (.ref ca), .val (.int (1 : Int32)), .val (.ref ba), .val (.int (1 : Int32)), .val (.int (2 : Int32)), .val (.int (1 : Int32)), .val (.int q1)] [(.int (q1.toInt8.toInt32)), (.int (1 : Int32)), (.ref ba)])) rfl rfl (hb hby d6_31)
  have pre_18 : Rch p.tables e below (s₁.setTop (entryFrame m #[(.ref ca), (.int (0 : Int32)), (.ref ba), (.int (0 : Int32)), (.int (2 : Int32))] 7)) (T_18.setTop (mkF m 32 #[.val (.ref ca), .val (.int (1 : Int32)), .val (.ref ba), .val (.int (1 : Int32)), .val (.int (2 : Int32)), .val (.int (1 : Int32)), .val (.int q1)] [])) := fun tgt ktg => pre_16 tgt (st_18 tgt ktg)
  have f_19 : Arv Z h_18 ca kc .char (2 : Int32) [(.int q0), (.int q1)] (.int (0 : Int32)) := f_7.other W_18 ncb
  have z_20 : n0 ≤ h_18.size := Nat.le_trans z_8 (Keep.of_wr W_18).1
  have K_21 : Keep h0 h_18 [ba] := K_9.wr W_18 (Or.inl (List.mem_of_getElem? (i := 0) rfl))
  have f_22 : Arv Z h_18 ba kb .byte (2 : Int32) [(.int (q0.toInt8.toInt32)), (.int (nar .byte (q1.toInt8.toInt32)))] (.int (0 : Int32)) := Arv.set Ar__17 q__17 S__17 N__17 H__17 G__17 (fits_nar_byte _) W_18 1 rfl (Nat.le_of_ble_eq_true rfl)
  have N_23 := Fr.snoc X_18 N_11 gb
  rw [own_idem] at f_22
  have pre_24 : Rch p.tables e below (s₁.setTop (entryFrame m #[(.ref ca), (.int (0 : Int32)), (.ref ba), (.int (0 : Int32)), (.int (2 : Int32))] 7)) (T_18.setTop (mkF m 46 #[.val (.ref ca), .val (.int (2 : Int32)), .val (.ref ba), .val (.int (2 : Int32)), .val (.int (2 : Int32)), .val (.int (2 : Int32)), .val (.int q1)] [(.int (2 : Int32))])) := fun tgt ktg => pre_18 tgt (by
    show Steps p.tables e below (T_18.setTop (mkF m 32 #[.val (.ref ca), .val (.int (1 : Int32)), .val (.ref ba), .val (.int (1 : Int32)), .val (.int (2 : Int32)), .val (.int (1 : Int32)), .val (.int q1)] [])) _
    refine XS.iinc X_18.here hx rfl (hb hby d6_32) rfl (l' := #[.val (.ref ca), .val (.int (2 : Int32)), .val (.ref ba), .val (.int (1 : Int32)), .val (.int (2 : Int32)), .val (.int (1 : Int32)), .val (.int q1)]) rfl ?_
    show Steps p.tables e below (T_18.setTop (mkF m 35 #[.val (.ref ca), .val (.int (2 : Int32)), .val (.ref ba), .val (.int (1 : Int32)), .val (.int (2 : Int32)), .val (.int (1 : Int32)), .val (.int q1)] [])) _
    refine XS.iinc X_18.here hx rfl (hb hby d6_35) rfl (l' := #[.val (.ref ca), .val (.int (2 : Int32)), .val (.ref ba), .val (.int (2 : Int32)), .val (.int (2 : Int32)), .val (.int (1 : Int32)), .val (.int q1)]) rfl ?_
    show Steps p.tables e below (T_18.setTop (mkF m 38 #[.val (.ref ca), .val (.int (2 : Int32)), .val (.ref ba), .val (.int (2 : Int32)), .val (.int (2 : Int32)), .val (.int (1 : Int32)), .val (.int q1)] [])) _
    refine XS.iinc X_18.here hx rfl (hb hby d6_38) rfl (l' := #[.val (.ref ca), .val (.int (2 : Int32)), .val (.ref ba), .val (.int (2 : Int32)), .val (.int (2 : Int32)), .val (.int (2 : Int32)), .val (.int q1)]) rfl ?_
    show Steps p.tables e below (T_18.setTop (mkF m 41 #[.val (.ref ca), .val (.int (2 : Int32)), .val (.ref ba), .val (.int (2 : Int32)), .val (.int (2 : Int32)), .val (.int (2 : Int32)), .val (.int q1)] [])) _
    refine XS.goto X_18.here hx rfl (pc0 := 41) (pc' := 3) rfl (hb hby d6_41) (by decide) (by decide) ?_
    show Steps p.tables e below (T_18.setTop (mkF m 3 #[.val (.ref ca), .val (.int (2 : Int32)), .val (.ref ba), .val (.int (2 : Int32)), .val (.int (2 : Int32)), .val (.int (2 : Int32)), .val (.int q1)] [])) _
    refine XS.iload X_18.here hx rfl (hb hby d6_3) rfl ?_
    show Steps p.tables e below (T_18.setTop (mkF m 5 #[.val (.ref ca), .val (.int (2 : Int32)), .val (.ref ba), .val (.int (2 : Int32)), .val (.int (2 : Int32)), .val (.int (2 : Int32)), .val (.int q1)] [(.int (2 : Int32))])) _
    refine XS.iload X_18.here hx rfl (hb hby d6_5) rfl ?_
    show Steps p.tables e below (T_18.setTop (mkF m 7 #[.val (.ref ca), .val (.int (2 : Int32)), .val (.ref ba), .val (.int (2 : Int32)), .val (.int (2 : Int32)), .val (.int (2 : Int32)), .val (.int q1)] [(.int (2 : Int32)), (.int (2 : Int32))])) _
    refine XS.icmpYes X_18.here hx rfl (pc0 := 7) (pc' := 44) rfl (hb hby d6_7) rfl (flt (by decide : ¬ ((2 : Int32) < (2 : Int32)))).2.1 (by decide) (by decide) ?_
    show Steps p.tables e below (T_18.setTop (mkF m 44 #[.val (.ref ca), .val (.int (2 : Int32)), .val (.ref ba), .val (.int (2 : Int32)), .val (.int (2 : Int32)), .val (.int (2 : Int32)), .val (.int q1)] [])) _
    refine XS.iload X_18.here hx rfl (hb hby d6_44) rfl ?_
    exact ktg)
  obtain ⟨fs, hr, hrun, hended, hW, hsame⟩ := X_18.leave (v := some (.int (2 : Int32))) (fun h => by rw [Bd.returns] at h; cases h)
  refine ⟨_, _, pre_24 _ ?_, hrun, hended, _, _, rfl, ?_, ⟨_, rfl⟩, hW, hsame.mono (by decide) (by decide)⟩
  · show Steps p.tables e below (T_18.setTop (mkF m 46 #[.val (.ref ca), .val (.int (2 : Int32)), .val (.ref ba), .val (.int (2 : Int32)), .val (.int (2 : Int32)), .val (.int (2 : Int32)), .val (.int q1)] [(.int (2 : Int32))])) _
    exact retI X_18 hx Bd.returns (hb hby d6_46) hr
  · show Qco2 Z ca ba q0 q1 kc kb h0 n0 _ T_18.heap _
    rw [e_18]
    exact ⟨rfl, N_23, K_21, f_22⟩
theorem ef_cp2 (m : MethodId) (x0 : Addr) (x1 : Int32) (x2 : Int32) : entryFrame m #[(.ref x0), (.int x1), (.int x2)] 6 = mkF m 0 #[.val (.ref x0), .val (.int x1), .val (.int x2), .unset, .unset, .unset] [] := by first | (simp [entryFrame, mkF, argsToLocals, Value.category]; done) | rfl
def Qcp2 (Z : State) (ca : Addr) (q0 : Int32) (q1 : Int32) (kc : ClassId) (h0 : Heap) (n0 : Nat) (v : Option Value) (h : Heap) (L : List Loc) : Prop := ∃ (ba : Addr) (kb : ClassId), v = some (.ref ba) ∧ Fr n0 L ∧ Keep h0 h [] ∧ h0.size ≤ ba ∧ n0 ≤ ba ∧ Arv Z h ba kb .byte (2 : Int32) [(.int (q0.toInt8.toInt32)), (.int (q1.toInt8.toInt32))] (.int (0 : Int32))
set_option maxRecDepth 65536 in
set_option maxHeartbeats 40000000 in
theorem rmcp2 (l : Launch) (Z : State) (a0 : Array Value) (hw : ∀ d ∈ tables_1, d.before a0 Z = true) (ws : List Jvm.Cond) (ca : Addr) (q0 : Int32) (q1 : Int32) (kc : ClassId) (h0 : Heap) (n0 : Nat) (Z0 : n0 ≤ h0.size) (A1 : Arv Z h0 ca kc .char (2 : Int32) [(.int q0), (.int q1)] (.int (0 : Int32))) (hq0 : ¬ (255 : Int32) < q0) (hq1 : ¬ (255 : Int32) < q1) :
    MetFree l (⟨"java/lang/StringUTF16", "compress", "([CII)[B"⟩ : MethodName) (head1 (Jvm.Cond.code (⟨"java/lang/StringUTF16", "compress", "([CII)[B"⟩ : MethodName) jdk_52_method_16_code 6 (some (.array .byte)) :: ws) ({ frames := 1, cells := 1, slots := 2, locals := 18 } : Room)) (fun aA U => aA = #[(.ref ca), (.int (0 : Int32)), (.int (2 : Int32))] ∧ Z.Warmed39 U.vm ∧ U.heap = h0) (fun _ _ _ _ _ => True) (fun _ U oO U' => ∃ vV LL, oO = .returned vV ∧ Qcp2 Z ca q0 q1 kc h0 n0 vV U'.heap LL ∧ FrameEnd U oO U' LL ({ frames := 1, cells := 1, slots := 2, locals := 18 } : Room).cells ({ frames := 1, cells := 1, slots := 2, locals := 18 } : Room).slots) := by
  refine MetFree.of_bodySF (plainFor_of_name pn_3) hisR ?_
  intro p e s m args below meth c s₁ Bd hml0 hP hK
  obtain ⟨rfl, hZ, hh⟩ := hP
  have hx := Bd.exec
  have hby := Bd.bytes
  have hml : c.maxLocals = 6 := hml0
  have hown : s.vm.findClass "java/lang/StringUTF16" = some m.cls := findClass_of_methodNamed Bd.named
  have hnm := (name_of_methodNamed Bd.named Bd.method).1
  have X0 : Stand p l e ({ frames := 1, cells := 1, slots := 2, locals := 18 } : Room) s m #[(.ref ca), (.int (0 : Int32)), (.int (2 : Int32))] below meth c s₁ [] 0 0 := Stand.of_body Bd
  have e0 : s₁.heap = h0 := by rw [← hh, Bd.state]; rfl
  have N0 := Fr.nil n0
  have K0 : Keep h0 h0 [] := Keep.refl _ _
  have pre0 : Rch p.tables e below (s₁.setTop (entryFrame m #[(.ref ca), (.int (0 : Int32)), (.int (2 : Int32))] 6)) (s₁.setTop (mkF m 0 #[.val (.ref ca), .val (.int (0 : Int32)), .val (.int (2 : Int32)), .unset, .unset, .unset] [])) := fun tgt ktg => castTop (ef_cp2 m ca (0 : Int32) (2 : Int32)) ktg
  have pre_1 : Rch p.tables e below (s₁.setTop (entryFrame m #[(.ref ca), (.int (0 : Int32)), (.int (2 : Int32))] 6)) (s₁.setTop (mkF m 1 #[.val (.ref ca), .val (.int (0 : Int32)), .val (.int (2 : Int32)), .unset, .unset, .unset] [(.int (2 : Int32))])) := fun tgt ktg => pre0 tgt (by
    show Steps p.tables e below (s₁.setTop (mkF m 0 #[.val (.ref ca), .val (.int (0 : Int32)), .val (.int (2 : Int32)), .unset, .unset, .unset] [])) _
    refine XS.iloadN X0.here hx rfl (hb hby d5_0) rfl ?_
    exact ktg)
  obtain ⟨T_2, h_2, k_2, X_2, e_2, E_2, A_2, st_2⟩ := newP X0 hx hZ (hw _ (List.mem_of_getElem? (i := 23) rfl)) e0 (g := (mkF m 1 #[.val (.ref ca), .val (.int (0 : Int32)), .val (.int (2 : Int32)), .unset, .unset, .unset] [(.int (2 : Int32))])) rfl (hb hby d5_1) rfl (by decide) (cap := 2) (by decide) (by decide) (by decide) (by decide)
  obtain ⟨ba, g_2⟩ : ∃ nm_, nm_ = h0.size := ⟨_, rfl⟩
  rw [← g_2] at A_2 st_2
  have ne_ca_ba : ca ≠ ba := Nat.ne_of_lt (Nat.lt_of_lt_of_le A1.lt (Nat.le_of_eq g_2.symm))
  have g_ba : n0 ≤ ba := Nat.le_trans Z0 (Nat.le_of_eq g_2.symm)
  have sz_ba : h0.size ≤ ba := Nat.le_trans K0.1 (Nat.le_of_eq g_2.symm)
  have pre_2 : Rch p.tables e below (s₁.setTop (entryFrame m #[(.ref ca), (.int (0 : Int32)), (.int (2 : Int32))] 6)) (T_2.setTop (mkF m 3 #[.val (.ref ca), .val (.int (0 : Int32)), .val (.int (2 : Int32)), .unset, .unset, .unset] [(.ref ba)])) := fun tgt ktg => pre_1 tgt (st_2 tgt ktg)
  have f_3 : Arv Z h_2 ca kc .char (2 : Int32) [(.int q0), (.int q1)] (.int (0 : Int32)) := A1.ext E_2
  have z_4 : n0 ≤ h_2.size := Nat.le_trans Z0 E_2.1
  have K_5 : Keep h0 h_2 [] := K0.ext E_2
  have f_6 : Arv Z h_2 ba k_2 .byte (2 : Int32) [(.int (0 : Int32)), (.int (0 : Int32))] (.int (0 : Int32)) := (Arv.new A_2 (by decide)).pad (pad_rep [] (.int (0 : Int32)) 2)
  have pre_7 : Rch p.tables e below (s₁.setTop (entryFrame m #[(.ref ca), (.int (0 : Int32)), (.int (2 : Int32))] 6)) (T_2.setTop (mkF m 9 #[.val (.ref ca), .val (.int (0 : Int32)), .val (.int (2 : Int32)), .val (.ref ba), .unset, .unset] [(.int (2 : Int32)), (.int (0 : Int32)), (.ref ba), (.int (0 : Int32)), (.ref ca)])) := fun tgt ktg => pre_2 tgt (by
    show Steps p.tables e below (T_2.setTop (mkF m 3 #[.val (.ref ca), .val (.int (0 : Int32)), .val (.int (2 : Int32)), .unset, .unset, .unset] [(.ref ba)])) _
    refine XS.astoreN X_2.here hx rfl (hb hby d5_3) rfl rfl (l' := #[.val (.ref ca), .val (.int (0 : Int32)), .val (.int (2 : Int32)), .val (.ref ba), .unset, .unset]) rfl ?_
    show Steps p.tables e below (T_2.setTop (mkF m 4 #[.val (.ref ca), .val (.int (0 : Int32)), .val (.int (2 : Int32)), .val (.ref ba), .unset, .unset] [])) _
    refine XS.aloadN X_2.here hx rfl (hb hby d5_4) rfl rfl ?_
    show Steps p.tables e below (T_2.setTop (mkF m 5 #[.val (.ref ca), .val (.int (0 : Int32)), .val (.int (2 : Int32)), .val (.ref ba), .unset, .unset] [(.ref ca)])) _
    refine XS.iloadN X_2.here hx rfl (hb hby d5_5) rfl ?_
    show Steps p.tables e below (T_2.setTop (mkF m 6 #[.val (.ref ca), .val (.int (0 : Int32)), .val (.int (2 : Int32)), .val (.ref ba), .unset, .unset] [(.int (0 : Int32)), (.ref ca)])) _
    refine XS.aloadN X_2.here hx rfl (hb hby d5_6) rfl rfl ?_
    show Steps p.tables e below (T_2.setTop (mkF m 7 #[.val (.ref ca), .val (.int (0 : Int32)), .val (.int (2 : Int32)), .val (.ref ba), .unset, .unset] [(.ref ba), (.int (0 : Int32)), (.ref ca)])) _
    refine XS.iconst X_2.here hx rfl (hb hby d5_7) ?_
    show Steps p.tables e below (T_2.setTop (mkF m 8 #[.val (.ref ca), .val (.int (0 : Int32)), .val (.int (2 : Int32)), .val (.ref ba), .unset, .unset] [(.int (0 : Int32)), (.ref ba), (.int (0 : Int32)), (.ref ca)])) _
    refine XS.iloadN X_2.here hx rfl (hb hby d5_8) rfl ?_
    exact ktg)
  obtain ⟨_, _, ⟨T_8, L_8, k_8, n_8⟩, -, X_8, ⟨Lc_8, hQ_8, l_8, y_8, z_8⟩, st_8⟩ := Jvm.LawKit.callS X_2 hx (y := (⟨"java/lang/StringUTF16", "compress", "([CI[BII)I"⟩ : MethodName)) hown (mvT hZ (hw _ (List.mem_of_getElem? (i := 24) rfl))) (mvT hZ (hw _ (List.mem_of_getElem? (i := 25) rfl))) (mvT hZ (hw _ (List.mem_of_getElem? (i := 21) rfl))) (mvT hZ (hw _ (List.mem_of_getElem? (i := 26) rfl))) (by decide) (backOf (W := 0) (rmco2 l Z a0 hw [] ca ba q0 q1 kc k_2 h_2 n0 z_4 f_3 f_6 g_ba ne_ca_ba hq0 hq1) hZ (hw _ (List.mem_of_getElem? (i := 26) rfl)) (hw _ (List.mem_of_getElem? (i := 21) rfl)) (by decide) (by decide)) (g := (mkF m 9 #[.val (.ref ca), .val (.int (0 : Int32)), .val (.int (2 : Int32)), .val (.ref ba), .unset, .unset] [(.int (2 : Int32)), (.int (0 : Int32)), (.ref ba), (.int (0 : Int32)), (.ref ca)])) rfl (by rw [hml]; rfl) (argsL := [(.ref ca), (.int (0 : Int32)), (.ref ba), (.int (0 : Int32)), (.int (2 : Int32))]) (rest := []) (lenOf pd_7 rfl) rfl (by show 2 * 0 + _ ≤ _; exact Nat.le_of_eq rfl) (hb hby d5_9) (fun _ _ => ⟨rfl, e_2, (by decide : 1 + 0 ≤ _), (by decide : 2 + 0 ≤ _)⟩)
  dsimp only [Pt.U, Pt.locs, Pt.cells, Pt.slots] at X_8 l_8 y_8 z_8 st_8 hQ_8
  subst l_8 y_8 z_8
  obtain ⟨rfl, Nq_8, Kq_8, b0⟩ := hQ_8
  have N_9 := Fr.app N0 Nq_8
  have pre_8 : Rch p.tables e below (s₁.setTop (entryFrame m #[(.ref ca), (.int (0 : Int32)), (.int (2 : Int32))] 6)) (T_8.setTop (mkF m 12 #[.val (.ref ca), .val (.int (0 : Int32)), .val (.int (2 : Int32)), .val (.ref ba), .unset, .unset] [(.int (2 : Int32))])) := fun tgt ktg => pre_7 tgt (st_8 tgt ktg)
  have z_10 : n0 ≤ T_8.heap.size := Nat.le_trans z_4 Kq_8.1
  have K_11 : Keep h0 T_8.heap [] := K_5.trans Kq_8 (allS (P := fun x => x ∈ ([] : List Addr) ∨ h0.size ≤ x) (Or.inr sz_ba) (all0 (P := fun x => x ∈ ([] : List Addr) ∨ h0.size ≤ x)))
  have pre_12 : Rch p.tables e below (s₁.setTop (entryFrame m #[(.ref ca), (.int (0 : Int32)), (.int (2 : Int32))] 6)) (T_8.setTop (mkF m 58 #[.val (.ref ca), .val (.int (0 : Int32)), .val (.int (2 : Int32)), .val (.ref ba), .val (.int (2 : Int32)), .unset] [(.ref ba)])) := fun tgt ktg => pre_8 tgt (by
    show Steps p.tables e below (T_8.setTop (mkF m 12 #[.val (.ref ca), .val (.int (0 : Int32)), .val (.int (2 : Int32)), .val (.ref ba), .unset, .unset] [(.int (2 : Int32))])) _
    refine XS.istore X_8.here hx rfl (hb hby d5_12) rfl (l' := #[.val (.ref ca), .val (.int (0 : Int32)), .val (.int (2 : Int32)), .val (.ref ba), .val (.int (2 : Int32)), .unset]) rfl ?_
    show Steps p.tables e below (T_8.setTop (mkF m 14 #[.val (.ref ca), .val (.int (0 : Int32)), .val (.int (2 : Int32)), .val (.ref ba), .val (.int (2 : Int32)), .unset] [])) _
    refine XS.iload X_8.here hx rfl (hb hby d5_14) rfl ?_
    show Steps p.tables e below (T_8.setTop (mkF m 16 #[.val (.ref ca), .val (.int (0 : Int32)), .val (.int (2 : Int32)), .val (.ref ba), .val (.int (2 : Int32)), .unset] [(.int (2 : Int32))])) _
    refine XS.iloadN X_8.here hx rfl (hb hby d5_16) rfl ?_
    show Steps p.tables e below (T_8.setTop (mkF m 17 #[.val (.ref ca), .val (.int (0 : Int32)), .val (.int (2 : Int32)), .val (.ref ba), .val (.int (2 : Int32)), .unset] [(.int (2 : Int32)), (.int (2 : Int32))])) _
    refine XS.icmpYes X_8.here hx rfl (pc0 := 17) (pc' := 57) rfl (hb hby d5_17) rfl (teq (rfl : (2 : Int32) = (2 : Int32))).1 (by decide) (by decide) ?_
    show Steps p.tables e below (T_8.setTop (mkF m 57 #[.val (.ref ca), .val (.int (0 : Int32)), .val (.int (2 : Int32)), .val (.ref ba), .val (.int (2 : Int32)), .unset] [])) _
    refine XS.aloadN X_8.here hx rfl (hb hby d5_57) rfl rfl ?_
    exact ktg)
  obtain ⟨fs, hr, hrun, hended, hW, hsame⟩ := X_8.leave (v := some (.ref ba)) (fun h => by rw [Bd.returns] at h; cases h)
  refine ⟨_, _, pre_12 _ ?_, hrun, hended, _, _, rfl, ?_, ⟨_, rfl⟩, hW, hsame.mono (by decide) (by decide)⟩
  · show Steps p.tables e below (T_8.setTop (mkF m 58 #[.val (.ref ca), .val (.int (0 : Int32)), .val (.int (2 : Int32)), .val (.ref ba), .val (.int (2 : Int32)), .unset] [(.ref ba)])) _
    jvm_step X_8.here [X_8.here.top, hx, (hb hby d5_58), X_8.method', Bd.returns, Value.isRef, FieldType.isReference]
    first | (intro acts; rw [hr _ acts rfl rfl rfl]) | rw [hr _ _ rfl rfl rfl]
    exact Steps.refl _
  · show Qcp2 Z ca q0 q1 kc h0 n0 _ T_8.heap _
    exact ⟨ba, k_2, rfl, N_9, K_11, sz_ba, g_ba, b0⟩
theorem ef_cf2 (m : MethodId) (x0 : Addr) (x1 : Int32) : entryFrame m #[(.ref x0), (.int x1)] 2 = mkF m 0 #[.val (.ref x0), .val (.int x1)] [] := by first | (simp [entryFrame, mkF, argsToLocals, Value.category]; done) | rfl
def Qcf2 (Z : State) (ba : Addr) (kb : ClassId) (vs : List Value) (h0 : Heap) (n0 : Nat) (v : Option Value) (h : Heap) (L : List Loc) : Prop := v = some (.int 0) ∧ Fr n0 L ∧ h = h0
set_option maxRecDepth 65536 in
set_option maxHeartbeats 40000000 in
theorem rmcf2 (l : Launch) (Z : State) (a0 : Array Value) (hw : ∀ d ∈ tables_1, d.before a0 Z = true) (ws : List Jvm.Cond) (ba : Addr) (kb : ClassId) (vs : List Value) (h0 : Heap) (n0 : Nat) (Z0 : n0 ≤ h0.size) (A1 : Arv Z h0 ba kb .byte (2 : Int32) vs (.int (0 : Int32))) :
    MetFree l (⟨"java/lang/StringUTF16", "coderFromArrayLen", "([BI)B"⟩ : MethodName) (head1 (Jvm.Cond.code (⟨"java/lang/StringUTF16", "coderFromArrayLen", "([BI)B"⟩ : MethodName) jdk_52_method_15_code 2 (some .byte) :: ws) ({ frames := 0, cells := 0, slots := 0, locals := 0 } : Room)) (fun aA U => aA = #[(.ref ba), (.int (2 : Int32))] ∧ Z.Warmed39 U.vm ∧ U.heap = h0) (fun _ _ _ _ _ => True) (fun _ U oO U' => ∃ vV LL, oO = .returned vV ∧ Qcf2 Z ba kb vs h0 n0 vV U'.heap LL ∧ FrameEnd U oO U' LL ({ frames := 0, cells := 0, slots := 0, locals := 0 } : Room).cells ({ frames := 0, cells := 0, slots := 0, locals := 0 } : Room).slots) := by
  refine MetFree.of_bodySF (plainFor_of_name pn_3) hisR ?_
  intro p e s m args below meth c s₁ Bd hml0 hP hK
  obtain ⟨rfl, hZ, hh⟩ := hP
  have hx := Bd.exec
  have hby := Bd.bytes
  have hml : c.maxLocals = 2 := hml0
  have hown : s.vm.findClass "java/lang/StringUTF16" = some m.cls := findClass_of_methodNamed Bd.named
  have hnm := (name_of_methodNamed Bd.named Bd.method).1
  have X0 : Stand p l e ({ frames := 0, cells := 0, slots := 0, locals := 0 } : Room) s m #[(.ref ba), (.int (2 : Int32))] below meth c s₁ [] 0 0 := Stand.of_body Bd
  have e0 : s₁.heap = h0 := by rw [← hh, Bd.state]; rfl
  have N0 := Fr.nil n0
  have K0 : Keep h0 h0 [] := Keep.refl _ _
  have pre0 : Rch p.tables e below (s₁.setTop (entryFrame m #[(.ref ba), (.int (2 : Int32))] 2)) (s₁.setTop (mkF m 0 #[.val (.ref ba), .val (.int (2 : Int32))] [])) := fun tgt ktg => castTop (ef_cf2 m ba (2 : Int32)) ktg
  have pre_1 : Rch p.tables e below (s₁.setTop (entryFrame m #[(.ref ba), (.int (2 : Int32))] 2)) (s₁.setTop (mkF m 2 #[.val (.ref ba), .val (.int (2 : Int32))] [(.ref ba), (.int (2 : Int32))])) := fun tgt ktg => pre0 tgt (by
    show Steps p.tables e below (s₁.setTop (mkF m 0 #[.val (.ref ba), .val (.int (2 : Int32))] [])) _
    refine XS.iloadN X0.here hx rfl (hb hby d7_0) rfl ?_
    show Steps p.tables e below (s₁.setTop (mkF m 1 #[.val (.ref ba), .val (.int (2 : Int32))] [(.int (2 : Int32))])) _
    refine XS.aloadN X0.here hx rfl (hb hby d7_1) rfl rfl ?_
    exact ktg)
  obtain ⟨cl__2, Ar__2, q__2, S__2, N__2, H__2, G__2⟩ := id A1
  have pre_3 : Rch p.tables e below (s₁.setTop (entryFrame m #[(.ref ba), (.int (2 : Int32))] 2)) (s₁.setTop (mkF m 3 #[.val (.ref ba), .val (.int (2 : Int32))] [(.int (2 : Int32)), (.int (2 : Int32))])) := fun tgt ktg => pre_1 tgt (X0.arraylength hx (by rw [e0]; exact Ar__2.1) (State.isArrayOf_alike hZ.alike Ar__2.2.1) (g := (mkF m 2 #[.val (.ref ba), .val (.int (2 : Int32))] [(.ref ba), (.int (2 : Int32))])) rfl rfl (hb hby d7_2) _ (by rw [len_of S__2 N__2]; exact ktg))
  have pre_4 : Rch p.tables e below (s₁.setTop (entryFrame m #[(.ref ba), (.int (2 : Int32))] 2)) (s₁.setTop (mkF m 8 #[.val (.ref ba), .val (.int (2 : Int32))] [(.int ((((0 : Int32).toUInt32 >>> ((31 : Int32) &&& 31).toUInt32).toInt32).toInt8.toInt32))])) := fun tgt ktg => pre_3 tgt (by
    show Steps p.tables e below (s₁.setTop (mkF m 3 #[.val (.ref ba), .val (.int (2 : Int32))] [(.int (2 : Int32)), (.int (2 : Int32))])) _
    refine XS.isub X0.here hx rfl (hb hby d7_3) rfl ?_
    show Steps p.tables e below (s₁.setTop (mkF m 4 #[.val (.ref ba), .val (.int (2 : Int32))] [(.int (0 : Int32))])) _
    refine XS.bipush X0.here hx rfl (hb hby d7_4) ?_
    show Steps p.tables e below (s₁.setTop (mkF m 6 #[.val (.ref ba), .val (.int (2 : Int32))] [(.int (31 : Int32)), (.int (0 : Int32))])) _
    refine XT.iushr X0.here hx rfl (hb hby d7_6) rfl ?_
    show Steps p.tables e below (s₁.setTop (mkF m 7 #[.val (.ref ba), .val (.int (2 : Int32))] [(.int (((0 : Int32).toUInt32 >>> ((31 : Int32) &&& 31).toUInt32).toInt32))])) _
    refine XT.i2b X0.here hx rfl (hb hby d7_7) rfl ?_
    exact ktg)
  obtain ⟨fs, hr, hrun, hended, hW, hsame⟩ := X0.leave (v := some (.int (nar .byte ((((0 : Int32).toUInt32 >>> ((31 : Int32) &&& 31).toUInt32).toInt32).toInt8.toInt32)))) (fun h => by rw [Bd.returns] at h; cases h)
  refine ⟨_, _, pre_4 _ ?_, hrun, hended, _, _, rfl, ?_, ⟨_, rfl⟩, hW, hsame.mono (by decide) (by decide)⟩
  · show Steps p.tables e below (s₁.setTop (mkF m 8 #[.val (.ref ba), .val (.int (2 : Int32))] [(.int ((((0 : Int32).toUInt32 >>> ((31 : Int32) &&& 31).toUInt32).toInt32).toInt8.toInt32))])) _
    exact retN X0 hx (t := .byte) Bd.returns (by simp) (hb hby d7_8) hr
  · show Qcf2 Z ba kb vs h0 n0 _ s₁.heap _
    rw [e0]
    exact ⟨rfl, N0, rfl⟩
theorem ef_sv2 (m : MethodId) (x0 : Addr) (x1 : Addr) (x2 : Int32) (x3 : Int32) : entryFrame m #[(.ref x0), (.ref x1), (.int x2), (.int x3), .null] 6 = mkF m 0 #[.val (.ref x0), .val (.ref x1), .val (.int x2), .val (.int x3), .val .null, .unset] [] := by first | (simp [entryFrame, mkF, argsToLocals, Value.category]; done) | rfl
def Qsv2 (Z : State) (a : Addr) (ca : Addr) (q0 : Int32) (q1 : Int32) (kc : ClassId) (h0 : Heap) (n0 : Nat) (v : Option Value) (h : Heap) (L : List Loc) : Prop := ∃ (ba : Addr) (kb : ClassId), v = none ∧ Fr n0 L ∧ Keep h0 h [a] ∧ Exa Z h a "java/lang/String" ∧ Fld Z h a "java/lang/String" "coder" "B" (.int (0 : Int32)) ∧ Fld Z h a "java/lang/String" "value" "[B" (.ref ba) ∧ Arv Z h ba kb .byte (2 : Int32) [(.int (q0.toInt8.toInt32)), (.int (q1.toInt8.toInt32))] (.int (0 : Int32))
set_option maxRecDepth 65536 in
set_option maxHeartbeats 40000000 in
theorem rmsv2 (l : Launch) (Z : State) (a0 : Array Value) (hw : ∀ d ∈ tables_1, d.before a0 Z = true) (ws : List Jvm.Cond) (a : Addr) (ca : Addr) (q0 : Int32) (q1 : Int32) (kc : ClassId) (h0 : Heap) (n0 : Nat) (Z0 : n0 ≤ h0.size) (E1 : Exa Z h0 a "java/lang/String") (F1 : Fld Z h0 a "java/lang/String" "value" "[B" .null) (F2 : Fld Z h0 a "java/lang/String" "coder" "B" (.int (0 : Int32))) (A1 : Arv Z h0 ca kc .char (2 : Int32) [(.int q0), (.int q1)] (.int (0 : Int32))) (nca : ca ≠ a) (ga : n0 ≤ a) (hq0 : ¬ (255 : Int32) < q0) (hq1 : ¬ (255 : Int32) < q1) (cs : Int32) (hcs : ¬ cs = 0) (S1 : Sta Z h0 "java/lang/String" "COMPACT_STRINGS" "Z" (.int cs)) :
    MetFree l (⟨"java/lang/String", "<init>", "([CIILjava/lang/Void;)V"⟩ : MethodName) (head1 (Jvm.Cond.code (⟨"java/lang/String", "<init>", "([CIILjava/lang/Void;)V"⟩ : MethodName) jdk_42_method_149_code 6 none :: ws) ({ frames := 2, cells := 1, slots := 2, locals := 40 } : Room)) (fun aA U => aA = #[(.ref a), (.ref ca), (.int (0 : Int32)), (.int (2 : Int32)), .null] ∧ Z.Warmed39 U.vm ∧ U.heap = h0) (fun _ _ _ _ _ => True) (fun _ U oO U' => ∃ vV LL, oO = .returned vV ∧ Qsv2 Z a ca q0 q1 kc h0 n0 vV U'.heap LL ∧ FrameEnd U oO U' LL ({ frames := 2, cells := 1, slots := 2, locals := 40 } : Room).cells ({ frames := 2, cells := 1, slots := 2, locals := 40 } : Room).slots) := by
  refine MetFree.of_bodySF (plainFor_of_name pn_0) hisR ?_
  intro p e s m args below meth c s₁ Bd hml0 hP hK
  obtain ⟨rfl, hZ, hh⟩ := hP
  have hx := Bd.exec
  have hby := Bd.bytes
  have hml : c.maxLocals = 6 := hml0
  have hown : s.vm.findClass "java/lang/String" = some m.cls := findClass_of_methodNamed Bd.named
  have hnm := (name_of_methodNamed Bd.named Bd.method).1
  have X0 : Stand p l e ({ frames := 2, cells := 1, slots := 2, locals := 40 } : Room) s m #[(.ref a), (.ref ca), (.int (0 : Int32)), (.int (2 : Int32)), .null] below meth c s₁ [] 0 0 := Stand.of_body Bd
  have e0 : s₁.heap = h0 := by rw [← hh, Bd.state]; rfl
  have N0 := Fr.nil n0
  have K0 : Keep h0 h0 [a] := Keep.refl _ _
  have pre0 : Rch p.tables e below (s₁.setTop (entryFrame m #[(.ref a), (.ref ca), (.int (0 : Int32)), (.int (2 : Int32)), .null] 6)) (s₁.setTop (mkF m 0 #[.val (.ref a), .val (.ref ca), .val (.int (0 : Int32)), .val (.int (2 : Int32)), .val .null, .unset] [])) := fun tgt ktg => castTop (ef_sv2 m a ca (0 : Int32) (2 : Int32)) ktg
  have pre_1 : Rch p.tables e below (s₁.setTop (entryFrame m #[(.ref a), (.ref ca), (.int (0 : Int32)), (.int (2 : Int32)), .null] 6)) (s₁.setTop (mkF m 1 #[.val (.ref a), .val (.ref ca), .val (.int (0 : Int32)), .val (.int (2 : Int32)), .val .null, .unset] [(.ref a)])) := fun tgt ktg => pre0 tgt (by
    show Steps p.tables e below (s₁.setTop (mkF m 0 #[.val (.ref a), .val (.ref ca), .val (.int (0 : Int32)), .val (.int (2 : Int32)), .val .null, .unset] [])) _
    refine XS.aloadN X0.here hx rfl (hb hby d3_0) rfl rfl ?_
    exact ktg)
  obtain ⟨T_2, X_2, e_2, st_2⟩ := initO X0 hx hZ hown (hw _ (List.mem_of_getElem? (i := 15) rfl)) (hw _ (List.mem_of_getElem? (i := 16) rfl)) (hw _ (List.mem_of_getElem? (i := 17) rfl)) e0 (g := (mkF m 1 #[.val (.ref a), .val (.ref ca), .val (.int (0 : Int32)), .val (.int (2 : Int32)), .val .null, .unset] [(.ref a)])) rfl (by rw [hml]; rfl) rfl (hb hby d3_1) (by decide) (W := 0) (by show 2 * 0 + _ ≤ _; exact Nat.le_of_eq rfl) (by decide)
  have pre_2 : Rch p.tables e below (s₁.setTop (entryFrame m #[(.ref a), (.ref ca), (.int (0 : Int32)), (.int (2 : Int32)), .null] 6)) (T_2.setTop (mkF m 4 #[.val (.ref a), .val (.ref ca), .val (.int (0 : Int32)), .val (.int (2 : Int32)), .val .null, .unset] [])) := fun tgt ktg => pre_1 tgt (st_2 tgt ktg)
  have pre_3 : Rch p.tables e below (s₁.setTop (entryFrame m #[(.ref a), (.ref ca), (.int (0 : Int32)), (.int (2 : Int32)), .null] 6)) (T_2.setTop (mkF m 27 #[.val (.ref a), .val (.ref ca), .val (.int (0 : Int32)), .val (.int (2 : Int32)), .val .null, .unset] [])) := fun tgt ktg => pre_2 tgt (by
    show Steps p.tables e below (T_2.setTop (mkF m 4 #[.val (.ref a), .val (.ref ca), .val (.int (0 : Int32)), .val (.int (2 : Int32)), .val .null, .unset] [])) _
    refine XS.iloadN X_2.here hx rfl (hb hby d3_4) rfl ?_
    show Steps p.tables e below (T_2.setTop (mkF m 5 #[.val (.ref a), .val (.ref ca), .val (.int (0 : Int32)), .val (.int (2 : Int32)), .val .null, .unset] [(.int (2 : Int32))])) _
    refine XS.ifYes X_2.here hx rfl (pc0 := 5) (pc' := 27) rfl (hb hby d3_5) rfl ((if0 _ _).trans (feq (by decide : ¬ ((2 : Int32) = (0 : Int32)))).2) (by decide) (by decide) ?_
    exact ktg)
  obtain ⟨T_4, X_4, e_4, st_4⟩ := getS2 X_2 hx hZ hown (host := "") (Or.inl (hw _ (List.mem_of_getElem? (i := 18) rfl))) Via.refl e_2 S1 (g := (mkF m 27 #[.val (.ref a), .val (.ref ca), .val (.int (0 : Int32)), .val (.int (2 : Int32)), .val .null, .unset] [])) rfl (hb hby d3_27)
  have pre_4 : Rch p.tables e below (s₁.setTop (entryFrame m #[(.ref a), (.ref ca), (.int (0 : Int32)), (.int (2 : Int32)), .null] 6)) (T_4.setTop (mkF m 30 #[.val (.ref a), .val (.ref ca), .val (.int (0 : Int32)), .val (.int (2 : Int32)), .val .null, .unset] [(.int cs)])) := fun tgt ktg => pre_3 tgt (st_4 tgt ktg)
  have pre_5 : Rch p.tables e below (s₁.setTop (entryFrame m #[(.ref a), (.ref ca), (.int (0 : Int32)), (.int (2 : Int32)), .null] 6)) (T_4.setTop (mkF m 36 #[.val (.ref a), .val (.ref ca), .val (.int (0 : Int32)), .val (.int (2 : Int32)), .val .null, .unset] [(.int (2 : Int32)), (.int (0 : Int32)), (.ref ca)])) := fun tgt ktg => pre_4 tgt (by
    show Steps p.tables e below (T_4.setTop (mkF m 30 #[.val (.ref a), .val (.ref ca), .val (.int (0 : Int32)), .val (.int (2 : Int32)), .val .null, .unset] [(.int cs)])) _
    refine XS.ifNo X_4.here hx rfl (hb hby d3_30) rfl ((if0 _ _).trans (feq hcs).1) ?_
    show Steps p.tables e below (T_4.setTop (mkF m 33 #[.val (.ref a), .val (.ref ca), .val (.int (0 : Int32)), .val (.int (2 : Int32)), .val .null, .unset] [])) _
    refine XS.aloadN X_4.here hx rfl (hb hby d3_33) rfl rfl ?_
    show Steps p.tables e below (T_4.setTop (mkF m 34 #[.val (.ref a), .val (.ref ca), .val (.int (0 : Int32)), .val (.int (2 : Int32)), .val .null, .unset] [(.ref ca)])) _
    refine XS.iloadN X_4.here hx rfl (hb hby d3_34) rfl ?_
    show Steps p.tables e below (T_4.setTop (mkF m 35 #[.val (.ref a), .val (.ref ca), .val (.int (0 : Int32)), .val (.int (2 : Int32)), .val .null, .unset] [(.int (0 : Int32)), (.ref ca)])) _
    refine XS.iloadN X_4.here hx rfl (hb hby d3_35) rfl ?_
    exact ktg)
  have alt := E1.lt
  obtain ⟨_, _, ⟨T_6, L_6, k_6, n_6⟩, -, X_6, ⟨Lc_6, hQ_6, l_6, y_6, z_6⟩, st_6⟩ := Jvm.LawKit.callS X_4 hx (y := (⟨"java/lang/StringUTF16", "compress", "([CII)[B"⟩ : MethodName)) hown (mvT hZ (hw _ (List.mem_of_getElem? (i := 19) rfl))) (mvT hZ (hw _ (List.mem_of_getElem? (i := 20) rfl))) (mvT hZ (hw _ (List.mem_of_getElem? (i := 21) rfl))) (mvT hZ (hw _ (List.mem_of_getElem? (i := 22) rfl))) (by decide) (backOf (W := 0) (rmcp2 l Z a0 hw [] ca q0 q1 kc h0 n0 Z0 A1 hq0 hq1) hZ (hw _ (List.mem_of_getElem? (i := 22) rfl)) (hw _ (List.mem_of_getElem? (i := 21) rfl)) (by decide) (by decide)) (g := (mkF m 36 #[.val (.ref a), .val (.ref ca), .val (.int (0 : Int32)), .val (.int (2 : Int32)), .val .null, .unset] [(.int (2 : Int32)), (.int (0 : Int32)), (.ref ca)])) rfl (by rw [hml]; rfl) (argsL := [(.ref ca), (.int (0 : Int32)), (.int (2 : Int32))]) (rest := []) (lenOf pd_8 rfl) rfl (by show 2 * 0 + _ ≤ _; exact Nat.le_of_eq rfl) (hb hby d3_36) (fun _ _ => ⟨rfl, e_4, (by decide : 0 + 1 ≤ _), (by decide : 0 + 2 ≤ _)⟩)
  dsimp only [Pt.U, Pt.locs, Pt.cells, Pt.slots] at X_6 l_6 y_6 z_6 st_6 hQ_6
  subst l_6 y_6 z_6
  obtain ⟨ba, kb, rfl, Nq_6, Kq_6, sba, gba, b0⟩ := hQ_6
  have N_7 := Fr.app N0 Nq_6
  have pre_6 : Rch p.tables e below (s₁.setTop (entryFrame m #[(.ref a), (.ref ca), (.int (0 : Int32)), (.int (2 : Int32)), .null] 6)) (T_6.setTop (mkF m 39 #[.val (.ref a), .val (.ref ca), .val (.int (0 : Int32)), .val (.int (2 : Int32)), .val .null, .unset] [(.ref ba)])) := fun tgt ktg => pre_5 tgt (st_6 tgt ktg)
  have f_8 : Exa Z T_6.heap a "java/lang/String" := E1.keep Kq_6
  have f_9 : Fld Z T_6.heap a "java/lang/String" "value" "[B" .null := F1.keep Kq_6 nin0
  have f_10 : Fld Z T_6.heap a "java/lang/String" "coder" "B" (.int (0 : Int32)) := F2.keep Kq_6 nin0
  have f_11 : Arv Z T_6.heap ca kc .char (2 : Int32) [(.int q0), (.int q1)] (.int (0 : Int32)) := A1.keep Kq_6 nin0
  have f_12 : Sta Z T_6.heap "java/lang/String" "COMPACT_STRINGS" "Z" (.int cs) := own_sta_keep S1 Kq_6 ns0
  have z_13 : n0 ≤ T_6.heap.size := Nat.le_trans Z0 Kq_6.1
  have K_14 : Keep h0 T_6.heap [a] := K0.trans Kq_6 (all0 (P := fun x => x ∈ [a] ∨ h0.size ≤ x))
  have nab : a ≠ ba := Nat.ne_of_lt (Nat.lt_of_lt_of_le alt sba)
  have pre_15 : Rch p.tables e below (s₁.setTop (entryFrame m #[(.ref a), (.ref ca), (.int (0 : Int32)), (.int (2 : Int32)), .null] 6)) (T_6.setTop (mkF m 45 #[.val (.ref a), .val (.ref ca), .val (.int (0 : Int32)), .val (.int (2 : Int32)), .val .null, .val (.ref ba)] [(.int (2 : Int32)), (.ref ba), (.ref a)])) := fun tgt ktg => pre_6 tgt (by
    show Steps p.tables e below (T_6.setTop (mkF m 39 #[.val (.ref a), .val (.ref ca), .val (.int (0 : Int32)), .val (.int (2 : Int32)), .val .null, .unset] [(.ref ba)])) _
    refine XS.astore X_6.here hx rfl (hb hby d3_39) rfl rfl (l' := #[.val (.ref a), .val (.ref ca), .val (.int (0 : Int32)), .val (.int (2 : Int32)), .val .null, .val (.ref ba)]) rfl ?_
    show Steps p.tables e below (T_6.setTop (mkF m 41 #[.val (.ref a), .val (.ref ca), .val (.int (0 : Int32)), .val (.int (2 : Int32)), .val .null, .val (.ref ba)] [])) _
    refine XS.aloadN X_6.here hx rfl (hb hby d3_41) rfl rfl ?_
    show Steps p.tables e below (T_6.setTop (mkF m 42 #[.val (.ref a), .val (.ref ca), .val (.int (0 : Int32)), .val (.int (2 : Int32)), .val .null, .val (.ref ba)] [(.ref a)])) _
    refine XS.aload X_6.here hx rfl (hb hby d3_42) rfl rfl ?_
    show Steps p.tables e below (T_6.setTop (mkF m 44 #[.val (.ref a), .val (.ref ca), .val (.int (0 : Int32)), .val (.int (2 : Int32)), .val .null, .val (.ref ba)] [(.ref ba), (.ref a)])) _
    refine XS.iloadN X_6.here hx rfl (hb hby d3_44) rfl ?_
    exact ktg)
  obtain ⟨_, _, ⟨T_16, L_16, k_16, n_16⟩, -, X_16, ⟨Lc_16, hQ_16, l_16, y_16, z_16⟩, st_16⟩ := Jvm.LawKit.callS X_6 hx (y := (⟨"java/lang/StringUTF16", "coderFromArrayLen", "([BI)B"⟩ : MethodName)) hown (mvT hZ (hw _ (List.mem_of_getElem? (i := 27) rfl))) (mvT hZ (hw _ (List.mem_of_getElem? (i := 28) rfl))) (mvT hZ (hw _ (List.mem_of_getElem? (i := 21) rfl))) (mvT hZ (hw _ (List.mem_of_getElem? (i := 29) rfl))) (by decide) (backOf (W := 1) (rmcf2 l Z a0 hw [] ba kb [(.int (q0.toInt8.toInt32)), (.int (q1.toInt8.toInt32))] T_6.heap n0 z_13 b0) hZ (hw _ (List.mem_of_getElem? (i := 29) rfl)) (hw _ (List.mem_of_getElem? (i := 21) rfl)) (by decide) (by decide)) (g := (mkF m 45 #[.val (.ref a), .val (.ref ca), .val (.int (0 : Int32)), .val (.int (2 : Int32)), .val .null, .val (.ref ba)] [(.int (2 : Int32)), (.ref ba), (.ref a)])) rfl (by rw [hml]; rfl) (argsL := [(.ref ba), (.int (2 : Int32))]) (rest := [(.ref a)]) (lenOf pd_9 rfl) rfl (by show 2 * 0 + _ ≤ _; exact Nat.le_of_eq rfl) (hb hby d3_45) (fun _ _ => ⟨rfl, rfl, (by decide : 1 + 0 ≤ _), (by decide : 2 + 0 ≤ _)⟩)
  dsimp only [Pt.U, Pt.locs, Pt.cells, Pt.slots] at X_16 l_16 y_16 z_16 st_16 hQ_16
  subst l_16 y_16 z_16
  obtain ⟨rfl, Nq_16, eh_16⟩ := hQ_16
  have N_17 := Fr.app N_7 Nq_16
  have pre_16 : Rch p.tables e below (s₁.setTop (entryFrame m #[(.ref a), (.ref ca), (.int (0 : Int32)), (.int (2 : Int32)), .null] 6)) (T_16.setTop (mkF m 48 #[.val (.ref a), .val (.ref ca), .val (.int (0 : Int32)), .val (.int (2 : Int32)), .val .null, .val (.ref ba)] [(.int (0 : Int32)), (.ref a)])) := fun tgt ktg => pre_15 tgt (st_16 tgt ktg)
  obtain ⟨T_18, h_18, X_18, e_18, W_18, st_18⟩ := putFN X_16 hx hZ hown (hw _ (List.mem_of_getElem? (i := 30) rfl)) Via.refl eh_16 f_10 f_8 (Or.inr ⟨(hw _ (List.mem_of_getElem? (i := 31) rfl)), rfl, hnm⟩) (hw _ (List.mem_of_getElem? (i := 5) rfl)) (ty := .byte) (v' := (.int (0 : Int32))) (by decide) rfl (by decide) (g := (mkF m 48 #[.val (.ref a), .val (.ref ca), .val (.int (0 : Int32)), .val (.int (2 : Int32)), .val .null, .val (.ref ba)] [(.int (0 : Int32)), (.ref a)])) rfl rfl (hb hby d3_48)
  have pre_18 : Rch p.tables e below (s₁.setTop (entryFrame m #[(.ref a), (.ref ca), (.int (0 : Int32)), (.int (2 : Int32)), .null] 6)) (T_18.setTop (mkF m 51 #[.val (.ref a), .val (.ref ca), .val (.int (0 : Int32)), .val (.int (2 : Int32)), .val .null, .val (.ref ba)] [])) := fun tgt ktg => pre_16 tgt (st_18 tgt ktg)
  have f_19 : Exa Z h_18 a "java/lang/String" := f_8.wr W_18
  have f_20 : Fld Z h_18 a "java/lang/String" "value" "[B" .null := f_9.other W_18 (Or.inr (slot_ne (Or.inr (hw _ (List.mem_of_getElem? (i := 33) rfl))) (Or.inr (hw _ (List.mem_of_getElem? (i := 31) rfl))) (by decide) (t := (.array .byte)) (t' := .byte) (by decide) (by decide)))
  have f_21 : Sta Z h_18 "java/lang/String" "COMPACT_STRINGS" "Z" (.int cs) := f_12.wr W_18
  have f_22 : Arv Z h_18 ba kb .byte (2 : Int32) [(.int (q0.toInt8.toInt32)), (.int (q1.toInt8.toInt32))] (.int (0 : Int32)) := b0.other W_18 (Ne.symm nab)
  have z_23 : n0 ≤ h_18.size := Nat.le_trans z_13 (Keep.of_wr W_18).1
  have K_24 : Keep h0 h_18 [a] := K_14.wr W_18 (Or.inl (List.mem_of_getElem? (i := 0) rfl))
  have f_25 : Fld Z h_18 a "java/lang/String" "coder" "B" (.int (0 : Int32)) := f_10.same W_18
  have N_26 := Fr.snoc X_18 N_17 ga
  have pre_27 : Rch p.tables e below (s₁.setTop (entryFrame m #[(.ref a), (.ref ca), (.int (0 : Int32)), (.int (2 : Int32)), .null] 6)) (T_18.setTop (mkF m 54 #[.val (.ref a), .val (.ref ca), .val (.int (0 : Int32)), .val (.int (2 : Int32)), .val .null, .val (.ref ba)] [(.ref ba), (.ref a)])) := fun tgt ktg => pre_18 tgt (by
    show Steps p.tables e below (T_18.setTop (mkF m 51 #[.val (.ref a), .val (.ref ca), .val (.int (0 : Int32)), .val (.int (2 : Int32)), .val .null, .val (.ref ba)] [])) _
    refine XS.aloadN X_18.here hx rfl (hb hby d3_51) rfl rfl ?_
    show Steps p.tables e below (T_18.setTop (mkF m 52 #[.val (.ref a), .val (.ref ca), .val (.int (0 : Int32)), .val (.int (2 : Int32)), .val .null, .val (.ref ba)] [(.ref a)])) _
    refine XS.aload X_18.here hx rfl (hb hby d3_52) rfl rfl ?_
    exact ktg)
  obtain ⟨T_28, h_28, X_28, e_28, W_28, st_28⟩ := putF X_18 hx hZ hown (host := "") (Or.inl (hw _ (List.mem_of_getElem? (i := 32) rfl))) Via.refl e_18 f_20 f_19 (Or.inr ⟨(hw _ (List.mem_of_getElem? (i := 33) rfl)), rfl, hnm⟩) (hw _ (List.mem_of_getElem? (i := 5) rfl)) (ty := (.array .byte)) (by decide) rfl rfl (g := (mkF m 54 #[.val (.ref a), .val (.ref ca), .val (.int (0 : Int32)), .val (.int (2 : Int32)), .val .null, .val (.ref ba)] [(.ref ba), (.ref a)])) rfl rfl (hb hby d3_54)
  have pre_28 : Rch p.tables e below (s₁.setTop (entryFrame m #[(.ref a), (.ref ca), (.int (0 : Int32)), (.int (2 : Int32)), .null] 6)) (T_28.setTop (mkF m 57 #[.val (.ref a), .val (.ref ca), .val (.int (0 : Int32)), .val (.int (2 : Int32)), .val .null, .val (.ref ba)] [])) := fun tgt ktg => pre_27 tgt (st_28 tgt ktg)
  have f_29 : Exa Z h_28 a "java/lang/String" := f_19.wr W_28
  have f_30 : Sta Z h_28 "java/lang/String" "COMPACT_STRINGS" "Z" (.int cs) := f_21.wr W_28
  have f_31 : Arv Z h_28 ba kb .byte (2 : Int32) [(.int (q0.toInt8.toInt32)), (.int (q1.toInt8.toInt32))] (.int (0 : Int32)) := f_22.other W_28 (Ne.symm nab)
  have f_32 : Fld Z h_28 a "java/lang/String" "coder" "B" (.int (0 : Int32)) := f_25.other W_28 (Or.inr (slot_ne (Or.inr (hw _ (List.mem_of_getElem? (i := 31) rfl))) (Or.inr (hw _ (List.mem_of_getElem? (i := 33) rfl))) (by decide) (t := .byte) (t' := (.array .byte)) (by decide) (by decide)))
  have z_33 : n0 ≤ h_28.size := Nat.le_trans z_23 (Keep.of_wr W_28).1
  have K_34 : Keep h0 h_28 [a] := K_24.wr W_28 (Or.inl (List.mem_of_getElem? (i := 0) rfl))
  have f_35 : Fld Z h_28 a "java/lang/String" "value" "[B" (.ref ba) := f_20.same W_28
  have N_36 := Fr.snoc X_28 N_26 ga
  obtain ⟨fs, hr, hrun, hended, hW, hsame⟩ := X_28.leave (v := none) (fun _ => rfl)
  refine ⟨_, _, pre_28 _ ?_, hrun, hended, _, _, rfl, ?_, ⟨_, rfl⟩, hW, hsame.mono (by decide) (by decide)⟩
  · show Steps p.tables e below (T_28.setTop (mkF m 57 #[.val (.ref a), .val (.ref ca), .val (.int (0 : Int32)), .val (.int (2 : Int32)), .val .null, .val (.ref ba)] [])) _
    exact X_28.returnOut hx Bd.returns (hb hby d3_57) hr
  · show Qsv2 Z a ca q0 q1 kc h0 n0 _ T_28.heap _
    rw [e_28]
    exact ⟨ba, kb, rfl, N_36, K_34, f_29, f_32, f_35, f_31⟩
theorem ef_sc2 (m : MethodId) (x0 : Addr) (x1 : Addr) : entryFrame m #[(.ref x0), (.ref x1)] 2 = mkF m 0 #[.val (.ref x0), .val (.ref x1)] [] := by first | (simp [entryFrame, mkF, argsToLocals, Value.category]; done) | rfl
def Qsc2 (Z : State) (a : Addr) (ca : Addr) (q0 : Int32) (q1 : Int32) (kc : ClassId) (h0 : Heap) (n0 : Nat) (v : Option Value) (h : Heap) (L : List Loc) : Prop := ∃ (ba : Addr) (kb : ClassId), v = none ∧ Fr n0 L ∧ Keep h0 h [a] ∧ Exa Z h a "java/lang/String" ∧ Fld Z h a "java/lang/String" "coder" "B" (.int (0 : Int32)) ∧ Fld Z h a "java/lang/String" "value" "[B" (.ref ba) ∧ Arv Z h ba kb .byte (2 : Int32) [(.int (q0.toInt8.toInt32)), (.int (q1.toInt8.toInt32))] (.int (0 : Int32))
set_option maxRecDepth 65536 in
set_option maxHeartbeats 40000000 in
theorem rmsc2 (l : Launch) (Z : State) (a0 : Array Value) (hw : ∀ d ∈ tables_1, d.before a0 Z = true) (ws : List Jvm.Cond) (a : Addr) (ca : Addr) (q0 : Int32) (q1 : Int32) (kc : ClassId) (h0 : Heap) (n0 : Nat) (Z0 : n0 ≤ h0.size) (E1 : Exa Z h0 a "java/lang/String") (F1 : Fld Z h0 a "java/lang/String" "value" "[B" .null) (F2 : Fld Z h0 a "java/lang/String" "coder" "B" (.int (0 : Int32))) (A1 : Arv Z h0 ca kc .char (2 : Int32) [(.int q0), (.int q1)] (.int (0 : Int32))) (nca : ca ≠ a) (ga : n0 ≤ a) (hq0 : ¬ (255 : Int32) < q0) (hq1 : ¬ (255 : Int32) < q1) (cs : Int32) (hcs : ¬ cs = 0) (S1 : Sta Z h0 "java/lang/String" "COMPACT_STRINGS" "Z" (.int cs)) :
    MetFree l (⟨"java/lang/String", "<init>", "([C)V"⟩ : MethodName) (head1 (Jvm.Cond.code (⟨"java/lang/String", "<init>", "([C)V"⟩ : MethodName) jdk_42_method_3_code 2 none :: ws) ({ frames := 3, cells := 1, slots := 2, locals := 57 } : Room)) (fun aA U => aA = #[(.ref a), (.ref ca)] ∧ Z.Warmed39 U.vm ∧ U.heap = h0) (fun _ _ _ _ _ => True) (fun _ U oO U' => ∃ vV LL, oO = .returned vV ∧ Qsc2 Z a ca q0 q1 kc h0 n0 vV U'.heap LL ∧ FrameEnd U oO U' LL ({ frames := 3, cells := 1, slots := 2, locals := 57 } : Room).cells ({ frames := 3, cells := 1, slots := 2, locals := 57 } : Room).slots) := by
  refine MetFree.of_bodySF (plainFor_of_name pn_0) hisR ?_
  intro p e s m args below meth c s₁ Bd hml0 hP hK
  obtain ⟨rfl, hZ, hh⟩ := hP
  have hx := Bd.exec
  have hby := Bd.bytes
  have hml : c.maxLocals = 2 := hml0
  have hown : s.vm.findClass "java/lang/String" = some m.cls := findClass_of_methodNamed Bd.named
  have hnm := (name_of_methodNamed Bd.named Bd.method).1
  have X0 : Stand p l e ({ frames := 3, cells := 1, slots := 2, locals := 57 } : Room) s m #[(.ref a), (.ref ca)] below meth c s₁ [] 0 0 := Stand.of_body Bd
  have e0 : s₁.heap = h0 := by rw [← hh, Bd.state]; rfl
  have N0 := Fr.nil n0
  have K0 : Keep h0 h0 [a] := Keep.refl _ _
  have pre0 : Rch p.tables e below (s₁.setTop (entryFrame m #[(.ref a), (.ref ca)] 2)) (s₁.setTop (mkF m 0 #[.val (.ref a), .val (.ref ca)] [])) := fun tgt ktg => castTop (ef_sc2 m a ca) ktg
  have pre_1 : Rch p.tables e below (s₁.setTop (entryFrame m #[(.ref a), (.ref ca)] 2)) (s₁.setTop (mkF m 4 #[.val (.ref a), .val (.ref ca)] [(.ref ca), (.int (0 : Int32)), (.ref ca), (.ref a)])) := fun tgt ktg => pre0 tgt (by
    show Steps p.tables e below (s₁.setTop (mkF m 0 #[.val (.ref a), .val (.ref ca)] [])) _
    refine XS.aloadN X0.here hx rfl (hb hby d2_0) rfl rfl ?_
    show Steps p.tables e below (s₁.setTop (mkF m 1 #[.val (.ref a), .val (.ref ca)] [(.ref a)])) _
    refine XS.aloadN X0.here hx rfl (hb hby d2_1) rfl rfl ?_
    show Steps p.tables e below (s₁.setTop (mkF m 2 #[.val (.ref a), .val (.ref ca)] [(.ref ca), (.ref a)])) _
    refine XS.iconst X0.here hx rfl (hb hby d2_2) ?_
    show Steps p.tables e below (s₁.setTop (mkF m 3 #[.val (.ref a), .val (.ref ca)] [(.int (0 : Int32)), (.ref ca), (.ref a)])) _
    refine XS.aloadN X0.here hx rfl (hb hby d2_3) rfl rfl ?_
    exact ktg)
  obtain ⟨cl__2, Ar__2, q__2, S__2, N__2, H__2, G__2⟩ := id A1
  have pre_3 : Rch p.tables e below (s₁.setTop (entryFrame m #[(.ref a), (.ref ca)] 2)) (s₁.setTop (mkF m 5 #[.val (.ref a), .val (.ref ca)] [(.int (2 : Int32)), (.int (0 : Int32)), (.ref ca), (.ref a)])) := fun tgt ktg => pre_1 tgt (X0.arraylength hx (by rw [e0]; exact Ar__2.1) (State.isArrayOf_alike hZ.alike Ar__2.2.1) (g := (mkF m 4 #[.val (.ref a), .val (.ref ca)] [(.ref ca), (.int (0 : Int32)), (.ref ca), (.ref a)])) rfl rfl (hb hby d2_4) _ (by rw [len_of S__2 N__2]; exact ktg))
  have pre_4 : Rch p.tables e below (s₁.setTop (entryFrame m #[(.ref a), (.ref ca)] 2)) (s₁.setTop (mkF m 6 #[.val (.ref a), .val (.ref ca)] [.null, (.int (2 : Int32)), (.int (0 : Int32)), (.ref ca), (.ref a)])) := fun tgt ktg => pre_3 tgt (by
    show Steps p.tables e below (s₁.setTop (mkF m 5 #[.val (.ref a), .val (.ref ca)] [(.int (2 : Int32)), (.int (0 : Int32)), (.ref ca), (.ref a)])) _
    refine XS.aconstNull X0.here hx rfl (hb hby d2_5) ?_
    exact ktg)
  obtain ⟨_, _, ⟨T_5, L_5, k_5, n_5⟩, -, X_5, ⟨Lc_5, hQ_5, l_5, y_5, z_5⟩, st_5⟩ := X0.specialBack hx (y := (⟨"java/lang/String", "<init>", "([CIILjava/lang/Void;)V"⟩ : MethodName)) rfl hown (mvT hZ (hw _ (List.mem_of_getElem? (i := 11) rfl))) (mvT hZ (hw _ (List.mem_of_getElem? (i := 12) rfl))) (mvT hZ (hw _ (List.mem_of_getElem? (i := 14) rfl))) (by decide) (backOf (W := 0) (rmsv2 l Z a0 hw [] a ca q0 q1 kc h0 n0 Z0 E1 F1 F2 A1 nca ga hq0 hq1 cs hcs S1) hZ (hw _ (List.mem_of_getElem? (i := 14) rfl)) (hw _ (List.mem_of_getElem? (i := 6) rfl)) (by decide) (by decide)) (g := (mkF m 6 #[.val (.ref a), .val (.ref ca)] [.null, (.int (2 : Int32)), (.int (0 : Int32)), (.ref ca), (.ref a)])) rfl (by rw [hml]; rfl) (Steps.refl _) (a := a) (argsL := [(.ref ca), (.int (0 : Int32)), (.int (2 : Int32)), .null]) (rest := []) (lenOf pd_10 rfl) rfl (by show 2 * 0 + _ ≤ _; exact Nat.le_of_eq rfl) (hb hby d2_6) (fun _ _ => ⟨rfl, e0, (by decide : 0 + 1 ≤ _), (by decide : 0 + 2 ≤ _)⟩)
  dsimp only [Pt.U, Pt.locs, Pt.cells, Pt.slots] at X_5 l_5 y_5 z_5 st_5 hQ_5
  subst l_5 y_5 z_5
  obtain ⟨ba, kb, rfl, Nq_5, Kq_5, b1, b2, b3, b4⟩ := hQ_5
  have N_6 := Fr.app N0 Nq_5
  have pre_5 : Rch p.tables e below (s₁.setTop (entryFrame m #[(.ref a), (.ref ca)] 2)) (T_5.setTop (mkF m 9 #[.val (.ref a), .val (.ref ca)] [])) := fun tgt ktg => pre_4 tgt (st_5.trans ktg)
  have z_7 : n0 ≤ T_5.heap.size := Nat.le_trans Z0 Kq_5.1
  have K_8 : Keep h0 T_5.heap [a] := K0.trans Kq_5 (allS (P := fun x => x ∈ [a] ∨ h0.size ≤ x) (Or.inl (List.mem_of_getElem? (i := 0) rfl)) (all0 (P := fun x => x ∈ [a] ∨ h0.size ≤ x)))
  obtain ⟨fs, hr, hrun, hended, hW, hsame⟩ := X_5.leave (v := none) (fun _ => rfl)
  refine ⟨_, _, pre_5 _ ?_, hrun, hended, _, _, rfl, ?_, ⟨_, rfl⟩, hW, hsame.mono (by decide) (by decide)⟩
  · show Steps p.tables e below (T_5.setTop (mkF m 9 #[.val (.ref a), .val (.ref ca)] [])) _
    exact X_5.returnOut hx Bd.returns (hb hby d2_9) hr
  · show Qsc2 Z a ca q0 q1 kc h0 n0 _ T_5.heap _
    exact ⟨ba, kb, rfl, N_6, K_8, b1, b2, b3, b4⟩
theorem ef_co3 (m : MethodId) (x0 : Addr) (x1 : Int32) (x2 : Addr) (x3 : Int32) (x4 : Int32) : entryFrame m #[(.ref x0), (.int x1), (.ref x2), (.int x3), (.int x4)] 7 = mkF m 0 #[.val (.ref x0), .val (.int x1), .val (.ref x2), .val (.int x3), .val (.int x4), .unset, .unset] [] := by first | (simp [entryFrame, mkF, argsToLocals, Value.category]; done) | rfl
def Qco3 (Z : State) (ca : Addr) (ba : Addr) (q0 : Int32) (q1 : Int32) (q2 : Int32) (kc kb : ClassId) (h0 : Heap) (n0 : Nat) (v : Option Value) (h : Heap) (L : List Loc) : Prop := v = some (.int (3 : Int32)) ∧ Fr n0 L ∧ Keep h0 h [ba] ∧ Arv Z h ba kb .byte (3 : Int32) [(.int (q0.toInt8.toInt32)), (.int (q1.toInt8.toInt32)), (.int (q2.toInt8.toInt32))] (.int (0 : Int32))
set_option maxRecDepth 65536 in
set_option maxHeartbeats 40000000 in
theorem rmco3 (l : Launch) (Z : State) (a0 : Array Value) (hw : ∀ d ∈ tables_1, d.before a0 Z = true) (ws : List Jvm.Cond) (ca : Addr) (ba : Addr) (q0 : Int32) (q1 : Int32) (q2 : Int32) (kc kb : ClassId) (h0 : Heap) (n0 : Nat) (Z0 : n0 ≤ h0.size) (A1 : Arv Z h0 ca kc .char (3 : Int32) [(.int q0), (.int q1), (.int q2)] (.int (0 : Int32))) (A2 : Arv Z h0 ba kb .byte (3 : Int32) [(.int (0 : Int32)), (.int (0 : Int32)), (.int (0 : Int32))] (.int (0 : Int32))) (gb : n0 ≤ ba) (ncb : ca ≠ ba) (hq0 : ¬ (255 : Int32) < q0) (hq1 : ¬ (255 : Int32) < q1) (hq2 : ¬ (255 : Int32) < q2) :
    MetFree l (⟨"java/lang/StringUTF16", "compress", "([CI[BII)I"⟩ : MethodName) (head1 (Jvm.Cond.code (⟨"java/lang/StringUTF16", "compress", "([CI[BII)I"⟩ : MethodName) jdk_52_method_21_code 7 (some .int) :: ws) ({ frames := 0, cells := 0, slots := 0, locals := 0 } : Room)) (fun aA U => aA = #[(.ref ca), (.int (0 : Int32)), (.ref ba), (.int (0 : Int32)), (.int (3 : Int32))] ∧ Z.Warmed39 U.vm ∧ U.heap = h0) (fun _ _ _ _ _ => True) (fun _ U oO U' => ∃ vV LL, oO = .returned vV ∧ Qco3 Z ca ba q0 q1 q2 kc kb h0 n0 vV U'.heap LL ∧ FrameEnd U oO U' LL ({ frames := 0, cells := 0, slots := 0, locals := 0 } : Room).cells ({ frames := 0, cells := 0, slots := 0, locals := 0 } : Room).slots) := by
  refine MetFree.of_bodySF (plainFor_of_name pn_3) hisR ?_
  intro p e s m args below meth c s₁ Bd hml0 hP hK
  obtain ⟨rfl, hZ, hh⟩ := hP
  have hx := Bd.exec
  have hby := Bd.bytes
  have hml : c.maxLocals = 7 := hml0
  have hown : s.vm.findClass "java/lang/StringUTF16" = some m.cls := findClass_of_methodNamed Bd.named
  have hnm := (name_of_methodNamed Bd.named Bd.method).1
  have X0 : Stand p l e ({ frames := 0, cells := 0, slots := 0, locals := 0 } : Room) s m #[(.ref ca), (.int (0 : Int32)), (.ref ba), (.int (0 : Int32)), (.int (3 : Int32))] below meth c s₁ [] 0 0 := Stand.of_body Bd
  have e0 : s₁.heap = h0 := by rw [← hh, Bd.state]; rfl
  have N0 := Fr.nil n0
  have K0 : Keep h0 h0 [ba] := Keep.refl _ _
  have pre0 : Rch p.tables e below (s₁.setTop (entryFrame m #[(.ref ca), (.int (0 : Int32)), (.ref ba), (.int (0 : Int32)), (.int (3 : Int32))] 7)) (s₁.setTop (mkF m 0 #[.val (.ref ca), .val (.int (0 : Int32)), .val (.ref ba), .val (.int (0 : Int32)), .val (.int (3 : Int32)), .unset, .unset] [])) := fun tgt ktg => castTop (ef_co3 m ca (0 : Int32) ba (0 : Int32) (3 : Int32)) ktg
  have pre_1 : Rch p.tables e below (s₁.setTop (entryFrame m #[(.ref ca), (.int (0 : Int32)), (.ref ba), (.int (0 : Int32)), (.int (3 : Int32))] 7)) (s₁.setTop (mkF m 12 #[.val (.ref ca), .val (.int (0 : Int32)), .val (.ref ba), .val (.int (0 : Int32)), .val (.int (3 : Int32)), .val (.int (0 : Int32)), .unset] [(.int (0 : Int32)), (.ref ca)])) := fun tgt ktg => pre0 tgt (by
    show Steps p.tables e below (s₁.setTop (mkF m 0 #[.val (.ref ca), .val (.int (0 : Int32)), .val (.ref ba), .val (.int (0 : Int32)), .val (.int (3 : Int32)), .unset, .unset] [])) _
    refine XS.iconst X0.here hx rfl (hb hby d6_0) ?_
    show Steps p.tables e below (s₁.setTop (mkF m 1 #[.val (.ref ca), .val (.int (0 : Int32)), .val (.ref ba), .val (.int (0 : Int32)), .val (.int (3 : Int32)), .unset, .unset] [(.int (0 : Int32))])) _
    refine XS.istore X0.here hx rfl (hb hby d6_1) rfl (l' := #[.val (.ref ca), .val (.int (0 : Int32)), .val (.ref ba), .val (.int (0 : Int32)), .val (.int (3 : Int32)), .val (.int (0 : Int32)), .unset]) rfl ?_
    show Steps p.tables e below (s₁.setTop (mkF m 3 #[.val (.ref ca), .val (.int (0 : Int32)), .val (.ref ba), .val (.int (0 : Int32)), .val (.int (3 : Int32)), .val (.int (0 : Int32)), .unset] [])) _
    refine XS.iload X0.here hx rfl (hb hby d6_3) rfl ?_
    show Steps p.tables e below (s₁.setTop (mkF m 5 #[.val (.ref ca), .val (.int (0 : Int32)), .val (.ref ba), .val (.int (0 : Int32)), .val (.int (3 : Int32)), .val (.int (0 : Int32)), .unset] [(.int (0 : Int32))])) _
    refine XS.iload X0.here hx rfl (hb hby d6_5) rfl ?_
    show Steps p.tables e below (s₁.setTop (mkF m 7 #[.val (.ref ca), .val (.int (0 : Int32)), .val (.ref ba), .val (.int (0 : Int32)), .val (.int (3 : Int32)), .val (.int (0 : Int32)), .unset] [(.int (3 : Int32)), (.int (0 : Int32))])) _
    refine XS.icmpNo X0.here hx rfl (hb hby d6_7) rfl (tlt (by decide : (0 : Int32) < (3 : Int32))).2.1 ?_
    show Steps p.tables e below (s₁.setTop (mkF m 10 #[.val (.ref ca), .val (.int (0 : Int32)), .val (.ref ba), .val (.int (0 : Int32)), .val (.int (3 : Int32)), .val (.int (0 : Int32)), .unset] [])) _
    refine XS.aloadN X0.here hx rfl (hb hby d6_10) rfl rfl ?_
    show Steps p.tables e below (s₁.setTop (mkF m 11 #[.val (.ref ca), .val (.int (0 : Int32)), .val (.ref ba), .val (.int (0 : Int32)), .val (.int (3 : Int32)), .val (.int (0 : Int32)), .unset] [(.ref ca)])) _
    refine XS.iloadN X0.here hx rfl (hb hby d6_11) rfl ?_
    exact ktg)
  obtain ⟨cl__2, Ar__2, q__2, S__2, N__2, H__2, G__2⟩ := id A1
  have hin__2 : ¬ ((0 : Int32) < 0 ∨ cl__2.slots.size ≤ ((0 : Int32)).toNatClampNeg) := inb_of S__2 ⟨by decide, by decide⟩
  have hat__2 : cl__2.slots[((0 : Int32)).toNatClampNeg]? = some (.int q0) := H__2.at hin__2 rfl
  have pre_3 : Rch p.tables e below (s₁.setTop (entryFrame m #[(.ref ca), (.int (0 : Int32)), (.ref ba), (.int (0 : Int32)), (.int (3 : Int32))] 7)) (s₁.setTop (mkF m 13 #[.val (.ref ca), .val (.int (0 : Int32)), .val (.ref ba), .val (.int (0 : Int32)), .val (.int (3 : Int32)), .val (.int (0 : Int32)), .unset] [(.int q0)])) := fun tgt ktg => pre_1 tgt (X0.caload hx (j := (0 : Int32)) (v := (.int q0)) (by rw [e0]; exact Ar__2.1) (State.isArrayOf_alike hZ.alike Ar__2.2.1) Ar__2.2.2 hin__2 hat__2 (g := (mkF m 12 #[.val (.ref ca), .val (.int (0 : Int32)), .val (.ref ba), .val (.int (0 : Int32)), .val (.int (3 : Int32)), .val (.int (0 : Int32)), .unset] [(.int (0 : Int32)), (.ref ca)])) rfl rfl (hb hby d6_12) _ ktg)
  have pre_4 : Rch p.tables e below (s₁.setTop (entryFrame m #[(.ref ca), (.int (0 : Int32)), (.ref ba), (.int (0 : Int32)), (.int (3 : Int32))] 7)) (s₁.setTop (mkF m 31 #[.val (.ref ca), .val (.int (0 : Int32)), .val (.ref ba), .val (.int (0 : Int32)), .val (.int (3 : Int32)), .val (.int (0 : Int32)), .val (.int q0)] [(.int (q0.toInt8.toInt32)), (.int (0 : Int32)), (.ref ba)])) := fun tgt ktg => pre_3 tgt (by
    show Steps p.tables e below (s₁.setTop (mkF m 13 #[.val (.ref ca), .val (.int (0 : Int32)), .val (.ref ba), .val (.int (0 : Int32)), .val (.int (3 : Int32)), .val (.int (0 : Int32)), .unset] [(.int q0)])) _
    refine XS.istore X0.here hx rfl (hb hby d6_13) rfl (l' := #[.val (.ref ca), .val (.int (0 : Int32)), .val (.ref ba), .val (.int (0 : Int32)), .val (.int (3 : Int32)), .val (.int (0 : Int32)), .val (.int q0)]) rfl ?_
    show Steps p.tables e below (s₁.setTop (mkF m 15 #[.val (.ref ca), .val (.int (0 : Int32)), .val (.ref ba), .val (.int (0 : Int32)), .val (.int (3 : Int32)), .val (.int (0 : Int32)), .val (.int q0)] [])) _
    refine XS.iload X0.here hx rfl (hb hby d6_15) rfl ?_
    show Steps p.tables e below (s₁.setTop (mkF m 17 #[.val (.ref ca), .val (.int (0 : Int32)), .val (.ref ba), .val (.int (0 : Int32)), .val (.int (3 : Int32)), .val (.int (0 : Int32)), .val (.int q0)] [(.int q0)])) _
    refine XS.sipush X0.here hx rfl (hb hby d6_17) ?_
    show Steps p.tables e below (s₁.setTop (mkF m 20 #[.val (.ref ca), .val (.int (0 : Int32)), .val (.ref ba), .val (.int (0 : Int32)), .val (.int (3 : Int32)), .val (.int (0 : Int32)), .val (.int q0)] [(.int (255 : Int32)), (.int q0)])) _
    refine XS.icmpYes X0.here hx rfl (pc0 := 20) (pc' := 26) rfl (hb hby d6_20) rfl (flt hq0).2.2.2 (by decide) (by decide) ?_
    show Steps p.tables e below (s₁.setTop (mkF m 26 #[.val (.ref ca), .val (.int (0 : Int32)), .val (.ref ba), .val (.int (0 : Int32)), .val (.int (3 : Int32)), .val (.int (0 : Int32)), .val (.int q0)] [])) _
    refine XS.aloadN X0.here hx rfl (hb hby d6_26) rfl rfl ?_
    show Steps p.tables e below (s₁.setTop (mkF m 27 #[.val (.ref ca), .val (.int (0 : Int32)), .val (.ref ba), .val (.int (0 : Int32)), .val (.int (3 : Int32)), .val (.int (0 : Int32)), .val (.int q0)] [(.ref ba)])) _
    refine XS.iloadN X0.here hx rfl (hb hby d6_27) rfl ?_
    show Steps p.tables e below (s₁.setTop (mkF m 28 #[.val (.ref ca), .val (.int (0 : Int32)), .val (.ref ba), .val (.int (0 : Int32)), .val (.int (3 : Int32)), .val (.int (0 : Int32)), .val (.int q0)] [(.int (0 : Int32)), (.ref ba)])) _
    refine XS.iload X0.here hx rfl (hb hby d6_28) rfl ?_
    show Steps p.tables e below (s₁.setTop (mkF m 30 #[.val (.ref ca), .val (.int (0 : Int32)), .val (.ref ba), .val (.int (0 : Int32)), .val (.int (3 : Int32)), .val (.int (0 : Int32)), .val (.int q0)] [(.int q0), (.int (0 : Int32)), (.ref ba)])) _
    refine XT.i2b X0.here hx rfl (hb hby d6_30) rfl ?_
    exact ktg)
  obtain ⟨cl__5, Ar__5, q__5, S__5, N__5, H__5, G__5⟩ := id A2
  have hin__5 : ¬ ((0 : Int32) < 0 ∨ cl__5.slots.size ≤ ((0 : Int32)).toNatClampNeg) := inb_of S__5 ⟨by decide, by decide⟩
  obtain ⟨T_6, h_6, X_6, e_6, W_6, st_6⟩ := stB X0 hx hZ e0 Ar__5 (j := (0 : Int32)) hin__5 (g := (mkF m 31 #[.val (.ref ca), .val (.int (0 : Int32)), .val (.ref ba), .val (.int (0 : Int32)), .val (.int (3 : Int32)), .val (.int (0 : Int32)), .val (.int q0)] [(.int (q0.toInt8.toInt32)), (.int (0 : Int32)), (.ref ba)])) rfl rfl (hb hby d6_31)
  have pre_6 : Rch p.tables e below (s₁.setTop (entryFrame m #[(.ref ca), (.int (0 : Int32)), (.ref ba), (.int (0 : Int32)), (.int (3 : Int32))] 7)) (T_6.setTop (mkF m 32 #[.val (.ref ca), .val (.int (0 : Int32)), .val (.ref ba), .val (.int (0 : Int32)), .val (.int (3 : Int32)), .val (.int (0 : Int32)), .val (.int q0)] [])) := fun tgt ktg => pre_4 tgt (st_6 tgt ktg)
  have f_7 : Arv Z h_6 ca kc .char (3 : Int32) [(.int q0), (.int q1), (.int q2)] (.int (0 : Int32)) := A1.other W_6 ncb
  have z_8 : n0 ≤ h_6.size := Nat.le_trans Z0 (Keep.of_wr W_6).1
  have K_9 : Keep h0 h_6 [ba] := K0.wr W_6 (Or.inl (List.mem_of_getElem? (i := 0) rfl))
  have f_10 : Arv Z h_6 ba kb .byte (3 : Int32) [(.int (nar .byte (q0.toInt8.toInt32))), (.int (0 : Int32)), (.int (0 : Int32))] (.int (0 : Int32)) := Arv.set Ar__5 q__5 S__5 N__5 H__5 G__5 (fits_nar_byte _) W_6 0 rfl (Nat.le_of_ble_eq_true rfl)
  have N_11 := Fr.snoc X_6 N0 gb
  rw [own_idem] at f_10
  have pre_12 : Rch p.tables e below (s₁.setTop (entryFrame m #[(.ref ca), (.int (0 : Int32)), (.ref ba), (.int (0 : Int32)), (.int (3 : Int32))] 7)) (T_6.setTop (mkF m 3 #[.val (.ref ca), .val (.int (1 : Int32)), .val (.ref ba), .val (.int (1 : Int32)), .val (.int (3 : Int32)), .val (.int (1 : Int32)), .val (.int q0)] [])) := fun tgt ktg => pre_6 tgt (by
    show Steps p.tables e below (T_6.setTop (mkF m 32 #[.val (.ref ca), .val (.int (0 : Int32)), .val (.ref ba), .val (.int (0 : Int32)), .val (.int (3 : Int32)), .val (.int (0 : Int32)), .val (.int q0)] [])) _
    refine XS.iinc X_6.here hx rfl (hb hby d6_32) rfl (l' := #[.val (.ref ca), .val (.int (1 : Int32)), .val (.ref ba), .val (.int (0 : Int32)), .val (.int (3 : Int32)), .val (.int (0 : Int32)), .val (.int q0)]) rfl ?_
    show Steps p.tables e below (T_6.setTop (mkF m 35 #[.val (.ref ca), .val (.int (1 : Int32)), .val (.ref ba), .val (.int (0 : Int32)), .val (.int (3 : Int32)), .val (.int (0 : Int32)), .val (.int q0)] [])) _
    refine XS.iinc X_6.here hx rfl (hb hby d6_35) rfl (l' := #[.val (.ref ca), .val (.int (1 : Int32)), .val (.ref ba), .val (.int (1 : Int32)), .val (.int (3 : Int32)), .val (.int (0 : Int32)), .val (.int q0)]) rfl ?_
    show Steps p.tables e below (T_6.setTop (mkF m 38 #[.val (.ref ca), .val (.int (1 : Int32)), .val (.ref ba), .val (.int (1 : Int32)), .val (.int (3 : Int32)), .val (.int (0 : Int32)), .val (.int q0)] [])) _
    refine XS.iinc X_6.here hx rfl (hb hby d6_38) rfl (l' := #[.val (.ref ca), .val (.int (1 : Int32)), .val (.ref ba), .val (.int (1 : Int32)), .val (.int (3 : Int32)), .val (.int (1 : Int32)), .val (.int q0)]) rfl ?_
    show Steps p.tables e below (T_6.setTop (mkF m 41 #[.val (.ref ca), .val (.int (1 : Int32)), .val (.ref ba), .val (.int (1 : Int32)), .val (.int (3 : Int32)), .val (.int (1 : Int32)), .val (.int q0)] [])) _
    refine XS.goto X_6.here hx rfl (pc0 := 41) (pc' := 3) rfl (hb hby d6_41) (by decide) (by decide) ?_
    exact ktg)
  have pre_13 : Rch p.tables e below (s₁.setTop (entryFrame m #[(.ref ca), (.int (0 : Int32)), (.ref ba), (.int (0 : Int32)), (.int (3 : Int32))] 7)) (T_6.setTop (mkF m 12 #[.val (.ref ca), .val (.int (1 : Int32)), .val (.ref ba), .val (.int (1 : Int32)), .val (.int (3 : Int32)), .val (.int (1 : Int32)), .val (.int q0)] [(.int (1 : Int32)), (.ref ca)])) := fun tgt ktg => pre_12 tgt (by
    show Steps p.tables e below (T_6.setTop (mkF m 3 #[.val (.ref ca), .val (.int (1 : Int32)), .val (.ref ba), .val (.int (1 : Int32)), .val (.int (3 : Int32)), .val (.int (1 : Int32)), .val (.int q0)] [])) _
    refine XS.iload X_6.here hx rfl (hb hby d6_3) rfl ?_
    show Steps p.tables e below (T_6.setTop (mkF m 5 #[.val (.ref ca), .val (.int (1 : Int32)), .val (.ref ba), .val (.int (1 : Int32)), .val (.int (3 : Int32)), .val (.int (1 : Int32)), .val (.int q0)] [(.int (1 : Int32))])) _
    refine XS.iload X_6.here hx rfl (hb hby d6_5) rfl ?_
    show Steps p.tables e below (T_6.setTop (mkF m 7 #[.val (.ref ca), .val (.int (1 : Int32)), .val (.ref ba), .val (.int (1 : Int32)), .val (.int (3 : Int32)), .val (.int (1 : Int32)), .val (.int q0)] [(.int (3 : Int32)), (.int (1 : Int32))])) _
    refine XS.icmpNo X_6.here hx rfl (hb hby d6_7) rfl (tlt (by decide : (1 : Int32) < (3 : Int32))).2.1 ?_
    show Steps p.tables e below (T_6.setTop (mkF m 10 #[.val (.ref ca), .val (.int (1 : Int32)), .val (.ref ba), .val (.int (1 : Int32)), .val (.int (3 : Int32)), .val (.int (1 : Int32)), .val (.int q0)] [])) _
    refine XS.aloadN X_6.here hx rfl (hb hby d6_10) rfl rfl ?_
    show Steps p.tables e below (T_6.setTop (mkF m 11 #[.val (.ref ca), .val (.int (1 : Int32)), .val (.ref ba), .val (.int (1 : Int32)), .val (.int (3 : Int32)), .val (.int (1 : Int32)), .val (.int q0)] [(.ref ca)])) _
    refine XS.iloadN X_6.here hx rfl (hb hby d6_11) rfl ?_
    exact ktg)
  obtain ⟨cl__14, Ar__14, q__14, S__14, N__14, H__14, G__14⟩ := id f_7
  have hin__14 : ¬ ((1 : Int32) < 0 ∨ cl__14.slots.size ≤ ((1 : Int32)).toNatClampNeg) := inb_of S__14 ⟨by decide, by decide⟩
  have hat__14 : cl__14.slots[((1 : Int32)).toNatClampNeg]? = some (.int q1) := H__14.at hin__14 rfl
  have pre_15 : Rch p.tables e below (s₁.setTop (entryFrame m #[(.ref ca), (.int (0 : Int32)), (.ref ba), (.int (0 : Int32)), (.int (3 : Int32))] 7)) (T_6.setTop (mkF m 13 #[.val (.ref ca), .val (.int (1 : Int32)), .val (.ref ba), .val (.int (1 : Int32)), .val (.int (3 : Int32)), .val (.int (1 : Int32)), .val (.int q0)] [(.int q1)])) := fun tgt ktg => pre_13 tgt (X_6.caload hx (j := (1 : Int32)) (v := (.int q1)) (by rw [e_6]; exact Ar__14.1) (State.isArrayOf_alike hZ.alike Ar__14.2.1) Ar__14.2.2 hin__14 hat__14 (g := (mkF m 12 #[.val (.ref ca), .val (.int (1 : Int32)), .val (.ref ba), .val (.int (1 : Int32)), .val (.int (3 : Int32)), .val (.int (1 : Int32)), .val (.int q0)] [(.int (1 : Int32)), (.ref ca)])) rfl rfl (hb hby d6_12) _ ktg)
  have pre_16 : Rch p.tables e below (s₁.setTop (entryFrame m #[(.ref ca), (.int (0 : Int32)), (.ref ba), (.int (0 : Int32)), (.int (3 : Int32))] 7)) (T_6.setTop (mkF m 31 #[.val (.ref ca), .val (.int (1 : Int32)), .val (.ref ba), .val (.int (1 : Int32)), .val (.int (3 : Int32)), .val (.int (1 : Int32)), .val (.int q1)] [(.int (q1.toInt8.toInt32)), (.int (1 : Int32)), (.ref ba)])) := fun tgt ktg => pre_15 tgt (by
    show Steps p.tables e below (T_6.setTop (mkF m 13 #[.val (.ref ca), .val (.int (1 : Int32)), .val (.ref ba), .val (.int (1 : Int32)), .val (.int (3 : Int32)), .val (.int (1 : Int32)), .val (.int q0)] [(.int q1)])) _
    refine XS.istore X_6.here hx rfl (hb hby d6_13) rfl (l' := #[.val (.ref ca), .val (.int (1 : Int32)), .val (.ref ba), .val (.int (1 : Int32)), .val (.int (3 : Int32)), .val (.int (1 : Int32)), .val (.int q1)]) rfl ?_
    show Steps p.tables e below (T_6.setTop (mkF m 15 #[.val (.ref ca), .val (.int (1 : Int32)), .val (.ref ba), .val (.int (1 : Int32)), .val (.int (3 : Int32)), .val (.int (1 : Int32)), .val (.int q1)] [])) _
    refine XS.iload X_6.here hx rfl (hb hby d6_15) rfl ?_
    show Steps p.tables e below (T_6.setTop (mkF m 17 #[.val (.ref ca), .val (.int (1 : Int32)), .val (.ref ba), .val (.int (1 : Int32)), .val (.int (3 : Int32)), .val (.int (1 : Int32)), .val (.int q1)] [(.int q1)])) _
    refine XS.sipush X_6.here hx rfl (hb hby d6_17) ?_
    show Steps p.tables e below (T_6.setTop (mkF m 20 #[.val (.ref ca), .val (.int (1 : Int32)), .val (.ref ba), .val (.int (1 : Int32)), .val (.int (3 : Int32)), .val (.int (1 : Int32)), .val (.int q1)] [(.int (255 : Int32)), (.int q1)])) _
    refine XS.icmpYes X_6.here hx rfl (pc0 := 20) (pc' := 26) rfl (hb hby d6_20) rfl (flt hq1).2.2.2 (by decide) (by decide) ?_
    show Steps p.tables e below (T_6.setTop (mkF m 26 #[.val (.ref ca), .val (.int (1 : Int32)), .val (.ref ba), .val (.int (1 : Int32)), .val (.int (3 : Int32)), .val (.int (1 : Int32)), .val (.int q1)] [])) _
    refine XS.aloadN X_6.here hx rfl (hb hby d6_26) rfl rfl ?_
    show Steps p.tables e below (T_6.setTop (mkF m 27 #[.val (.ref ca), .val (.int (1 : Int32)), .val (.ref ba), .val (.int (1 : Int32)), .val (.int (3 : Int32)), .val (.int (1 : Int32)), .val (.int q1)] [(.ref ba)])) _
    refine XS.iloadN X_6.here hx rfl (hb hby d6_27) rfl ?_
    show Steps p.tables e below (T_6.setTop (mkF m 28 #[.val (.ref ca), .val (.int (1 : Int32)), .val (.ref ba), .val (.int (1 : Int32)), .val (.int (3 : Int32)), .val (.int (1 : Int32)), .val (.int q1)] [(.int (1 : Int32)), (.ref ba)])) _
    refine XS.iload X_6.here hx rfl (hb hby d6_28) rfl ?_
    show Steps p.tables e below (T_6.setTop (mkF m 30 #[.val (.ref ca), .val (.int (1 : Int32)), .val (.ref ba), .val (.int (1 : Int32)), .val (.int (3 : Int32)), .val (.int (1 : Int32)), .val (.int q1)] [(.int q1), (.int (1 : Int32)), (.ref ba)])) _
    refine XT.i2b X_6.here hx rfl (hb hby d6_30) rfl ?_
    exact ktg)
  obtain ⟨cl__17, Ar__17, q__17, S__17, N__17, H__17, G__17⟩ := id f_10
  have hin__17 : ¬ ((1 : Int32) < 0 ∨ cl__17.slots.size ≤ ((1 : Int32)).toNatClampNeg) := inb_of S__17 ⟨by decide, by decide⟩
  obtain ⟨T_18, h_18, X_18, e_18, W_18, st_18⟩ := stB X_6 hx hZ e_6 Ar__17 (j := (1 : Int32)) hin__17 (g := (mkF m 31 #[.val (.ref ca), .val (.int (1 : Int32)), .val (.ref ba), .val (.int (1 : Int32)), .val (.int (3 : Int32)), .val (.int (1 : Int32)), .val (.int q1)] [(.int (q1.toInt8.toInt32)), (.int (1 : Int32)), (.ref ba)])) rfl rfl (hb hby d6_31)
  have pre_18 : Rch p.tables e below (s₁.setTop (entryFrame m #[(.ref ca), (.int (0 : Int32)), (.ref ba), (.int (0 : Int32)), (.int (3 : Int32))] 7)) (T_18.setTop (mkF m 32 #[.val (.ref ca), .val (.int (1 : Int32)), .val (.ref ba), .val (.int (1 : Int32)), .val (.int (3 : Int32)), .val (.int (1 : Int32)), .val (.int q1)] [])) := fun tgt ktg => pre_16 tgt (st_18 tgt ktg)
  have f_19 : Arv Z h_18 ca kc .char (3 : Int32) [(.int q0), (.int q1), (.int q2)] (.int (0 : Int32)) := f_7.other W_18 ncb
  have z_20 : n0 ≤ h_18.size := Nat.le_trans z_8 (Keep.of_wr W_18).1
  have K_21 : Keep h0 h_18 [ba] := K_9.wr W_18 (Or.inl (List.mem_of_getElem? (i := 0) rfl))
  have f_22 : Arv Z h_18 ba kb .byte (3 : Int32) [(.int (q0.toInt8.toInt32)), (.int (nar .byte (q1.toInt8.toInt32))), (.int (0 : Int32))] (.int (0 : Int32)) := Arv.set Ar__17 q__17 S__17 N__17 H__17 G__17 (fits_nar_byte _) W_18 1 rfl (Nat.le_of_ble_eq_true rfl)
  have N_23 := Fr.snoc X_18 N_11 gb
  rw [own_idem] at f_22
  have pre_24 : Rch p.tables e below (s₁.setTop (entryFrame m #[(.ref ca), (.int (0 : Int32)), (.ref ba), (.int (0 : Int32)), (.int (3 : Int32))] 7)) (T_18.setTop (mkF m 3 #[.val (.ref ca), .val (.int (2 : Int32)), .val (.ref ba), .val (.int (2 : Int32)), .val (.int (3 : Int32)), .val (.int (2 : Int32)), .val (.int q1)] [])) := fun tgt ktg => pre_18 tgt (by
    show Steps p.tables e below (T_18.setTop (mkF m 32 #[.val (.ref ca), .val (.int (1 : Int32)), .val (.ref ba), .val (.int (1 : Int32)), .val (.int (3 : Int32)), .val (.int (1 : Int32)), .val (.int q1)] [])) _
    refine XS.iinc X_18.here hx rfl (hb hby d6_32) rfl (l' := #[.val (.ref ca), .val (.int (2 : Int32)), .val (.ref ba), .val (.int (1 : Int32)), .val (.int (3 : Int32)), .val (.int (1 : Int32)), .val (.int q1)]) rfl ?_
    show Steps p.tables e below (T_18.setTop (mkF m 35 #[.val (.ref ca), .val (.int (2 : Int32)), .val (.ref ba), .val (.int (1 : Int32)), .val (.int (3 : Int32)), .val (.int (1 : Int32)), .val (.int q1)] [])) _
    refine XS.iinc X_18.here hx rfl (hb hby d6_35) rfl (l' := #[.val (.ref ca), .val (.int (2 : Int32)), .val (.ref ba), .val (.int (2 : Int32)), .val (.int (3 : Int32)), .val (.int (1 : Int32)), .val (.int q1)]) rfl ?_
    show Steps p.tables e below (T_18.setTop (mkF m 38 #[.val (.ref ca), .val (.int (2 : Int32)), .val (.ref ba), .val (.int (2 : Int32)), .val (.int (3 : Int32)), .val (.int (1 : Int32)), .val (.int q1)] [])) _
    refine XS.iinc X_18.here hx rfl (hb hby d6_38) rfl (l' := #[.val (.ref ca), .val (.int (2 : Int32)), .val (.ref ba), .val (.int (2 : Int32)), .val (.int (3 : Int32)), .val (.int (2 : Int32)), .val (.int q1)]) rfl ?_
    show Steps p.tables e below (T_18.setTop (mkF m 41 #[.val (.ref ca), .val (.int (2 : Int32)), .val (.ref ba), .val (.int (2 : Int32)), .val (.int (3 : Int32)), .val (.int (2 : Int32)), .val (.int q1)] [])) _
    refine XS.goto X_18.here hx rfl (pc0 := 41) (pc' := 3) rfl (hb hby d6_41) (by decide) (by decide) ?_
    exact ktg)
  have pre_25 : Rch p.tables e below (s₁.setTop (entryFrame m #[(.ref ca), (.int (0 : Int32)), (.ref ba), (.int (0 : Int32)), (.int (3 : Int32))] 7)) (T_18.setTop (mkF m 12 #[.val (.ref ca), .val (.int (2 : Int32)), .val (.ref ba), .val (.int (2 : Int32)), .val (.int (3 : Int32)), .val (.int (2 : Int32)), .val (.int q1)] [(.int (2 : Int32)), (.ref ca)])) := fun tgt ktg => pre_24 tgt (by
    show Steps p.tables e below (T_18.setTop (mkF m 3 #[.val (.ref ca), .val (.int (2 : Int32)), .val (.ref ba), .val (.int (2 : Int32)), .val (.int (3 : Int32)), .val (.int (2 : Int32)), .val (.int q1)] [])) _
    refine XS.iload X_18.here hx rfl (hb hby d6_3) rfl ?_
    show Steps p.tables e below (T_18.setTop (mkF m 5 #[.val (.ref ca), .val (.int (2 : Int32)), .val (.ref ba), .val (.int (2 : Int32)), .val (.int (3 : Int32)), .val (.int (2 : Int32)), .val (.int q1)] [(.int (2 : Int32))])) _
    refine XS.iload X_18.here hx rfl (hb hby d6_5) rfl ?_
    show Steps p.tables e below (T_18.setTop (mkF m 7 #[.val (.ref ca), .val (.int (2 : Int32)), .val (.ref ba), .val (.int (2 : Int32)), .val (.int (3 : Int32)), .val (.int (2 : Int32)), .val (.int q1)] [(.int (3 : Int32)), (.int (2 : Int32))])) _
    refine XS.icmpNo X_18.here hx rfl (hb hby d6_7) rfl (tlt (by decide : (2 : Int32) < (3 : Int32))).2.1 ?_
    show Steps p.tables e below (T_18.setTop (mkF m 10 #[.val (.ref ca), .val (.int (2 : Int32)), .val (.ref ba), .val (.int (2 : Int32)), .val (.int (3 : Int32)), .val (.int (2 : Int32)), .val (.int q1)] [])) _
    refine XS.aloadN X_18.here hx rfl (hb hby d6_10) rfl rfl ?_
    show Steps p.tables e below (T_18.setTop (mkF m 11 #[.val (.ref ca), .val (.int (2 : Int32)), .val (.ref ba), .val (.int (2 : Int32)), .val (.int (3 : Int32)), .val (.int (2 : Int32)), .val (.int q1)] [(.ref ca)])) _
    refine XS.iloadN X_18.here hx rfl (hb hby d6_11) rfl ?_
    exact ktg)
  obtain ⟨cl__26, Ar__26, q__26, S__26, N__26, H__26, G__26⟩ := id f_19
  have hin__26 : ¬ ((2 : Int32) < 0 ∨ cl__26.slots.size ≤ ((2 : Int32)).toNatClampNeg) := inb_of S__26 ⟨by decide, by decide⟩
  have hat__26 : cl__26.slots[((2 : Int32)).toNatClampNeg]? = some (.int q2) := H__26.at hin__26 rfl
  have pre_27 : Rch p.tables e below (s₁.setTop (entryFrame m #[(.ref ca), (.int (0 : Int32)), (.ref ba), (.int (0 : Int32)), (.int (3 : Int32))] 7)) (T_18.setTop (mkF m 13 #[.val (.ref ca), .val (.int (2 : Int32)), .val (.ref ba), .val (.int (2 : Int32)), .val (.int (3 : Int32)), .val (.int (2 : Int32)), .val (.int q1)] [(.int q2)])) := fun tgt ktg => pre_25 tgt (X_18.caload hx (j := (2 : Int32)) (v := (.int q2)) (by rw [e_18]; exact Ar__26.1) (State.isArrayOf_alike hZ.alike Ar__26.2.1) Ar__26.2.2 hin__26 hat__26 (g := (mkF m 12 #[.val (.ref ca), .val (.int (2 : Int32)), .val (.ref ba), .val (.int (2 : Int32)), .val (.int (3 : Int32)), .val (.int (2 : Int32)), .val (.int q1)] [(.int (2 : Int32)), (.ref ca)])) rfl rfl (hb hby d6_12) _ ktg)
  have pre_28 : Rch p.tables e below (s₁.setTop (entryFrame m #[(.ref ca), (.int (0 : Int32)), (.ref ba), (.int (0 : Int32)), (.int (3 : Int32))] 7)) (T_18.setTop (mkF m 31 #[.val (.ref ca), .val (.int (2 : Int32)), .val (.ref ba), .val (.int (2 : Int32)), .val (.int (3 : Int32)), .val (.int (2 : Int32)), .val (.int q2)] [(.int (q2.toInt8.toInt32)), (.int (2 : Int32)), (.ref ba)])) := fun tgt ktg => pre_27 tgt (by
    show Steps p.tables e below (T_18.setTop (mkF m 13 #[.val (.ref ca), .val (.int (2 : Int32)), .val (.ref ba), .val (.int (2 : Int32)), .val (.int (3 : Int32)), .val (.int (2 : Int32)), .val (.int q1)] [(.int q2)])) _
    refine XS.istore X_18.here hx rfl (hb hby d6_13) rfl (l' := #[.val (.ref ca), .val (.int (2 : Int32)), .val (.ref ba), .val (.int (2 : Int32)), .val (.int (3 : Int32)), .val (.int (2 : Int32)), .val (.int q2)]) rfl ?_
    show Steps p.tables e below (T_18.setTop (mkF m 15 #[.val (.ref ca), .val (.int (2 : Int32)), .val (.ref ba), .val (.int (2 : Int32)), .val (.int (3 : Int32)), .val (.int (2 : Int32)), .val (.int q2)] [])) _
    refine XS.iload X_18.here hx rfl (hb hby d6_15) rfl ?_
    show Steps p.tables e below (T_18.setTop (mkF m 17 #[.val (.ref ca), .val (.int (2 : Int32)), .val (.ref ba), .val (.int (2 : Int32)), .val (.int (3 : Int32)), .val (.int (2 : Int32)), .val (.int q2)] [(.int q2)])) _
    refine XS.sipush X_18.here hx rfl (hb hby d6_17) ?_
    show Steps p.tables e below (T_18.setTop (mkF m 20 #[.val (.ref ca), .val (.int (2 : Int32)), .val (.ref ba), .val (.int (2 : Int32)), .val (.int (3 : Int32)), .val (.int (2 : Int32)), .val (.int q2)] [(.int (255 : Int32)), (.int q2)])) _
    refine XS.icmpYes X_18.here hx rfl (pc0 := 20) (pc' := 26) rfl (hb hby d6_20) rfl (flt hq2).2.2.2 (by decide) (by decide) ?_
    show Steps p.tables e below (T_18.setTop (mkF m 26 #[.val (.ref ca), .val (.int (2 : Int32)), .val (.ref ba), .val (.int (2 : Int32)), .val (.int (3 : Int32)), .val (.int (2 : Int32)), .val (.int q2)] [])) _
    refine XS.aloadN X_18.here hx rfl (hb hby d6_26) rfl rfl ?_
    show Steps p.tables e below (T_18.setTop (mkF m 27 #[.val (.ref ca), .val (.int (2 : Int32)), .val (.ref ba), .val (.int (2 : Int32)), .val (.int (3 : Int32)), .val (.int (2 : Int32)), .val (.int q2)] [(.ref ba)])) _
    refine XS.iloadN X_18.here hx rfl (hb hby d6_27) rfl ?_
    show Steps p.tables e below (T_18.setTop (mkF m 28 #[.val (.ref ca), .val (.int (2 : Int32)), .val (.ref ba), .val (.int (2 : Int32)), .val (.int (3 : Int32)), .val (.int (2 : Int32)), .val (.int q2)] [(.int (2 : Int32)), (.ref ba)])) _
    refine XS.iload X_18.here hx rfl (hb hby d6_28) rfl ?_
    show Steps p.tables e below (T_18.setTop (mkF m 30 #[.val (.ref ca), .val (.int (2 : Int32)), .val (.ref ba), .val (.int (2 : Int32)), .val (.int (3 : Int32)), .val (.int (2 : Int32)), .val (.int q2)] [(.int q2), (.int (2 : Int32)), (.ref ba)])) _
    refine XT.i2b X_18.here hx rfl (hb hby d6_30) rfl ?_
    exact ktg)
  obtain ⟨cl__29, Ar__29, q__29, S__29, N__29, H__29, G__29⟩ := id f_22
  have hin__29 : ¬ ((2 : Int32) < 0 ∨ cl__29.slots.size ≤ ((2 : Int32)).toNatClampNeg) := inb_of S__29 ⟨by decide, by decide⟩
  obtain ⟨T_30, h_30, X_30, e_30, W_30, st_30⟩ := stB X_18 hx hZ e_18 Ar__29 (j := (2 : Int32)) hin__29 (g := (mkF m 31 #[.val (.ref ca), .val (.int (2 : Int32)), .val (.ref ba), .val (.int (2 : Int32)), .val (.int (3 : Int32)), .val (.int (2 : Int32)), .val (.int q2)] [(.int (q2.toInt8.toInt32)), (.int (2 : Int32)), (.ref ba)])) rfl rfl (hb hby d6_31)
  have pre_30 : Rch p.tables e below (s₁.setTop (entryFrame m #[(.ref ca), (.int (0 : Int32)), (.ref ba), (.int (0 : Int32)), (.int (3 : Int32))] 7)) (T_30.setTop (mkF m 32 #[.val (.ref ca), .val (.int (2 : Int32)), .val (.ref ba), .val (.int (2 : Int32)), .val (.int (3 : Int32)), .val (.int (2 : Int32)), .val (.int q2)] [])) := fun tgt ktg => pre_28 tgt (st_30 tgt ktg)
  have f_31 : Arv Z h_30 ca kc .char (3 : Int32) [(.int q0), (.int q1), (.int q2)] (.int (0 : Int32)) := f_19.other W_30 ncb
  have z_32 : n0 ≤ h_30.size := Nat.le_trans z_20 (Keep.of_wr W_30).1
  have K_33 : Keep h0 h_30 [ba] := K_21.wr W_30 (Or.inl (List.mem_of_getElem? (i := 0) rfl))
  have f_34 : Arv Z h_30 ba kb .byte (3 : Int32) [(.int (q0.toInt8.toInt32)), (.int (q1.toInt8.toInt32)), (.int (nar .byte (q2.toInt8.toInt32)))] (.int (0 : Int32)) := Arv.set Ar__29 q__29 S__29 N__29 H__29 G__29 (fits_nar_byte _) W_30 2 rfl (Nat.le_of_ble_eq_true rfl)
  have N_35 := Fr.snoc X_30 N_23 gb
  rw [own_idem] at f_34
  have pre_36 : Rch p.tables e below (s₁.setTop (entryFrame m #[(.ref ca), (.int (0 : Int32)), (.ref ba), (.int (0 : Int32)), (.int (3 : Int32))] 7)) (T_30.setTop (mkF m 46 #[.val (.ref ca), .val (.int (3 : Int32)), .val (.ref ba), .val (.int (3 : Int32)), .val (.int (3 : Int32)), .val (.int (3 : Int32)), .val (.int q2)] [(.int (3 : Int32))])) := fun tgt ktg => pre_30 tgt (by
    show Steps p.tables e below (T_30.setTop (mkF m 32 #[.val (.ref ca), .val (.int (2 : Int32)), .val (.ref ba), .val (.int (2 : Int32)), .val (.int (3 : Int32)), .val (.int (2 : Int32)), .val (.int q2)] [])) _
    refine XS.iinc X_30.here hx rfl (hb hby d6_32) rfl (l' := #[.val (.ref ca), .val (.int (3 : Int32)), .val (.ref ba), .val (.int (2 : Int32)), .val (.int (3 : Int32)), .val (.int (2 : Int32)), .val (.int q2)]) rfl ?_
    show Steps p.tables e below (T_30.setTop (mkF m 35 #[.val (.ref ca), .val (.int (3 : Int32)), .val (.ref ba), .val (.int (2 : Int32)), .val (.int (3 : Int32)), .val (.int (2 : Int32)), .val (.int q2)] [])) _
    refine XS.iinc X_30.here hx rfl (hb hby d6_35) rfl (l' := #[.val (.ref ca), .val (.int (3 : Int32)), .val (.ref ba), .val (.int (3 : Int32)), .val (.int (3 : Int32)), .val (.int (2 : Int32)), .val (.int q2)]) rfl ?_
    show Steps p.tables e below (T_30.setTop (mkF m 38 #[.val (.ref ca), .val (.int (3 : Int32)), .val (.ref ba), .val (.int (3 : Int32)), .val (.int (3 : Int32)), .val (.int (2 : Int32)), .val (.int q2)] [])) _
    refine XS.iinc X_30.here hx rfl (hb hby d6_38) rfl (l' := #[.val (.ref ca), .val (.int (3 : Int32)), .val (.ref ba), .val (.int (3 : Int32)), .val (.int (3 : Int32)), .val (.int (3 : Int32)), .val (.int q2)]) rfl ?_
    show Steps p.tables e below (T_30.setTop (mkF m 41 #[.val (.ref ca), .val (.int (3 : Int32)), .val (.ref ba), .val (.int (3 : Int32)), .val (.int (3 : Int32)), .val (.int (3 : Int32)), .val (.int q2)] [])) _
    refine XS.goto X_30.here hx rfl (pc0 := 41) (pc' := 3) rfl (hb hby d6_41) (by decide) (by decide) ?_
    show Steps p.tables e below (T_30.setTop (mkF m 3 #[.val (.ref ca), .val (.int (3 : Int32)), .val (.ref ba), .val (.int (3 : Int32)), .val (.int (3 : Int32)), .val (.int (3 : Int32)), .val (.int q2)] [])) _
    refine XS.iload X_30.here hx rfl (hb hby d6_3) rfl ?_
    show Steps p.tables e below (T_30.setTop (mkF m 5 #[.val (.ref ca), .val (.int (3 : Int32)), .val (.ref ba), .val (.int (3 : Int32)), .val (.int (3 : Int32)), .val (.int (3 : Int32)), .val (.int q2)] [(.int (3 : Int32))])) _
    refine XS.iload X_30.here hx rfl (hb hby d6_5) rfl ?_
    show Steps p.tables e below (T_30.setTop (mkF m 7 #[.val (.ref ca), .val (.int (3 : Int32)), .val (.ref ba), .val (.int (3 : Int32)), .val (.int (3 : Int32)), .val (.int (3 : Int32)), .val (.int q2)] [(.int (3 : Int32)), (.int (3 : Int32))])) _
    refine XS.icmpYes X_30.here hx rfl (pc0 := 7) (pc' := 44) rfl (hb hby d6_7) rfl (flt (by decide : ¬ ((3 : Int32) < (3 : Int32)))).2.1 (by decide) (by decide) ?_
    show Steps p.tables e below (T_30.setTop (mkF m 44 #[.val (.ref ca), .val (.int (3 : Int32)), .val (.ref ba), .val (.int (3 : Int32)), .val (.int (3 : Int32)), .val (.int (3 : Int32)), .val (.int q2)] [])) _
    refine XS.iload X_30.here hx rfl (hb hby d6_44) rfl ?_
    exact ktg)
  obtain ⟨fs, hr, hrun, hended, hW, hsame⟩ := X_30.leave (v := some (.int (3 : Int32))) (fun h => by rw [Bd.returns] at h; cases h)
  refine ⟨_, _, pre_36 _ ?_, hrun, hended, _, _, rfl, ?_, ⟨_, rfl⟩, hW, hsame.mono (by decide) (by decide)⟩
  · show Steps p.tables e below (T_30.setTop (mkF m 46 #[.val (.ref ca), .val (.int (3 : Int32)), .val (.ref ba), .val (.int (3 : Int32)), .val (.int (3 : Int32)), .val (.int (3 : Int32)), .val (.int q2)] [(.int (3 : Int32))])) _
    exact retI X_30 hx Bd.returns (hb hby d6_46) hr
  · show Qco3 Z ca ba q0 q1 q2 kc kb h0 n0 _ T_30.heap _
    rw [e_30]
    exact ⟨rfl, N_35, K_33, f_34⟩
theorem ef_cp3 (m : MethodId) (x0 : Addr) (x1 : Int32) (x2 : Int32) : entryFrame m #[(.ref x0), (.int x1), (.int x2)] 6 = mkF m 0 #[.val (.ref x0), .val (.int x1), .val (.int x2), .unset, .unset, .unset] [] := by first | (simp [entryFrame, mkF, argsToLocals, Value.category]; done) | rfl
def Qcp3 (Z : State) (ca : Addr) (q0 : Int32) (q1 : Int32) (q2 : Int32) (kc : ClassId) (h0 : Heap) (n0 : Nat) (v : Option Value) (h : Heap) (L : List Loc) : Prop := ∃ (ba : Addr) (kb : ClassId), v = some (.ref ba) ∧ Fr n0 L ∧ Keep h0 h [] ∧ h0.size ≤ ba ∧ n0 ≤ ba ∧ Arv Z h ba kb .byte (3 : Int32) [(.int (q0.toInt8.toInt32)), (.int (q1.toInt8.toInt32)), (.int (q2.toInt8.toInt32))] (.int (0 : Int32))
set_option maxRecDepth 65536 in
set_option maxHeartbeats 40000000 in
theorem rmcp3 (l : Launch) (Z : State) (a0 : Array Value) (hw : ∀ d ∈ tables_1, d.before a0 Z = true) (ws : List Jvm.Cond) (ca : Addr) (q0 : Int32) (q1 : Int32) (q2 : Int32) (kc : ClassId) (h0 : Heap) (n0 : Nat) (Z0 : n0 ≤ h0.size) (A1 : Arv Z h0 ca kc .char (3 : Int32) [(.int q0), (.int q1), (.int q2)] (.int (0 : Int32))) (hq0 : ¬ (255 : Int32) < q0) (hq1 : ¬ (255 : Int32) < q1) (hq2 : ¬ (255 : Int32) < q2) :
    MetFree l (⟨"java/lang/StringUTF16", "compress", "([CII)[B"⟩ : MethodName) (head1 (Jvm.Cond.code (⟨"java/lang/StringUTF16", "compress", "([CII)[B"⟩ : MethodName) jdk_52_method_16_code 6 (some (.array .byte)) :: ws) ({ frames := 1, cells := 1, slots := 3, locals := 18 } : Room)) (fun aA U => aA = #[(.ref ca), (.int (0 : Int32)), (.int (3 : Int32))] ∧ Z.Warmed39 U.vm ∧ U.heap = h0) (fun _ _ _ _ _ => True) (fun _ U oO U' => ∃ vV LL, oO = .returned vV ∧ Qcp3 Z ca q0 q1 q2 kc h0 n0 vV U'.heap LL ∧ FrameEnd U oO U' LL ({ frames := 1, cells := 1, slots := 3, locals := 18 } : Room).cells ({ frames := 1, cells := 1, slots := 3, locals := 18 } : Room).slots) := by
  refine MetFree.of_bodySF (plainFor_of_name pn_3) hisR ?_
  intro p e s m args below meth c s₁ Bd hml0 hP hK
  obtain ⟨rfl, hZ, hh⟩ := hP
  have hx := Bd.exec
  have hby := Bd.bytes
  have hml : c.maxLocals = 6 := hml0
  have hown : s.vm.findClass "java/lang/StringUTF16" = some m.cls := findClass_of_methodNamed Bd.named
  have hnm := (name_of_methodNamed Bd.named Bd.method).1
  have X0 : Stand p l e ({ frames := 1, cells := 1, slots := 3, locals := 18 } : Room) s m #[(.ref ca), (.int (0 : Int32)), (.int (3 : Int32))] below meth c s₁ [] 0 0 := Stand.of_body Bd
  have e0 : s₁.heap = h0 := by rw [← hh, Bd.state]; rfl
  have N0 := Fr.nil n0
  have K0 : Keep h0 h0 [] := Keep.refl _ _
  have pre0 : Rch p.tables e below (s₁.setTop (entryFrame m #[(.ref ca), (.int (0 : Int32)), (.int (3 : Int32))] 6)) (s₁.setTop (mkF m 0 #[.val (.ref ca), .val (.int (0 : Int32)), .val (.int (3 : Int32)), .unset, .unset, .unset] [])) := fun tgt ktg => castTop (ef_cp3 m ca (0 : Int32) (3 : Int32)) ktg
  have pre_1 : Rch p.tables e below (s₁.setTop (entryFrame m #[(.ref ca), (.int (0 : Int32)), (.int (3 : Int32))] 6)) (s₁.setTop (mkF m 1 #[.val (.ref ca), .val (.int (0 : Int32)), .val (.int (3 : Int32)), .unset, .unset, .unset] [(.int (3 : Int32))])) := fun tgt ktg => pre0 tgt (by
    show Steps p.tables e below (s₁.setTop (mkF m 0 #[.val (.ref ca), .val (.int (0 : Int32)), .val (.int (3 : Int32)), .unset, .unset, .unset] [])) _
    refine XS.iloadN X0.here hx rfl (hb hby d5_0) rfl ?_
    exact ktg)
  obtain ⟨T_2, h_2, k_2, X_2, e_2, E_2, A_2, st_2⟩ := newP X0 hx hZ (hw _ (List.mem_of_getElem? (i := 23) rfl)) e0 (g := (mkF m 1 #[.val (.ref ca), .val (.int (0 : Int32)), .val (.int (3 : Int32)), .unset, .unset, .unset] [(.int (3 : Int32))])) rfl (hb hby d5_1) rfl (by decide) (cap := 3) (by decide) (by decide) (by decide) (by decide)
  obtain ⟨ba, g_2⟩ : ∃ nm_, nm_ = h0.size := ⟨_, rfl⟩
  rw [← g_2] at A_2 st_2
  have ne_ca_ba : ca ≠ ba := Nat.ne_of_lt (Nat.lt_of_lt_of_le A1.lt (Nat.le_of_eq g_2.symm))
  have g_ba : n0 ≤ ba := Nat.le_trans Z0 (Nat.le_of_eq g_2.symm)
  have sz_ba : h0.size ≤ ba := Nat.le_trans K0.1 (Nat.le_of_eq g_2.symm)
  have pre_2 : Rch p.tables e below (s₁.setTop (entryFrame m #[(.ref ca), (.int (0 : Int32)), (.int (3 : Int32))] 6)) (T_2.setTop (mkF m 3 #[.val (.ref ca), .val (.int (0 : Int32)), .val (.int (3 : Int32)), .unset, .unset, .unset] [(.ref ba)])) := fun tgt ktg => pre_1 tgt (st_2 tgt ktg)
  have f_3 : Arv Z h_2 ca kc .char (3 : Int32) [(.int q0), (.int q1), (.int q2)] (.int (0 : Int32)) := A1.ext E_2
  have z_4 : n0 ≤ h_2.size := Nat.le_trans Z0 E_2.1
  have K_5 : Keep h0 h_2 [] := K0.ext E_2
  have f_6 : Arv Z h_2 ba k_2 .byte (3 : Int32) [(.int (0 : Int32)), (.int (0 : Int32)), (.int (0 : Int32))] (.int (0 : Int32)) := (Arv.new A_2 (by decide)).pad (pad_rep [] (.int (0 : Int32)) 3)
  have pre_7 : Rch p.tables e below (s₁.setTop (entryFrame m #[(.ref ca), (.int (0 : Int32)), (.int (3 : Int32))] 6)) (T_2.setTop (mkF m 9 #[.val (.ref ca), .val (.int (0 : Int32)), .val (.int (3 : Int32)), .val (.ref ba), .unset, .unset] [(.int (3 : Int32)), (.int (0 : Int32)), (.ref ba), (.int (0 : Int32)), (.ref ca)])) := fun tgt ktg => pre_2 tgt (by
    show Steps p.tables e below (T_2.setTop (mkF m 3 #[.val (.ref ca), .val (.int (0 : Int32)), .val (.int (3 : Int32)), .unset, .unset, .unset] [(.ref ba)])) _
    refine XS.astoreN X_2.here hx rfl (hb hby d5_3) rfl rfl (l' := #[.val (.ref ca), .val (.int (0 : Int32)), .val (.int (3 : Int32)), .val (.ref ba), .unset, .unset]) rfl ?_
    show Steps p.tables e below (T_2.setTop (mkF m 4 #[.val (.ref ca), .val (.int (0 : Int32)), .val (.int (3 : Int32)), .val (.ref ba), .unset, .unset] [])) _
    refine XS.aloadN X_2.here hx rfl (hb hby d5_4) rfl rfl ?_
    show Steps p.tables e below (T_2.setTop (mkF m 5 #[.val (.ref ca), .val (.int (0 : Int32)), .val (.int (3 : Int32)), .val (.ref ba), .unset, .unset] [(.ref ca)])) _
    refine XS.iloadN X_2.here hx rfl (hb hby d5_5) rfl ?_
    show Steps p.tables e below (T_2.setTop (mkF m 6 #[.val (.ref ca), .val (.int (0 : Int32)), .val (.int (3 : Int32)), .val (.ref ba), .unset, .unset] [(.int (0 : Int32)), (.ref ca)])) _
    refine XS.aloadN X_2.here hx rfl (hb hby d5_6) rfl rfl ?_
    show Steps p.tables e below (T_2.setTop (mkF m 7 #[.val (.ref ca), .val (.int (0 : Int32)), .val (.int (3 : Int32)), .val (.ref ba), .unset, .unset] [(.ref ba), (.int (0 : Int32)), (.ref ca)])) _
    refine XS.iconst X_2.here hx rfl (hb hby d5_7) ?_
    show Steps p.tables e below (T_2.setTop (mkF m 8 #[.val (.ref ca), .val (.int (0 : Int32)), .val (.int (3 : Int32)), .val (.ref ba), .unset, .unset] [(.int (0 : Int32)), (.ref ba), (.int (0 : Int32)), (.ref ca)])) _
    refine XS.iloadN X_2.here hx rfl (hb hby d5_8) rfl ?_
    exact ktg)
  obtain ⟨_, _, ⟨T_8, L_8, k_8, n_8⟩, -, X_8, ⟨Lc_8, hQ_8, l_8, y_8, z_8⟩, st_8⟩ := Jvm.LawKit.callS X_2 hx (y := (⟨"java/lang/StringUTF16", "compress", "([CI[BII)I"⟩ : MethodName)) hown (mvT hZ (hw _ (List.mem_of_getElem? (i := 24) rfl))) (mvT hZ (hw _ (List.mem_of_getElem? (i := 25) rfl))) (mvT hZ (hw _ (List.mem_of_getElem? (i := 21) rfl))) (mvT hZ (hw _ (List.mem_of_getElem? (i := 26) rfl))) (by decide) (backOf (W := 0) (rmco3 l Z a0 hw [] ca ba q0 q1 q2 kc k_2 h_2 n0 z_4 f_3 f_6 g_ba ne_ca_ba hq0 hq1 hq2) hZ (hw _ (List.mem_of_getElem? (i := 26) rfl)) (hw _ (List.mem_of_getElem? (i := 21) rfl)) (by decide) (by decide)) (g := (mkF m 9 #[.val (.ref ca), .val (.int (0 : Int32)), .val (.int (3 : Int32)), .val (.ref ba), .unset, .unset] [(.int (3 : Int32)), (.int (0 : Int32)), (.ref ba), (.int (0 : Int32)), (.ref ca)])) rfl (by rw [hml]; rfl) (argsL := [(.ref ca), (.int (0 : Int32)), (.ref ba), (.int (0 : Int32)), (.int (3 : Int32))]) (rest := []) (lenOf pd_7 rfl) rfl (by show 2 * 0 + _ ≤ _; exact Nat.le_of_eq rfl) (hb hby d5_9) (fun _ _ => ⟨rfl, e_2, (by decide : 1 + 0 ≤ _), (by decide : 3 + 0 ≤ _)⟩)
  dsimp only [Pt.U, Pt.locs, Pt.cells, Pt.slots] at X_8 l_8 y_8 z_8 st_8 hQ_8
  subst l_8 y_8 z_8
  obtain ⟨rfl, Nq_8, Kq_8, b0⟩ := hQ_8
  have N_9 := Fr.app N0 Nq_8
  have pre_8 : Rch p.tables e below (s₁.setTop (entryFrame m #[(.ref ca), (.int (0 : Int32)), (.int (3 : Int32))] 6)) (T_8.setTop (mkF m 12 #[.val (.ref ca), .val (.int (0 : Int32)), .val (.int (3 : Int32)), .val (.ref ba), .unset, .unset] [(.int (3 : Int32))])) := fun tgt ktg => pre_7 tgt (st_8 tgt ktg)
  have z_10 : n0 ≤ T_8.heap.size := Nat.le_trans z_4 Kq_8.1
  have K_11 : Keep h0 T_8.heap [] := K_5.trans Kq_8 (allS (P := fun x => x ∈ ([] : List Addr) ∨ h0.size ≤ x) (Or.inr sz_ba) (all0 (P := fun x => x ∈ ([] : List Addr) ∨ h0.size ≤ x)))
  have pre_12 : Rch p.tables e below (s₁.setTop (entryFrame m #[(.ref ca), (.int (0 : Int32)), (.int (3 : Int32))] 6)) (T_8.setTop (mkF m 58 #[.val (.ref ca), .val (.int (0 : Int32)), .val (.int (3 : Int32)), .val (.ref ba), .val (.int (3 : Int32)), .unset] [(.ref ba)])) := fun tgt ktg => pre_8 tgt (by
    show Steps p.tables e below (T_8.setTop (mkF m 12 #[.val (.ref ca), .val (.int (0 : Int32)), .val (.int (3 : Int32)), .val (.ref ba), .unset, .unset] [(.int (3 : Int32))])) _
    refine XS.istore X_8.here hx rfl (hb hby d5_12) rfl (l' := #[.val (.ref ca), .val (.int (0 : Int32)), .val (.int (3 : Int32)), .val (.ref ba), .val (.int (3 : Int32)), .unset]) rfl ?_
    show Steps p.tables e below (T_8.setTop (mkF m 14 #[.val (.ref ca), .val (.int (0 : Int32)), .val (.int (3 : Int32)), .val (.ref ba), .val (.int (3 : Int32)), .unset] [])) _
    refine XS.iload X_8.here hx rfl (hb hby d5_14) rfl ?_
    show Steps p.tables e below (T_8.setTop (mkF m 16 #[.val (.ref ca), .val (.int (0 : Int32)), .val (.int (3 : Int32)), .val (.ref ba), .val (.int (3 : Int32)), .unset] [(.int (3 : Int32))])) _
    refine XS.iloadN X_8.here hx rfl (hb hby d5_16) rfl ?_
    show Steps p.tables e below (T_8.setTop (mkF m 17 #[.val (.ref ca), .val (.int (0 : Int32)), .val (.int (3 : Int32)), .val (.ref ba), .val (.int (3 : Int32)), .unset] [(.int (3 : Int32)), (.int (3 : Int32))])) _
    refine XS.icmpYes X_8.here hx rfl (pc0 := 17) (pc' := 57) rfl (hb hby d5_17) rfl (teq (rfl : (3 : Int32) = (3 : Int32))).1 (by decide) (by decide) ?_
    show Steps p.tables e below (T_8.setTop (mkF m 57 #[.val (.ref ca), .val (.int (0 : Int32)), .val (.int (3 : Int32)), .val (.ref ba), .val (.int (3 : Int32)), .unset] [])) _
    refine XS.aloadN X_8.here hx rfl (hb hby d5_57) rfl rfl ?_
    exact ktg)
  obtain ⟨fs, hr, hrun, hended, hW, hsame⟩ := X_8.leave (v := some (.ref ba)) (fun h => by rw [Bd.returns] at h; cases h)
  refine ⟨_, _, pre_12 _ ?_, hrun, hended, _, _, rfl, ?_, ⟨_, rfl⟩, hW, hsame.mono (by decide) (by decide)⟩
  · show Steps p.tables e below (T_8.setTop (mkF m 58 #[.val (.ref ca), .val (.int (0 : Int32)), .val (.int (3 : Int32)), .val (.ref ba), .val (.int (3 : Int32)), .unset] [(.ref ba)])) _
    jvm_step X_8.here [X_8.here.top, hx, (hb hby d5_58), X_8.method', Bd.returns, Value.isRef, FieldType.isReference]
    first | (intro acts; rw [hr _ acts rfl rfl rfl]) | rw [hr _ _ rfl rfl rfl]
    exact Steps.refl _
  · show Qcp3 Z ca q0 q1 q2 kc h0 n0 _ T_8.heap _
    exact ⟨ba, k_2, rfl, N_9, K_11, sz_ba, g_ba, b0⟩
theorem ef_cf3 (m : MethodId) (x0 : Addr) (x1 : Int32) : entryFrame m #[(.ref x0), (.int x1)] 2 = mkF m 0 #[.val (.ref x0), .val (.int x1)] [] := by first | (simp [entryFrame, mkF, argsToLocals, Value.category]; done) | rfl
def Qcf3 (Z : State) (ba : Addr) (kb : ClassId) (vs : List Value) (h0 : Heap) (n0 : Nat) (v : Option Value) (h : Heap) (L : List Loc) : Prop := v = some (.int 0) ∧ Fr n0 L ∧ h = h0
set_option maxRecDepth 65536 in
set_option maxHeartbeats 40000000 in
theorem rmcf3 (l : Launch) (Z : State) (a0 : Array Value) (hw : ∀ d ∈ tables_1, d.before a0 Z = true) (ws : List Jvm.Cond) (ba : Addr) (kb : ClassId) (vs : List Value) (h0 : Heap) (n0 : Nat) (Z0 : n0 ≤ h0.size) (A1 : Arv Z h0 ba kb .byte (3 : Int32) vs (.int (0 : Int32))) :
    MetFree l (⟨"java/lang/StringUTF16", "coderFromArrayLen", "([BI)B"⟩ : MethodName) (head1 (Jvm.Cond.code (⟨"java/lang/StringUTF16", "coderFromArrayLen", "([BI)B"⟩ : MethodName) jdk_52_method_15_code 2 (some .byte) :: ws) ({ frames := 0, cells := 0, slots := 0, locals := 0 } : Room)) (fun aA U => aA = #[(.ref ba), (.int (3 : Int32))] ∧ Z.Warmed39 U.vm ∧ U.heap = h0) (fun _ _ _ _ _ => True) (fun _ U oO U' => ∃ vV LL, oO = .returned vV ∧ Qcf3 Z ba kb vs h0 n0 vV U'.heap LL ∧ FrameEnd U oO U' LL ({ frames := 0, cells := 0, slots := 0, locals := 0 } : Room).cells ({ frames := 0, cells := 0, slots := 0, locals := 0 } : Room).slots) := by
  refine MetFree.of_bodySF (plainFor_of_name pn_3) hisR ?_
  intro p e s m args below meth c s₁ Bd hml0 hP hK
  obtain ⟨rfl, hZ, hh⟩ := hP
  have hx := Bd.exec
  have hby := Bd.bytes
  have hml : c.maxLocals = 2 := hml0
  have hown : s.vm.findClass "java/lang/StringUTF16" = some m.cls := findClass_of_methodNamed Bd.named
  have hnm := (name_of_methodNamed Bd.named Bd.method).1
  have X0 : Stand p l e ({ frames := 0, cells := 0, slots := 0, locals := 0 } : Room) s m #[(.ref ba), (.int (3 : Int32))] below meth c s₁ [] 0 0 := Stand.of_body Bd
  have e0 : s₁.heap = h0 := by rw [← hh, Bd.state]; rfl
  have N0 := Fr.nil n0
  have K0 : Keep h0 h0 [] := Keep.refl _ _
  have pre0 : Rch p.tables e below (s₁.setTop (entryFrame m #[(.ref ba), (.int (3 : Int32))] 2)) (s₁.setTop (mkF m 0 #[.val (.ref ba), .val (.int (3 : Int32))] [])) := fun tgt ktg => castTop (ef_cf3 m ba (3 : Int32)) ktg
  have pre_1 : Rch p.tables e below (s₁.setTop (entryFrame m #[(.ref ba), (.int (3 : Int32))] 2)) (s₁.setTop (mkF m 2 #[.val (.ref ba), .val (.int (3 : Int32))] [(.ref ba), (.int (3 : Int32))])) := fun tgt ktg => pre0 tgt (by
    show Steps p.tables e below (s₁.setTop (mkF m 0 #[.val (.ref ba), .val (.int (3 : Int32))] [])) _
    refine XS.iloadN X0.here hx rfl (hb hby d7_0) rfl ?_
    show Steps p.tables e below (s₁.setTop (mkF m 1 #[.val (.ref ba), .val (.int (3 : Int32))] [(.int (3 : Int32))])) _
    refine XS.aloadN X0.here hx rfl (hb hby d7_1) rfl rfl ?_
    exact ktg)
  obtain ⟨cl__2, Ar__2, q__2, S__2, N__2, H__2, G__2⟩ := id A1
  have pre_3 : Rch p.tables e below (s₁.setTop (entryFrame m #[(.ref ba), (.int (3 : Int32))] 2)) (s₁.setTop (mkF m 3 #[.val (.ref ba), .val (.int (3 : Int32))] [(.int (3 : Int32)), (.int (3 : Int32))])) := fun tgt ktg => pre_1 tgt (X0.arraylength hx (by rw [e0]; exact Ar__2.1) (State.isArrayOf_alike hZ.alike Ar__2.2.1) (g := (mkF m 2 #[.val (.ref ba), .val (.int (3 : Int32))] [(.ref ba), (.int (3 : Int32))])) rfl rfl (hb hby d7_2) _ (by rw [len_of S__2 N__2]; exact ktg))
  have pre_4 : Rch p.tables e below (s₁.setTop (entryFrame m #[(.ref ba), (.int (3 : Int32))] 2)) (s₁.setTop (mkF m 8 #[.val (.ref ba), .val (.int (3 : Int32))] [(.int ((((0 : Int32).toUInt32 >>> ((31 : Int32) &&& 31).toUInt32).toInt32).toInt8.toInt32))])) := fun tgt ktg => pre_3 tgt (by
    show Steps p.tables e below (s₁.setTop (mkF m 3 #[.val (.ref ba), .val (.int (3 : Int32))] [(.int (3 : Int32)), (.int (3 : Int32))])) _
    refine XS.isub X0.here hx rfl (hb hby d7_3) rfl ?_
    show Steps p.tables e below (s₁.setTop (mkF m 4 #[.val (.ref ba), .val (.int (3 : Int32))] [(.int (0 : Int32))])) _
    refine XS.bipush X0.here hx rfl (hb hby d7_4) ?_
    show Steps p.tables e below (s₁.setTop (mkF m 6 #[.val (.ref ba), .val (.int (3 : Int32))] [(.int (31 : Int32)), (.int (0 : Int32))])) _
    refine XT.iushr X0.here hx rfl (hb hby d7_6) rfl ?_
    show Steps p.tables e below (s₁.setTop (mkF m 7 #[.val (.ref ba), .val (.int (3 : Int32))] [(.int (((0 : Int32).toUInt32 >>> ((31 : Int32) &&& 31).toUInt32).toInt32))])) _
    refine XT.i2b X0.here hx rfl (hb hby d7_7) rfl ?_
    exact ktg)
  obtain ⟨fs, hr, hrun, hended, hW, hsame⟩ := X0.leave (v := some (.int (nar .byte ((((0 : Int32).toUInt32 >>> ((31 : Int32) &&& 31).toUInt32).toInt32).toInt8.toInt32)))) (fun h => by rw [Bd.returns] at h; cases h)
  refine ⟨_, _, pre_4 _ ?_, hrun, hended, _, _, rfl, ?_, ⟨_, rfl⟩, hW, hsame.mono (by decide) (by decide)⟩
  · show Steps p.tables e below (s₁.setTop (mkF m 8 #[.val (.ref ba), .val (.int (3 : Int32))] [(.int ((((0 : Int32).toUInt32 >>> ((31 : Int32) &&& 31).toUInt32).toInt32).toInt8.toInt32))])) _
    exact retN X0 hx (t := .byte) Bd.returns (by simp) (hb hby d7_8) hr
  · show Qcf3 Z ba kb vs h0 n0 _ s₁.heap _
    rw [e0]
    exact ⟨rfl, N0, rfl⟩
theorem ef_sv3 (m : MethodId) (x0 : Addr) (x1 : Addr) (x2 : Int32) (x3 : Int32) : entryFrame m #[(.ref x0), (.ref x1), (.int x2), (.int x3), .null] 6 = mkF m 0 #[.val (.ref x0), .val (.ref x1), .val (.int x2), .val (.int x3), .val .null, .unset] [] := by first | (simp [entryFrame, mkF, argsToLocals, Value.category]; done) | rfl
def Qsv3 (Z : State) (a : Addr) (ca : Addr) (q0 : Int32) (q1 : Int32) (q2 : Int32) (kc : ClassId) (h0 : Heap) (n0 : Nat) (v : Option Value) (h : Heap) (L : List Loc) : Prop := ∃ (ba : Addr) (kb : ClassId), v = none ∧ Fr n0 L ∧ Keep h0 h [a] ∧ Exa Z h a "java/lang/String" ∧ Fld Z h a "java/lang/String" "coder" "B" (.int (0 : Int32)) ∧ Fld Z h a "java/lang/String" "value" "[B" (.ref ba) ∧ Arv Z h ba kb .byte (3 : Int32) [(.int (q0.toInt8.toInt32)), (.int (q1.toInt8.toInt32)), (.int (q2.toInt8.toInt32))] (.int (0 : Int32))
set_option maxRecDepth 65536 in
set_option maxHeartbeats 40000000 in
theorem rmsv3 (l : Launch) (Z : State) (a0 : Array Value) (hw : ∀ d ∈ tables_1, d.before a0 Z = true) (ws : List Jvm.Cond) (a : Addr) (ca : Addr) (q0 : Int32) (q1 : Int32) (q2 : Int32) (kc : ClassId) (h0 : Heap) (n0 : Nat) (Z0 : n0 ≤ h0.size) (E1 : Exa Z h0 a "java/lang/String") (F1 : Fld Z h0 a "java/lang/String" "value" "[B" .null) (F2 : Fld Z h0 a "java/lang/String" "coder" "B" (.int (0 : Int32))) (A1 : Arv Z h0 ca kc .char (3 : Int32) [(.int q0), (.int q1), (.int q2)] (.int (0 : Int32))) (nca : ca ≠ a) (ga : n0 ≤ a) (hq0 : ¬ (255 : Int32) < q0) (hq1 : ¬ (255 : Int32) < q1) (hq2 : ¬ (255 : Int32) < q2) (cs : Int32) (hcs : ¬ cs = 0) (S1 : Sta Z h0 "java/lang/String" "COMPACT_STRINGS" "Z" (.int cs)) :
    MetFree l (⟨"java/lang/String", "<init>", "([CIILjava/lang/Void;)V"⟩ : MethodName) (head1 (Jvm.Cond.code (⟨"java/lang/String", "<init>", "([CIILjava/lang/Void;)V"⟩ : MethodName) jdk_42_method_149_code 6 none :: ws) ({ frames := 2, cells := 1, slots := 3, locals := 40 } : Room)) (fun aA U => aA = #[(.ref a), (.ref ca), (.int (0 : Int32)), (.int (3 : Int32)), .null] ∧ Z.Warmed39 U.vm ∧ U.heap = h0) (fun _ _ _ _ _ => True) (fun _ U oO U' => ∃ vV LL, oO = .returned vV ∧ Qsv3 Z a ca q0 q1 q2 kc h0 n0 vV U'.heap LL ∧ FrameEnd U oO U' LL ({ frames := 2, cells := 1, slots := 3, locals := 40 } : Room).cells ({ frames := 2, cells := 1, slots := 3, locals := 40 } : Room).slots) := by
  refine MetFree.of_bodySF (plainFor_of_name pn_0) hisR ?_
  intro p e s m args below meth c s₁ Bd hml0 hP hK
  obtain ⟨rfl, hZ, hh⟩ := hP
  have hx := Bd.exec
  have hby := Bd.bytes
  have hml : c.maxLocals = 6 := hml0
  have hown : s.vm.findClass "java/lang/String" = some m.cls := findClass_of_methodNamed Bd.named
  have hnm := (name_of_methodNamed Bd.named Bd.method).1
  have X0 : Stand p l e ({ frames := 2, cells := 1, slots := 3, locals := 40 } : Room) s m #[(.ref a), (.ref ca), (.int (0 : Int32)), (.int (3 : Int32)), .null] below meth c s₁ [] 0 0 := Stand.of_body Bd
  have e0 : s₁.heap = h0 := by rw [← hh, Bd.state]; rfl
  have N0 := Fr.nil n0
  have K0 : Keep h0 h0 [a] := Keep.refl _ _
  have pre0 : Rch p.tables e below (s₁.setTop (entryFrame m #[(.ref a), (.ref ca), (.int (0 : Int32)), (.int (3 : Int32)), .null] 6)) (s₁.setTop (mkF m 0 #[.val (.ref a), .val (.ref ca), .val (.int (0 : Int32)), .val (.int (3 : Int32)), .val .null, .unset] [])) := fun tgt ktg => castTop (ef_sv3 m a ca (0 : Int32) (3 : Int32)) ktg
  have pre_1 : Rch p.tables e below (s₁.setTop (entryFrame m #[(.ref a), (.ref ca), (.int (0 : Int32)), (.int (3 : Int32)), .null] 6)) (s₁.setTop (mkF m 1 #[.val (.ref a), .val (.ref ca), .val (.int (0 : Int32)), .val (.int (3 : Int32)), .val .null, .unset] [(.ref a)])) := fun tgt ktg => pre0 tgt (by
    show Steps p.tables e below (s₁.setTop (mkF m 0 #[.val (.ref a), .val (.ref ca), .val (.int (0 : Int32)), .val (.int (3 : Int32)), .val .null, .unset] [])) _
    refine XS.aloadN X0.here hx rfl (hb hby d3_0) rfl rfl ?_
    exact ktg)
  obtain ⟨T_2, X_2, e_2, st_2⟩ := initO X0 hx hZ hown (hw _ (List.mem_of_getElem? (i := 15) rfl)) (hw _ (List.mem_of_getElem? (i := 16) rfl)) (hw _ (List.mem_of_getElem? (i := 17) rfl)) e0 (g := (mkF m 1 #[.val (.ref a), .val (.ref ca), .val (.int (0 : Int32)), .val (.int (3 : Int32)), .val .null, .unset] [(.ref a)])) rfl (by rw [hml]; rfl) rfl (hb hby d3_1) (by decide) (W := 0) (by show 2 * 0 + _ ≤ _; exact Nat.le_of_eq rfl) (by decide)
  have pre_2 : Rch p.tables e below (s₁.setTop (entryFrame m #[(.ref a), (.ref ca), (.int (0 : Int32)), (.int (3 : Int32)), .null] 6)) (T_2.setTop (mkF m 4 #[.val (.ref a), .val (.ref ca), .val (.int (0 : Int32)), .val (.int (3 : Int32)), .val .null, .unset] [])) := fun tgt ktg => pre_1 tgt (st_2 tgt ktg)
  have pre_3 : Rch p.tables e below (s₁.setTop (entryFrame m #[(.ref a), (.ref ca), (.int (0 : Int32)), (.int (3 : Int32)), .null] 6)) (T_2.setTop (mkF m 27 #[.val (.ref a), .val (.ref ca), .val (.int (0 : Int32)), .val (.int (3 : Int32)), .val .null, .unset] [])) := fun tgt ktg => pre_2 tgt (by
    show Steps p.tables e below (T_2.setTop (mkF m 4 #[.val (.ref a), .val (.ref ca), .val (.int (0 : Int32)), .val (.int (3 : Int32)), .val .null, .unset] [])) _
    refine XS.iloadN X_2.here hx rfl (hb hby d3_4) rfl ?_
    show Steps p.tables e below (T_2.setTop (mkF m 5 #[.val (.ref a), .val (.ref ca), .val (.int (0 : Int32)), .val (.int (3 : Int32)), .val .null, .unset] [(.int (3 : Int32))])) _
    refine XS.ifYes X_2.here hx rfl (pc0 := 5) (pc' := 27) rfl (hb hby d3_5) rfl ((if0 _ _).trans (feq (by decide : ¬ ((3 : Int32) = (0 : Int32)))).2) (by decide) (by decide) ?_
    exact ktg)
  obtain ⟨T_4, X_4, e_4, st_4⟩ := getS2 X_2 hx hZ hown (host := "") (Or.inl (hw _ (List.mem_of_getElem? (i := 18) rfl))) Via.refl e_2 S1 (g := (mkF m 27 #[.val (.ref a), .val (.ref ca), .val (.int (0 : Int32)), .val (.int (3 : Int32)), .val .null, .unset] [])) rfl (hb hby d3_27)
  have pre_4 : Rch p.tables e below (s₁.setTop (entryFrame m #[(.ref a), (.ref ca), (.int (0 : Int32)), (.int (3 : Int32)), .null] 6)) (T_4.setTop (mkF m 30 #[.val (.ref a), .val (.ref ca), .val (.int (0 : Int32)), .val (.int (3 : Int32)), .val .null, .unset] [(.int cs)])) := fun tgt ktg => pre_3 tgt (st_4 tgt ktg)
  have pre_5 : Rch p.tables e below (s₁.setTop (entryFrame m #[(.ref a), (.ref ca), (.int (0 : Int32)), (.int (3 : Int32)), .null] 6)) (T_4.setTop (mkF m 36 #[.val (.ref a), .val (.ref ca), .val (.int (0 : Int32)), .val (.int (3 : Int32)), .val .null, .unset] [(.int (3 : Int32)), (.int (0 : Int32)), (.ref ca)])) := fun tgt ktg => pre_4 tgt (by
    show Steps p.tables e below (T_4.setTop (mkF m 30 #[.val (.ref a), .val (.ref ca), .val (.int (0 : Int32)), .val (.int (3 : Int32)), .val .null, .unset] [(.int cs)])) _
    refine XS.ifNo X_4.here hx rfl (hb hby d3_30) rfl ((if0 _ _).trans (feq hcs).1) ?_
    show Steps p.tables e below (T_4.setTop (mkF m 33 #[.val (.ref a), .val (.ref ca), .val (.int (0 : Int32)), .val (.int (3 : Int32)), .val .null, .unset] [])) _
    refine XS.aloadN X_4.here hx rfl (hb hby d3_33) rfl rfl ?_
    show Steps p.tables e below (T_4.setTop (mkF m 34 #[.val (.ref a), .val (.ref ca), .val (.int (0 : Int32)), .val (.int (3 : Int32)), .val .null, .unset] [(.ref ca)])) _
    refine XS.iloadN X_4.here hx rfl (hb hby d3_34) rfl ?_
    show Steps p.tables e below (T_4.setTop (mkF m 35 #[.val (.ref a), .val (.ref ca), .val (.int (0 : Int32)), .val (.int (3 : Int32)), .val .null, .unset] [(.int (0 : Int32)), (.ref ca)])) _
    refine XS.iloadN X_4.here hx rfl (hb hby d3_35) rfl ?_
    exact ktg)
  have alt := E1.lt
  obtain ⟨_, _, ⟨T_6, L_6, k_6, n_6⟩, -, X_6, ⟨Lc_6, hQ_6, l_6, y_6, z_6⟩, st_6⟩ := Jvm.LawKit.callS X_4 hx (y := (⟨"java/lang/StringUTF16", "compress", "([CII)[B"⟩ : MethodName)) hown (mvT hZ (hw _ (List.mem_of_getElem? (i := 19) rfl))) (mvT hZ (hw _ (List.mem_of_getElem? (i := 20) rfl))) (mvT hZ (hw _ (List.mem_of_getElem? (i := 21) rfl))) (mvT hZ (hw _ (List.mem_of_getElem? (i := 22) rfl))) (by decide) (backOf (W := 0) (rmcp3 l Z a0 hw [] ca q0 q1 q2 kc h0 n0 Z0 A1 hq0 hq1 hq2) hZ (hw _ (List.mem_of_getElem? (i := 22) rfl)) (hw _ (List.mem_of_getElem? (i := 21) rfl)) (by decide) (by decide)) (g := (mkF m 36 #[.val (.ref a), .val (.ref ca), .val (.int (0 : Int32)), .val (.int (3 : Int32)), .val .null, .unset] [(.int (3 : Int32)), (.int (0 : Int32)), (.ref ca)])) rfl (by rw [hml]; rfl) (argsL := [(.ref ca), (.int (0 : Int32)), (.int (3 : Int32))]) (rest := []) (lenOf pd_8 rfl) rfl (by show 2 * 0 + _ ≤ _; exact Nat.le_of_eq rfl) (hb hby d3_36) (fun _ _ => ⟨rfl, e_4, (by decide : 0 + 1 ≤ _), (by decide : 0 + 3 ≤ _)⟩)
  dsimp only [Pt.U, Pt.locs, Pt.cells, Pt.slots] at X_6 l_6 y_6 z_6 st_6 hQ_6
  subst l_6 y_6 z_6
  obtain ⟨ba, kb, rfl, Nq_6, Kq_6, sba, gba, b0⟩ := hQ_6
  have N_7 := Fr.app N0 Nq_6
  have pre_6 : Rch p.tables e below (s₁.setTop (entryFrame m #[(.ref a), (.ref ca), (.int (0 : Int32)), (.int (3 : Int32)), .null] 6)) (T_6.setTop (mkF m 39 #[.val (.ref a), .val (.ref ca), .val (.int (0 : Int32)), .val (.int (3 : Int32)), .val .null, .unset] [(.ref ba)])) := fun tgt ktg => pre_5 tgt (st_6 tgt ktg)
  have f_8 : Exa Z T_6.heap a "java/lang/String" := E1.keep Kq_6
  have f_9 : Fld Z T_6.heap a "java/lang/String" "value" "[B" .null := F1.keep Kq_6 nin0
  have f_10 : Fld Z T_6.heap a "java/lang/String" "coder" "B" (.int (0 : Int32)) := F2.keep Kq_6 nin0
  have f_11 : Arv Z T_6.heap ca kc .char (3 : Int32) [(.int q0), (.int q1), (.int q2)] (.int (0 : Int32)) := A1.keep Kq_6 nin0
  have f_12 : Sta Z T_6.heap "java/lang/String" "COMPACT_STRINGS" "Z" (.int cs) := own_sta_keep S1 Kq_6 ns0
  have z_13 : n0 ≤ T_6.heap.size := Nat.le_trans Z0 Kq_6.1
  have K_14 : Keep h0 T_6.heap [a] := K0.trans Kq_6 (all0 (P := fun x => x ∈ [a] ∨ h0.size ≤ x))
  have nab : a ≠ ba := Nat.ne_of_lt (Nat.lt_of_lt_of_le alt sba)
  have pre_15 : Rch p.tables e below (s₁.setTop (entryFrame m #[(.ref a), (.ref ca), (.int (0 : Int32)), (.int (3 : Int32)), .null] 6)) (T_6.setTop (mkF m 45 #[.val (.ref a), .val (.ref ca), .val (.int (0 : Int32)), .val (.int (3 : Int32)), .val .null, .val (.ref ba)] [(.int (3 : Int32)), (.ref ba), (.ref a)])) := fun tgt ktg => pre_6 tgt (by
    show Steps p.tables e below (T_6.setTop (mkF m 39 #[.val (.ref a), .val (.ref ca), .val (.int (0 : Int32)), .val (.int (3 : Int32)), .val .null, .unset] [(.ref ba)])) _
    refine XS.astore X_6.here hx rfl (hb hby d3_39) rfl rfl (l' := #[.val (.ref a), .val (.ref ca), .val (.int (0 : Int32)), .val (.int (3 : Int32)), .val .null, .val (.ref ba)]) rfl ?_
    show Steps p.tables e below (T_6.setTop (mkF m 41 #[.val (.ref a), .val (.ref ca), .val (.int (0 : Int32)), .val (.int (3 : Int32)), .val .null, .val (.ref ba)] [])) _
    refine XS.aloadN X_6.here hx rfl (hb hby d3_41) rfl rfl ?_
    show Steps p.tables e below (T_6.setTop (mkF m 42 #[.val (.ref a), .val (.ref ca), .val (.int (0 : Int32)), .val (.int (3 : Int32)), .val .null, .val (.ref ba)] [(.ref a)])) _
    refine XS.aload X_6.here hx rfl (hb hby d3_42) rfl rfl ?_
    show Steps p.tables e below (T_6.setTop (mkF m 44 #[.val (.ref a), .val (.ref ca), .val (.int (0 : Int32)), .val (.int (3 : Int32)), .val .null, .val (.ref ba)] [(.ref ba), (.ref a)])) _
    refine XS.iloadN X_6.here hx rfl (hb hby d3_44) rfl ?_
    exact ktg)
  obtain ⟨_, _, ⟨T_16, L_16, k_16, n_16⟩, -, X_16, ⟨Lc_16, hQ_16, l_16, y_16, z_16⟩, st_16⟩ := Jvm.LawKit.callS X_6 hx (y := (⟨"java/lang/StringUTF16", "coderFromArrayLen", "([BI)B"⟩ : MethodName)) hown (mvT hZ (hw _ (List.mem_of_getElem? (i := 27) rfl))) (mvT hZ (hw _ (List.mem_of_getElem? (i := 28) rfl))) (mvT hZ (hw _ (List.mem_of_getElem? (i := 21) rfl))) (mvT hZ (hw _ (List.mem_of_getElem? (i := 29) rfl))) (by decide) (backOf (W := 1) (rmcf3 l Z a0 hw [] ba kb [(.int (q0.toInt8.toInt32)), (.int (q1.toInt8.toInt32)), (.int (q2.toInt8.toInt32))] T_6.heap n0 z_13 b0) hZ (hw _ (List.mem_of_getElem? (i := 29) rfl)) (hw _ (List.mem_of_getElem? (i := 21) rfl)) (by decide) (by decide)) (g := (mkF m 45 #[.val (.ref a), .val (.ref ca), .val (.int (0 : Int32)), .val (.int (3 : Int32)), .val .null, .val (.ref ba)] [(.int (3 : Int32)), (.ref ba), (.ref a)])) rfl (by rw [hml]; rfl) (argsL := [(.ref ba), (.int (3 : Int32))]) (rest := [(.ref a)]) (lenOf pd_9 rfl) rfl (by show 2 * 0 + _ ≤ _; exact Nat.le_of_eq rfl) (hb hby d3_45) (fun _ _ => ⟨rfl, rfl, (by decide : 1 + 0 ≤ _), (by decide : 3 + 0 ≤ _)⟩)
  dsimp only [Pt.U, Pt.locs, Pt.cells, Pt.slots] at X_16 l_16 y_16 z_16 st_16 hQ_16
  subst l_16 y_16 z_16
  obtain ⟨rfl, Nq_16, eh_16⟩ := hQ_16
  have N_17 := Fr.app N_7 Nq_16
  have pre_16 : Rch p.tables e below (s₁.setTop (entryFrame m #[(.ref a), (.ref ca), (.int (0 : Int32)), (.int (3 : Int32)), .null] 6)) (T_16.setTop (mkF m 48 #[.val (.ref a), .val (.ref ca), .val (.int (0 : Int32)), .val (.int (3 : Int32)), .val .null, .val (.ref ba)] [(.int (0 : Int32)), (.ref a)])) := fun tgt ktg => pre_15 tgt (st_16 tgt ktg)
  obtain ⟨T_18, h_18, X_18, e_18, W_18, st_18⟩ := putFN X_16 hx hZ hown (hw _ (List.mem_of_getElem? (i := 30) rfl)) Via.refl eh_16 f_10 f_8 (Or.inr ⟨(hw _ (List.mem_of_getElem? (i := 31) rfl)), rfl, hnm⟩) (hw _ (List.mem_of_getElem? (i := 5) rfl)) (ty := .byte) (v' := (.int (0 : Int32))) (by decide) rfl (by decide) (g := (mkF m 48 #[.val (.ref a), .val (.ref ca), .val (.int (0 : Int32)), .val (.int (3 : Int32)), .val .null, .val (.ref ba)] [(.int (0 : Int32)), (.ref a)])) rfl rfl (hb hby d3_48)
  have pre_18 : Rch p.tables e below (s₁.setTop (entryFrame m #[(.ref a), (.ref ca), (.int (0 : Int32)), (.int (3 : Int32)), .null] 6)) (T_18.setTop (mkF m 51 #[.val (.ref a), .val (.ref ca), .val (.int (0 : Int32)), .val (.int (3 : Int32)), .val .null, .val (.ref ba)] [])) := fun tgt ktg => pre_16 tgt (st_18 tgt ktg)
  have f_19 : Exa Z h_18 a "java/lang/String" := f_8.wr W_18
  have f_20 : Fld Z h_18 a "java/lang/String" "value" "[B" .null := f_9.other W_18 (Or.inr (slot_ne (Or.inr (hw _ (List.mem_of_getElem? (i := 33) rfl))) (Or.inr (hw _ (List.mem_of_getElem? (i := 31) rfl))) (by decide) (t := (.array .byte)) (t' := .byte) (by decide) (by decide)))
  have f_21 : Sta Z h_18 "java/lang/String" "COMPACT_STRINGS" "Z" (.int cs) := f_12.wr W_18
  have f_22 : Arv Z h_18 ba kb .byte (3 : Int32) [(.int (q0.toInt8.toInt32)), (.int (q1.toInt8.toInt32)), (.int (q2.toInt8.toInt32))] (.int (0 : Int32)) := b0.other W_18 (Ne.symm nab)
  have z_23 : n0 ≤ h_18.size := Nat.le_trans z_13 (Keep.of_wr W_18).1
  have K_24 : Keep h0 h_18 [a] := K_14.wr W_18 (Or.inl (List.mem_of_getElem? (i := 0) rfl))
  have f_25 : Fld Z h_18 a "java/lang/String" "coder" "B" (.int (0 : Int32)) := f_10.same W_18
  have N_26 := Fr.snoc X_18 N_17 ga
  have pre_27 : Rch p.tables e below (s₁.setTop (entryFrame m #[(.ref a), (.ref ca), (.int (0 : Int32)), (.int (3 : Int32)), .null] 6)) (T_18.setTop (mkF m 54 #[.val (.ref a), .val (.ref ca), .val (.int (0 : Int32)), .val (.int (3 : Int32)), .val .null, .val (.ref ba)] [(.ref ba), (.ref a)])) := fun tgt ktg => pre_18 tgt (by
    show Steps p.tables e below (T_18.setTop (mkF m 51 #[.val (.ref a), .val (.ref ca), .val (.int (0 : Int32)), .val (.int (3 : Int32)), .val .null, .val (.ref ba)] [])) _
    refine XS.aloadN X_18.here hx rfl (hb hby d3_51) rfl rfl ?_
    show Steps p.tables e below (T_18.setTop (mkF m 52 #[.val (.ref a), .val (.ref ca), .val (.int (0 : Int32)), .val (.int (3 : Int32)), .val .null, .val (.ref ba)] [(.ref a)])) _
    refine XS.aload X_18.here hx rfl (hb hby d3_52) rfl rfl ?_
    exact ktg)
  obtain ⟨T_28, h_28, X_28, e_28, W_28, st_28⟩ := putF X_18 hx hZ hown (host := "") (Or.inl (hw _ (List.mem_of_getElem? (i := 32) rfl))) Via.refl e_18 f_20 f_19 (Or.inr ⟨(hw _ (List.mem_of_getElem? (i := 33) rfl)), rfl, hnm⟩) (hw _ (List.mem_of_getElem? (i := 5) rfl)) (ty := (.array .byte)) (by decide) rfl rfl (g := (mkF m 54 #[.val (.ref a), .val (.ref ca), .val (.int (0 : Int32)), .val (.int (3 : Int32)), .val .null, .val (.ref ba)] [(.ref ba), (.ref a)])) rfl rfl (hb hby d3_54)
  have pre_28 : Rch p.tables e below (s₁.setTop (entryFrame m #[(.ref a), (.ref ca), (.int (0 : Int32)), (.int (3 : Int32)), .null] 6)) (T_28.setTop (mkF m 57 #[.val (.ref a), .val (.ref ca), .val (.int (0 : Int32)), .val (.int (3 : Int32)), .val .null, .val (.ref ba)] [])) := fun tgt ktg => pre_27 tgt (st_28 tgt ktg)
  have f_29 : Exa Z h_28 a "java/lang/String" := f_19.wr W_28
  have f_30 : Sta Z h_28 "java/lang/String" "COMPACT_STRINGS" "Z" (.int cs) := f_21.wr W_28
  have f_31 : Arv Z h_28 ba kb .byte (3 : Int32) [(.int (q0.toInt8.toInt32)), (.int (q1.toInt8.toInt32)), (.int (q2.toInt8.toInt32))] (.int (0 : Int32)) := f_22.other W_28 (Ne.symm nab)
  have f_32 : Fld Z h_28 a "java/lang/String" "coder" "B" (.int (0 : Int32)) := f_25.other W_28 (Or.inr (slot_ne (Or.inr (hw _ (List.mem_of_getElem? (i := 31) rfl))) (Or.inr (hw _ (List.mem_of_getElem? (i := 33) rfl))) (by decide) (t := .byte) (t' := (.array .byte)) (by decide) (by decide)))
  have z_33 : n0 ≤ h_28.size := Nat.le_trans z_23 (Keep.of_wr W_28).1
  have K_34 : Keep h0 h_28 [a] := K_24.wr W_28 (Or.inl (List.mem_of_getElem? (i := 0) rfl))
  have f_35 : Fld Z h_28 a "java/lang/String" "value" "[B" (.ref ba) := f_20.same W_28
  have N_36 := Fr.snoc X_28 N_26 ga
  obtain ⟨fs, hr, hrun, hended, hW, hsame⟩ := X_28.leave (v := none) (fun _ => rfl)
  refine ⟨_, _, pre_28 _ ?_, hrun, hended, _, _, rfl, ?_, ⟨_, rfl⟩, hW, hsame.mono (by decide) (by decide)⟩
  · show Steps p.tables e below (T_28.setTop (mkF m 57 #[.val (.ref a), .val (.ref ca), .val (.int (0 : Int32)), .val (.int (3 : Int32)), .val .null, .val (.ref ba)] [])) _
    exact X_28.returnOut hx Bd.returns (hb hby d3_57) hr
  · show Qsv3 Z a ca q0 q1 q2 kc h0 n0 _ T_28.heap _
    rw [e_28]
    exact ⟨ba, kb, rfl, N_36, K_34, f_29, f_32, f_35, f_31⟩
theorem ef_sc3 (m : MethodId) (x0 : Addr) (x1 : Addr) : entryFrame m #[(.ref x0), (.ref x1)] 2 = mkF m 0 #[.val (.ref x0), .val (.ref x1)] [] := by first | (simp [entryFrame, mkF, argsToLocals, Value.category]; done) | rfl
def Qsc3 (Z : State) (a : Addr) (ca : Addr) (q0 : Int32) (q1 : Int32) (q2 : Int32) (kc : ClassId) (h0 : Heap) (n0 : Nat) (v : Option Value) (h : Heap) (L : List Loc) : Prop := ∃ (ba : Addr) (kb : ClassId), v = none ∧ Fr n0 L ∧ Keep h0 h [a] ∧ Exa Z h a "java/lang/String" ∧ Fld Z h a "java/lang/String" "coder" "B" (.int (0 : Int32)) ∧ Fld Z h a "java/lang/String" "value" "[B" (.ref ba) ∧ Arv Z h ba kb .byte (3 : Int32) [(.int (q0.toInt8.toInt32)), (.int (q1.toInt8.toInt32)), (.int (q2.toInt8.toInt32))] (.int (0 : Int32))
set_option maxRecDepth 65536 in
set_option maxHeartbeats 40000000 in
theorem rmsc3 (l : Launch) (Z : State) (a0 : Array Value) (hw : ∀ d ∈ tables_1, d.before a0 Z = true) (ws : List Jvm.Cond) (a : Addr) (ca : Addr) (q0 : Int32) (q1 : Int32) (q2 : Int32) (kc : ClassId) (h0 : Heap) (n0 : Nat) (Z0 : n0 ≤ h0.size) (E1 : Exa Z h0 a "java/lang/String") (F1 : Fld Z h0 a "java/lang/String" "value" "[B" .null) (F2 : Fld Z h0 a "java/lang/String" "coder" "B" (.int (0 : Int32))) (A1 : Arv Z h0 ca kc .char (3 : Int32) [(.int q0), (.int q1), (.int q2)] (.int (0 : Int32))) (nca : ca ≠ a) (ga : n0 ≤ a) (hq0 : ¬ (255 : Int32) < q0) (hq1 : ¬ (255 : Int32) < q1) (hq2 : ¬ (255 : Int32) < q2) (cs : Int32) (hcs : ¬ cs = 0) (S1 : Sta Z h0 "java/lang/String" "COMPACT_STRINGS" "Z" (.int cs)) :
    MetFree l (⟨"java/lang/String", "<init>", "([C)V"⟩ : MethodName) (head1 (Jvm.Cond.code (⟨"java/lang/String", "<init>", "([C)V"⟩ : MethodName) jdk_42_method_3_code 2 none :: ws) ({ frames := 3, cells := 1, slots := 3, locals := 57 } : Room)) (fun aA U => aA = #[(.ref a), (.ref ca)] ∧ Z.Warmed39 U.vm ∧ U.heap = h0) (fun _ _ _ _ _ => True) (fun _ U oO U' => ∃ vV LL, oO = .returned vV ∧ Qsc3 Z a ca q0 q1 q2 kc h0 n0 vV U'.heap LL ∧ FrameEnd U oO U' LL ({ frames := 3, cells := 1, slots := 3, locals := 57 } : Room).cells ({ frames := 3, cells := 1, slots := 3, locals := 57 } : Room).slots) := by
  refine MetFree.of_bodySF (plainFor_of_name pn_0) hisR ?_
  intro p e s m args below meth c s₁ Bd hml0 hP hK
  obtain ⟨rfl, hZ, hh⟩ := hP
  have hx := Bd.exec
  have hby := Bd.bytes
  have hml : c.maxLocals = 2 := hml0
  have hown : s.vm.findClass "java/lang/String" = some m.cls := findClass_of_methodNamed Bd.named
  have hnm := (name_of_methodNamed Bd.named Bd.method).1
  have X0 : Stand p l e ({ frames := 3, cells := 1, slots := 3, locals := 57 } : Room) s m #[(.ref a), (.ref ca)] below meth c s₁ [] 0 0 := Stand.of_body Bd
  have e0 : s₁.heap = h0 := by rw [← hh, Bd.state]; rfl
  have N0 := Fr.nil n0
  have K0 : Keep h0 h0 [a] := Keep.refl _ _
  have pre0 : Rch p.tables e below (s₁.setTop (entryFrame m #[(.ref a), (.ref ca)] 2)) (s₁.setTop (mkF m 0 #[.val (.ref a), .val (.ref ca)] [])) := fun tgt ktg => castTop (ef_sc3 m a ca) ktg
  have pre_1 : Rch p.tables e below (s₁.setTop (entryFrame m #[(.ref a), (.ref ca)] 2)) (s₁.setTop (mkF m 4 #[.val (.ref a), .val (.ref ca)] [(.ref ca), (.int (0 : Int32)), (.ref ca), (.ref a)])) := fun tgt ktg => pre0 tgt (by
    show Steps p.tables e below (s₁.setTop (mkF m 0 #[.val (.ref a), .val (.ref ca)] [])) _
    refine XS.aloadN X0.here hx rfl (hb hby d2_0) rfl rfl ?_
    show Steps p.tables e below (s₁.setTop (mkF m 1 #[.val (.ref a), .val (.ref ca)] [(.ref a)])) _
    refine XS.aloadN X0.here hx rfl (hb hby d2_1) rfl rfl ?_
    show Steps p.tables e below (s₁.setTop (mkF m 2 #[.val (.ref a), .val (.ref ca)] [(.ref ca), (.ref a)])) _
    refine XS.iconst X0.here hx rfl (hb hby d2_2) ?_
    show Steps p.tables e below (s₁.setTop (mkF m 3 #[.val (.ref a), .val (.ref ca)] [(.int (0 : Int32)), (.ref ca), (.ref a)])) _
    refine XS.aloadN X0.here hx rfl (hb hby d2_3) rfl rfl ?_
    exact ktg)
  obtain ⟨cl__2, Ar__2, q__2, S__2, N__2, H__2, G__2⟩ := id A1
  have pre_3 : Rch p.tables e below (s₁.setTop (entryFrame m #[(.ref a), (.ref ca)] 2)) (s₁.setTop (mkF m 5 #[.val (.ref a), .val (.ref ca)] [(.int (3 : Int32)), (.int (0 : Int32)), (.ref ca), (.ref a)])) := fun tgt ktg => pre_1 tgt (X0.arraylength hx (by rw [e0]; exact Ar__2.1) (State.isArrayOf_alike hZ.alike Ar__2.2.1) (g := (mkF m 4 #[.val (.ref a), .val (.ref ca)] [(.ref ca), (.int (0 : Int32)), (.ref ca), (.ref a)])) rfl rfl (hb hby d2_4) _ (by rw [len_of S__2 N__2]; exact ktg))
  have pre_4 : Rch p.tables e below (s₁.setTop (entryFrame m #[(.ref a), (.ref ca)] 2)) (s₁.setTop (mkF m 6 #[.val (.ref a), .val (.ref ca)] [.null, (.int (3 : Int32)), (.int (0 : Int32)), (.ref ca), (.ref a)])) := fun tgt ktg => pre_3 tgt (by
    show Steps p.tables e below (s₁.setTop (mkF m 5 #[.val (.ref a), .val (.ref ca)] [(.int (3 : Int32)), (.int (0 : Int32)), (.ref ca), (.ref a)])) _
    refine XS.aconstNull X0.here hx rfl (hb hby d2_5) ?_
    exact ktg)
  obtain ⟨_, _, ⟨T_5, L_5, k_5, n_5⟩, -, X_5, ⟨Lc_5, hQ_5, l_5, y_5, z_5⟩, st_5⟩ := X0.specialBack hx (y := (⟨"java/lang/String", "<init>", "([CIILjava/lang/Void;)V"⟩ : MethodName)) rfl hown (mvT hZ (hw _ (List.mem_of_getElem? (i := 11) rfl))) (mvT hZ (hw _ (List.mem_of_getElem? (i := 12) rfl))) (mvT hZ (hw _ (List.mem_of_getElem? (i := 14) rfl))) (by decide) (backOf (W := 0) (rmsv3 l Z a0 hw [] a ca q0 q1 q2 kc h0 n0 Z0 E1 F1 F2 A1 nca ga hq0 hq1 hq2 cs hcs S1) hZ (hw _ (List.mem_of_getElem? (i := 14) rfl)) (hw _ (List.mem_of_getElem? (i := 6) rfl)) (by decide) (by decide)) (g := (mkF m 6 #[.val (.ref a), .val (.ref ca)] [.null, (.int (3 : Int32)), (.int (0 : Int32)), (.ref ca), (.ref a)])) rfl (by rw [hml]; rfl) (Steps.refl _) (a := a) (argsL := [(.ref ca), (.int (0 : Int32)), (.int (3 : Int32)), .null]) (rest := []) (lenOf pd_10 rfl) rfl (by show 2 * 0 + _ ≤ _; exact Nat.le_of_eq rfl) (hb hby d2_6) (fun _ _ => ⟨rfl, e0, (by decide : 0 + 1 ≤ _), (by decide : 0 + 3 ≤ _)⟩)
  dsimp only [Pt.U, Pt.locs, Pt.cells, Pt.slots] at X_5 l_5 y_5 z_5 st_5 hQ_5
  subst l_5 y_5 z_5
  obtain ⟨ba, kb, rfl, Nq_5, Kq_5, b1, b2, b3, b4⟩ := hQ_5
  have N_6 := Fr.app N0 Nq_5
  have pre_5 : Rch p.tables e below (s₁.setTop (entryFrame m #[(.ref a), (.ref ca)] 2)) (T_5.setTop (mkF m 9 #[.val (.ref a), .val (.ref ca)] [])) := fun tgt ktg => pre_4 tgt (st_5.trans ktg)
  have z_7 : n0 ≤ T_5.heap.size := Nat.le_trans Z0 Kq_5.1
  have K_8 : Keep h0 T_5.heap [a] := K0.trans Kq_5 (allS (P := fun x => x ∈ [a] ∨ h0.size ≤ x) (Or.inl (List.mem_of_getElem? (i := 0) rfl)) (all0 (P := fun x => x ∈ [a] ∨ h0.size ≤ x)))
  obtain ⟨fs, hr, hrun, hended, hW, hsame⟩ := X_5.leave (v := none) (fun _ => rfl)
  refine ⟨_, _, pre_5 _ ?_, hrun, hended, _, _, rfl, ?_, ⟨_, rfl⟩, hW, hsame.mono (by decide) (by decide)⟩
  · show Steps p.tables e below (T_5.setTop (mkF m 9 #[.val (.ref a), .val (.ref ca)] [])) _
    exact X_5.returnOut hx Bd.returns (hb hby d2_9) hr
  · show Qsc3 Z a ca q0 q1 q2 kc h0 n0 _ T_5.heap _
    exact ⟨ba, kb, rfl, N_6, K_8, b1, b2, b3, b4⟩
theorem d1_0 : decode method_3_code 0 = .ok (.iload_n 0, 1) := by decide +kernel
theorem d1_1 : decode method_3_code 1 = .ok (.ifCond .ne 14, 3) := by decide +kernel
theorem d1_15 : decode method_3_code 15 = .ok (.iload_n 0, 1) := by decide +kernel
theorem d1_16 : decode method_3_code 16 = .ok (.iconst 1, 1) := by decide +kernel
theorem d1_17 : decode method_3_code 17 = .ok (.if_icmp .ne 18, 3) := by decide +kernel
theorem d1_20 : decode method_3_code 20 = .ok (.new 23, 3) := by decide +kernel
theorem d1_23 : decode method_3_code 23 = .ok (.dup, 1) := by decide +kernel
theorem d1_24 : decode method_3_code 24 = .ok (.iconst 1, 1) := by decide +kernel
theorem d1_25 : decode method_3_code 25 = .ok (.newarray .char, 2) := by decide +kernel
theorem d1_27 : decode method_3_code 27 = .ok (.dup, 1) := by decide +kernel
theorem d1_28 : decode method_3_code 28 = .ok (.iconst 0, 1) := by decide +kernel
theorem d1_29 : decode method_3_code 29 = .ok (.iload_n 1, 1) := by decide +kernel
theorem d1_30 : decode method_3_code 30 = .ok (.castore, 1) := by decide +kernel
theorem d1_31 : decode method_3_code 31 = .ok (.invokespecial 25, 3) := by decide +kernel
theorem pd_11 : parseMethodDescriptor "([C)V" = some ⟨[(.array .char)], none⟩ := by decide +kernel
theorem d1_34 : decode method_3_code 34 = .ok (.areturn, 1) := by decide +kernel
theorem pn_4 : plainName "com/example/termwell/termwell/tables/XmlTextPlainAsciiPinLaw" = true := by first | (simp [plainName, overriddenIn]; done) | decide +kernel
theorem ef_mk1 (m : MethodId) (x0 : Int32) (x1 : Int32) (x2 : Int32) (x3 : Int32) : entryFrame m #[(.int x0), (.int x1), (.int x2), (.int x3)] 4 = mkF m 0 #[.val (.int x0), .val (.int x1), .val (.int x2), .val (.int x3)] [] := by first | (simp [entryFrame, mkF, argsToLocals, Value.category]; done) | rfl
def Qmk1 (Z : State) (qa : Int32) (qb : Int32) (qc : Int32) (h0 : Heap) (n0 : Nat) (v : Option Value) (h : Heap) (L : List Loc) : Prop := ∃ (a b : Addr) (kb : ClassId), v = some (.ref a) ∧ Fr n0 L ∧ Keep h0 h [] ∧ Exa Z h a "java/lang/String" ∧ Fld Z h a "java/lang/String" "coder" "B" (.int (0 : Int32)) ∧ Fld Z h a "java/lang/String" "value" "[B" (.ref b) ∧ Arv Z h b kb .byte (1 : Int32) [(.int (qa.toInt8.toInt32))] (.int (0 : Int32))
set_option maxRecDepth 65536 in
set_option maxHeartbeats 40000000 in
theorem rmmk1 (l : Launch) (Z : State) (a0 : Array Value) (hw : ∀ d ∈ tables_1, d.before a0 Z = true) (ws : List Jvm.Cond) (qa : Int32) (qb : Int32) (qc : Int32) (h0 : Heap) (n0 : Nat) (Z0 : n0 ≤ h0.size) (cs : Int32) (hcs : ¬ cs = 0) (S1 : Sta Z h0 "java/lang/String" "COMPACT_STRINGS" "Z" (.int cs)) (hqa0 : ¬ qa < 0) (hqa : ¬ (255 : Int32) < qa) :
    MetFree l (⟨"com/example/termwell/termwell/tables/XmlTextPlainAsciiPinLaw", "make", "(ICCC)Ljava/lang/String;"⟩ : MethodName) (head1 (Jvm.Cond.code (⟨"com/example/termwell/termwell/tables/XmlTextPlainAsciiPinLaw", "make", "(ICCC)Ljava/lang/String;"⟩ : MethodName) method_3_code 4 (some (.object "java/lang/String")) :: ws) ({ frames := 4, cells := 3, slots := 6, locals := 75 } : Room)) (fun aA U => aA = #[(.int (1 : Int32)), (.int qa), (.int qb), (.int qc)] ∧ Z.Warmed39 U.vm ∧ U.heap = h0) (fun _ _ _ _ _ => True) (fun _ U oO U' => ∃ vV LL, oO = .returned vV ∧ Qmk1 Z qa qb qc h0 n0 vV U'.heap LL ∧ FrameEnd U oO U' LL ({ frames := 4, cells := 3, slots := 6, locals := 75 } : Room).cells ({ frames := 4, cells := 3, slots := 6, locals := 75 } : Room).slots) := by
  refine MetFree.of_bodySF (plainFor_of_name pn_4) hisR ?_
  intro p e s m args below meth c s₁ Bd hml0 hP hK
  obtain ⟨rfl, hZ, hh⟩ := hP
  have hx := Bd.exec
  have hby := Bd.bytes
  have hml : c.maxLocals = 4 := hml0
  have hown : s.vm.findClass "com/example/termwell/termwell/tables/XmlTextPlainAsciiPinLaw" = some m.cls := findClass_of_methodNamed Bd.named
  have hnm := (name_of_methodNamed Bd.named Bd.method).1
  have X0 : Stand p l e ({ frames := 4, cells := 3, slots := 6, locals := 75 } : Room) s m #[(.int (1 : Int32)), (.int qa), (.int qb), (.int qc)] below meth c s₁ [] 0 0 := Stand.of_body Bd
  have e0 : s₁.heap = h0 := by rw [← hh, Bd.state]; rfl
  have N0 := Fr.nil n0
  have K0 : Keep h0 h0 [] := Keep.refl _ _
  have pre0 : Rch p.tables e below (s₁.setTop (entryFrame m #[(.int (1 : Int32)), (.int qa), (.int qb), (.int qc)] 4)) (s₁.setTop (mkF m 0 #[.val (.int (1 : Int32)), .val (.int qa), .val (.int qb), .val (.int qc)] [])) := fun tgt ktg => castTop (ef_mk1 m (1 : Int32) qa qb qc) ktg
  have pre_1 : Rch p.tables e below (s₁.setTop (entryFrame m #[(.int (1 : Int32)), (.int qa), (.int qb), (.int qc)] 4)) (s₁.setTop (mkF m 20 #[.val (.int (1 : Int32)), .val (.int qa), .val (.int qb), .val (.int qc)] [])) := fun tgt ktg => pre0 tgt (by
    show Steps p.tables e below (s₁.setTop (mkF m 0 #[.val (.int (1 : Int32)), .val (.int qa), .val (.int qb), .val (.int qc)] [])) _
    refine XS.iloadN X0.here hx rfl (hb hby d1_0) rfl ?_
    show Steps p.tables e below (s₁.setTop (mkF m 1 #[.val (.int (1 : Int32)), .val (.int qa), .val (.int qb), .val (.int qc)] [(.int (1 : Int32))])) _
    refine XS.ifYes X0.here hx rfl (pc0 := 1) (pc' := 15) rfl (hb hby d1_1) rfl ((if0 _ _).trans (feq (by decide : ¬ ((1 : Int32) = (0 : Int32)))).2) (by decide) (by decide) ?_
    show Steps p.tables e below (s₁.setTop (mkF m 15 #[.val (.int (1 : Int32)), .val (.int qa), .val (.int qb), .val (.int qc)] [])) _
    refine XS.iloadN X0.here hx rfl (hb hby d1_15) rfl ?_
    show Steps p.tables e below (s₁.setTop (mkF m 16 #[.val (.int (1 : Int32)), .val (.int qa), .val (.int qb), .val (.int qc)] [(.int (1 : Int32))])) _
    refine XS.iconst X0.here hx rfl (hb hby d1_16) ?_
    show Steps p.tables e below (s₁.setTop (mkF m 17 #[.val (.int (1 : Int32)), .val (.int qa), .val (.int qb), .val (.int qc)] [(.int (1 : Int32)), (.int (1 : Int32))])) _
    refine XS.icmpNo X0.here hx rfl (hb hby d1_17) rfl (teq (rfl : (1 : Int32) = (1 : Int32))).2 ?_
    exact ktg)
  obtain ⟨T_2, h_2, X_2, e_2, E_2, A_2, D_2, U_2, st_2⟩ := newO X0 hx hZ hown (hw _ (List.mem_of_getElem? (i := 4) rfl)) (hw _ (List.mem_of_getElem? (i := 5) rfl)) (hw _ (List.mem_of_getElem? (i := 6) rfl)) e0 (g := (mkF m 20 #[.val (.int (1 : Int32)), .val (.int qa), .val (.int qb), .val (.int qc)] [])) rfl (hb hby d1_20) (by decide) (by decide)
  obtain ⟨a, g_2⟩ : ∃ nm_, nm_ = h0.size := ⟨_, rfl⟩
  rw [← g_2] at A_2 D_2 U_2 st_2
  have g_a : n0 ≤ a := Nat.le_trans Z0 (Nat.le_of_eq g_2.symm)
  have sz_a : h0.size ≤ a := Nat.le_trans K0.1 (Nat.le_of_eq g_2.symm)
  have pre_2 : Rch p.tables e below (s₁.setTop (entryFrame m #[(.int (1 : Int32)), (.int qa), (.int qb), (.int qc)] 4)) (T_2.setTop (mkF m 23 #[.val (.int (1 : Int32)), .val (.int qa), .val (.int qb), .val (.int qc)] [(.ref a)])) := fun tgt ktg => pre_1 tgt (st_2 tgt ktg)
  have z_3 : n0 ≤ h_2.size := Nat.le_trans Z0 E_2.1
  have K_4 : Keep h0 h_2 [] := K0.ext E_2
  have f_5 : Exa Z h_2 a "java/lang/String" := A_2
  have f_6 : Fld Z h_2 a "java/lang/String" "coder" "B" (.int (0 : Int32)) := D_2 (Or.inr (hw _ (List.mem_of_getElem? (i := 31) rfl))) (ty := .byte) (by decide)
  have f_7 : Fld Z h_2 a "java/lang/String" "value" "[B" .null := D_2 (Or.inr (hw _ (List.mem_of_getElem? (i := 33) rfl))) (ty := (.array .byte)) (by decide)
  have pre_8 : Rch p.tables e below (s₁.setTop (entryFrame m #[(.int (1 : Int32)), (.int qa), (.int qb), (.int qc)] 4)) (T_2.setTop (mkF m 25 #[.val (.int (1 : Int32)), .val (.int qa), .val (.int qb), .val (.int qc)] [(.int (1 : Int32)), (.ref a), (.ref a)])) := fun tgt ktg => pre_2 tgt (by
    show Steps p.tables e below (T_2.setTop (mkF m 23 #[.val (.int (1 : Int32)), .val (.int qa), .val (.int qb), .val (.int qc)] [(.ref a)])) _
    refine XS.dup X_2.here hx rfl (hb hby d1_23) rfl rfl ?_
    show Steps p.tables e below (T_2.setTop (mkF m 24 #[.val (.int (1 : Int32)), .val (.int qa), .val (.int qb), .val (.int qc)] [(.ref a), (.ref a)])) _
    refine XS.iconst X_2.here hx rfl (hb hby d1_24) ?_
    exact ktg)
  obtain ⟨T_9, h_9, k_9, X_9, e_9, E_9, A_9, st_9⟩ := newP X_2 hx hZ (hw _ (List.mem_of_getElem? (i := 7) rfl)) e_2 (g := (mkF m 25 #[.val (.int (1 : Int32)), .val (.int qa), .val (.int qb), .val (.int qc)] [(.int (1 : Int32)), (.ref a), (.ref a)])) rfl (hb hby d1_25) rfl (by decide) (cap := 1) (by decide) (by decide) (by decide) (by decide)
  obtain ⟨ca, g_9⟩ : ∃ nm_, nm_ = h_2.size := ⟨_, rfl⟩
  rw [← g_9] at A_9 st_9
  have ne_a_ca : a ≠ ca := Nat.ne_of_lt (Nat.lt_of_lt_of_le f_5.lt (Nat.le_of_eq g_9.symm))
  have g_ca : n0 ≤ ca := Nat.le_trans z_3 (Nat.le_of_eq g_9.symm)
  have sz_ca : h0.size ≤ ca := Nat.le_trans K_4.1 (Nat.le_of_eq g_9.symm)
  have pre_9 : Rch p.tables e below (s₁.setTop (entryFrame m #[(.int (1 : Int32)), (.int qa), (.int qb), (.int qc)] 4)) (T_9.setTop (mkF m 27 #[.val (.int (1 : Int32)), .val (.int qa), .val (.int qb), .val (.int qc)] [(.ref ca), (.ref a), (.ref a)])) := fun tgt ktg => pre_8 tgt (st_9 tgt ktg)
  have f_10 : Exa Z h_9 a "java/lang/String" := f_5.ext E_9
  have f_11 : Fld Z h_9 a "java/lang/String" "coder" "B" (.int (0 : Int32)) := f_6.ext E_9
  have f_12 : Fld Z h_9 a "java/lang/String" "value" "[B" .null := f_7.ext E_9
  have z_13 : n0 ≤ h_9.size := Nat.le_trans z_3 E_9.1
  have K_14 : Keep h0 h_9 [] := K_4.ext E_9
  have f_15 : Arv Z h_9 ca k_9 .char (1 : Int32) [(.int (0 : Int32))] (.int (0 : Int32)) := (Arv.new A_9 (by decide)).pad (pad_rep [] (.int (0 : Int32)) 1)
  have pre_16 : Rch p.tables e below (s₁.setTop (entryFrame m #[(.int (1 : Int32)), (.int qa), (.int qb), (.int qc)] 4)) (T_9.setTop (mkF m 30 #[.val (.int (1 : Int32)), .val (.int qa), .val (.int qb), .val (.int qc)] [(.int qa), (.int (0 : Int32)), (.ref ca), (.ref ca), (.ref a), (.ref a)])) := fun tgt ktg => pre_9 tgt (by
    show Steps p.tables e below (T_9.setTop (mkF m 27 #[.val (.int (1 : Int32)), .val (.int qa), .val (.int qb), .val (.int qc)] [(.ref ca), (.ref a), (.ref a)])) _
    refine XS.dup X_9.here hx rfl (hb hby d1_27) rfl rfl ?_
    show Steps p.tables e below (T_9.setTop (mkF m 28 #[.val (.int (1 : Int32)), .val (.int qa), .val (.int qb), .val (.int qc)] [(.ref ca), (.ref ca), (.ref a), (.ref a)])) _
    refine XS.iconst X_9.here hx rfl (hb hby d1_28) ?_
    show Steps p.tables e below (T_9.setTop (mkF m 29 #[.val (.int (1 : Int32)), .val (.int qa), .val (.int qb), .val (.int qc)] [(.int (0 : Int32)), (.ref ca), (.ref ca), (.ref a), (.ref a)])) _
    refine XS.iloadN X_9.here hx rfl (hb hby d1_29) rfl ?_
    exact ktg)
  obtain ⟨cl__17, Ar__17, q__17, S__17, N__17, H__17, G__17⟩ := id f_15
  have hin__17 : ¬ ((0 : Int32) < 0 ∨ cl__17.slots.size ≤ ((0 : Int32)).toNatClampNeg) := inb_of S__17 ⟨by decide, by decide⟩
  obtain ⟨T_18, h_18, X_18, e_18, W_18, st_18⟩ := stC X_9 hx hZ e_9 Ar__17 (j := (0 : Int32)) hin__17 (g := (mkF m 30 #[.val (.int (1 : Int32)), .val (.int qa), .val (.int qb), .val (.int qc)] [(.int qa), (.int (0 : Int32)), (.ref ca), (.ref ca), (.ref a), (.ref a)])) rfl rfl (hb hby d1_30)
  have pre_18 : Rch p.tables e below (s₁.setTop (entryFrame m #[(.int (1 : Int32)), (.int qa), (.int qb), (.int qc)] 4)) (T_18.setTop (mkF m 31 #[.val (.int (1 : Int32)), .val (.int qa), .val (.int qb), .val (.int qc)] [(.ref ca), (.ref a), (.ref a)])) := fun tgt ktg => pre_16 tgt (st_18 tgt ktg)
  have f_19 : Exa Z h_18 a "java/lang/String" := f_10.wr W_18
  have f_20 : Fld Z h_18 a "java/lang/String" "coder" "B" (.int (0 : Int32)) := f_11.other W_18 (Or.inl ne_a_ca)
  have f_21 : Fld Z h_18 a "java/lang/String" "value" "[B" .null := f_12.other W_18 (Or.inl ne_a_ca)
  have z_22 : n0 ≤ h_18.size := Nat.le_trans z_13 (Keep.of_wr W_18).1
  have K_23 : Keep h0 h_18 [] := K_14.wr W_18 (Or.inr sz_ca)
  have f_24 : Arv Z h_18 ca k_9 .char (1 : Int32) [(.int (nar .char qa))] (.int (0 : Int32)) := Arv.set Ar__17 q__17 S__17 N__17 H__17 G__17 (fits_nar_char _) W_18 0 rfl (Nat.le_of_ble_eq_true rfl)
  have N_25 := Fr.snoc X_18 N0 g_ca
  rw [own_narc hqa0 hqa] at f_24
  obtain ⟨_, _, ⟨T_26, L_26, k_26, n_26⟩, -, X_26, ⟨Lc_26, hQ_26, l_26, y_26, z_26⟩, st_26⟩ := X_18.specialBack hx (y := (⟨"java/lang/String", "<init>", "([C)V"⟩ : MethodName)) rfl hown (mvT hZ (hw _ (List.mem_of_getElem? (i := 8) rfl))) (mvT hZ (hw _ (List.mem_of_getElem? (i := 9) rfl))) (mvT hZ (hw _ (List.mem_of_getElem? (i := 10) rfl))) (by decide) (backOf (W := 1) (rmsc1 l Z a0 hw [] a ca qa k_9 h_18 n0 z_22 f_19 f_21 f_20 f_24 (Ne.symm ne_a_ca) g_a hqa cs hcs (own_sta_keep S1 K_23 ns0)) hZ (hw _ (List.mem_of_getElem? (i := 10) rfl)) (hw _ (List.mem_of_getElem? (i := 6) rfl)) (by decide) (by decide)) (g := (mkF m 31 #[.val (.int (1 : Int32)), .val (.int qa), .val (.int qb), .val (.int qc)] [(.ref ca), (.ref a), (.ref a)])) rfl (by rw [hml]; rfl) (Steps.refl _) (a := a) (argsL := [(.ref ca)]) (rest := [(.ref a)]) (lenOf pd_11 rfl) rfl (by show 2 * 0 + _ ≤ _; exact Nat.le_of_eq rfl) (hb hby d1_31) (fun _ _ => ⟨rfl, e_18, (by decide : 2 + 1 ≤ _), (by decide : 5 + 1 ≤ _)⟩)
  dsimp only [Pt.U, Pt.locs, Pt.cells, Pt.slots] at X_26 l_26 y_26 z_26 st_26 hQ_26
  subst l_26 y_26 z_26
  obtain ⟨ba, kb, rfl, Nq_26, Kq_26, b1, b2, b3, b4⟩ := hQ_26
  have N_27 := Fr.app N_25 Nq_26
  have pre_26 : Rch p.tables e below (s₁.setTop (entryFrame m #[(.int (1 : Int32)), (.int qa), (.int qb), (.int qc)] 4)) (T_26.setTop (mkF m 34 #[.val (.int (1 : Int32)), .val (.int qa), .val (.int qb), .val (.int qc)] [(.ref a)])) := fun tgt ktg => pre_18 tgt (st_26.trans ktg)
  have z_28 : n0 ≤ T_26.heap.size := Nat.le_trans z_22 Kq_26.1
  have K_29 : Keep h0 T_26.heap [] := K_23.trans Kq_26 (allS (P := fun x => x ∈ ([] : List Addr) ∨ h0.size ≤ x) (Or.inr sz_a) (all0 (P := fun x => x ∈ ([] : List Addr) ∨ h0.size ≤ x)))
  obtain ⟨fs, hr, hrun, hended, hW, hsame⟩ := X_26.leave (v := some (.ref a)) (fun h => by rw [Bd.returns] at h; cases h)
  refine ⟨_, _, pre_26 _ ?_, hrun, hended, _, _, rfl, ?_, ⟨_, rfl⟩, hW, hsame.mono (by decide) (by decide)⟩
  · show Steps p.tables e below (T_26.setTop (mkF m 34 #[.val (.int (1 : Int32)), .val (.int qa), .val (.int qb), .val (.int qc)] [(.ref a)])) _
    jvm_step X_26.here [X_26.here.top, hx, (hb hby d1_34), X_26.method', Bd.returns, Value.isRef, FieldType.isReference]
    first | (intro acts; rw [hr _ acts rfl rfl rfl]) | rw [hr _ _ rfl rfl rfl]
    exact Steps.refl _
  · show Qmk1 Z qa qb qc h0 n0 _ T_26.heap _
    exact ⟨a, ba, kb, rfl, N_27, K_29, b1, b2, b3, b4⟩
theorem d1_35 : decode method_3_code 35 = .ok (.iload_n 0, 1) := by decide +kernel
theorem d1_36 : decode method_3_code 36 = .ok (.iconst 2, 1) := by decide +kernel
theorem d1_37 : decode method_3_code 37 = .ok (.if_icmp .ne 22, 3) := by decide +kernel
theorem d1_40 : decode method_3_code 40 = .ok (.new 23, 3) := by decide +kernel
theorem d1_43 : decode method_3_code 43 = .ok (.dup, 1) := by decide +kernel
theorem d1_44 : decode method_3_code 44 = .ok (.iconst 2, 1) := by decide +kernel
theorem d1_45 : decode method_3_code 45 = .ok (.newarray .char, 2) := by decide +kernel
theorem d1_47 : decode method_3_code 47 = .ok (.dup, 1) := by decide +kernel
theorem d1_48 : decode method_3_code 48 = .ok (.iconst 0, 1) := by decide +kernel
theorem d1_49 : decode method_3_code 49 = .ok (.iload_n 1, 1) := by decide +kernel
theorem d1_50 : decode method_3_code 50 = .ok (.castore, 1) := by decide +kernel
theorem d1_51 : decode method_3_code 51 = .ok (.dup, 1) := by decide +kernel
theorem d1_52 : decode method_3_code 52 = .ok (.iconst 1, 1) := by decide +kernel
theorem d1_53 : decode method_3_code 53 = .ok (.iload_n 2, 1) := by decide +kernel
theorem d1_54 : decode method_3_code 54 = .ok (.castore, 1) := by decide +kernel
theorem d1_55 : decode method_3_code 55 = .ok (.invokespecial 25, 3) := by decide +kernel
theorem d1_58 : decode method_3_code 58 = .ok (.areturn, 1) := by decide +kernel
theorem ef_mk2 (m : MethodId) (x0 : Int32) (x1 : Int32) (x2 : Int32) (x3 : Int32) : entryFrame m #[(.int x0), (.int x1), (.int x2), (.int x3)] 4 = mkF m 0 #[.val (.int x0), .val (.int x1), .val (.int x2), .val (.int x3)] [] := by first | (simp [entryFrame, mkF, argsToLocals, Value.category]; done) | rfl
def Qmk2 (Z : State) (qa : Int32) (qb : Int32) (qc : Int32) (h0 : Heap) (n0 : Nat) (v : Option Value) (h : Heap) (L : List Loc) : Prop := ∃ (a b : Addr) (kb : ClassId), v = some (.ref a) ∧ Fr n0 L ∧ Keep h0 h [] ∧ Exa Z h a "java/lang/String" ∧ Fld Z h a "java/lang/String" "coder" "B" (.int (0 : Int32)) ∧ Fld Z h a "java/lang/String" "value" "[B" (.ref b) ∧ Arv Z h b kb .byte (2 : Int32) [(.int (qa.toInt8.toInt32)), (.int (qb.toInt8.toInt32))] (.int (0 : Int32))
set_option maxRecDepth 65536 in
set_option maxHeartbeats 40000000 in
theorem rmmk2 (l : Launch) (Z : State) (a0 : Array Value) (hw : ∀ d ∈ tables_1, d.before a0 Z = true) (ws : List Jvm.Cond) (qa : Int32) (qb : Int32) (qc : Int32) (h0 : Heap) (n0 : Nat) (Z0 : n0 ≤ h0.size) (cs : Int32) (hcs : ¬ cs = 0) (S1 : Sta Z h0 "java/lang/String" "COMPACT_STRINGS" "Z" (.int cs)) (hqa0 : ¬ qa < 0) (hqa : ¬ (255 : Int32) < qa) (hqb0 : ¬ qb < 0) (hqb : ¬ (255 : Int32) < qb) :
    MetFree l (⟨"com/example/termwell/termwell/tables/XmlTextPlainAsciiPinLaw", "make", "(ICCC)Ljava/lang/String;"⟩ : MethodName) (head1 (Jvm.Cond.code (⟨"com/example/termwell/termwell/tables/XmlTextPlainAsciiPinLaw", "make", "(ICCC)Ljava/lang/String;"⟩ : MethodName) method_3_code 4 (some (.object "java/lang/String")) :: ws) ({ frames := 4, cells := 3, slots := 8, locals := 75 } : Room)) (fun aA U => aA = #[(.int (2 : Int32)), (.int qa), (.int qb), (.int qc)] ∧ Z.Warmed39 U.vm ∧ U.heap = h0) (fun _ _ _ _ _ => True) (fun _ U oO U' => ∃ vV LL, oO = .returned vV ∧ Qmk2 Z qa qb qc h0 n0 vV U'.heap LL ∧ FrameEnd U oO U' LL ({ frames := 4, cells := 3, slots := 8, locals := 75 } : Room).cells ({ frames := 4, cells := 3, slots := 8, locals := 75 } : Room).slots) := by
  refine MetFree.of_bodySF (plainFor_of_name pn_4) hisR ?_
  intro p e s m args below meth c s₁ Bd hml0 hP hK
  obtain ⟨rfl, hZ, hh⟩ := hP
  have hx := Bd.exec
  have hby := Bd.bytes
  have hml : c.maxLocals = 4 := hml0
  have hown : s.vm.findClass "com/example/termwell/termwell/tables/XmlTextPlainAsciiPinLaw" = some m.cls := findClass_of_methodNamed Bd.named
  have hnm := (name_of_methodNamed Bd.named Bd.method).1
  have X0 : Stand p l e ({ frames := 4, cells := 3, slots := 8, locals := 75 } : Room) s m #[(.int (2 : Int32)), (.int qa), (.int qb), (.int qc)] below meth c s₁ [] 0 0 := Stand.of_body Bd
  have e0 : s₁.heap = h0 := by rw [← hh, Bd.state]; rfl
  have N0 := Fr.nil n0
  have K0 : Keep h0 h0 [] := Keep.refl _ _
  have pre0 : Rch p.tables e below (s₁.setTop (entryFrame m #[(.int (2 : Int32)), (.int qa), (.int qb), (.int qc)] 4)) (s₁.setTop (mkF m 0 #[.val (.int (2 : Int32)), .val (.int qa), .val (.int qb), .val (.int qc)] [])) := fun tgt ktg => castTop (ef_mk2 m (2 : Int32) qa qb qc) ktg
  have pre_1 : Rch p.tables e below (s₁.setTop (entryFrame m #[(.int (2 : Int32)), (.int qa), (.int qb), (.int qc)] 4)) (s₁.setTop (mkF m 40 #[.val (.int (2 : Int32)), .val (.int qa), .val (.int qb), .val (.int qc)] [])) := fun tgt ktg => pre0 tgt (by
    show Steps p.tables e below (s₁.setTop (mkF m 0 #[.val (.int (2 : Int32)), .val (.int qa), .val (.int qb), .val (.int qc)] [])) _
    refine XS.iloadN X0.here hx rfl (hb hby d1_0) rfl ?_
    show Steps p.tables e below (s₁.setTop (mkF m 1 #[.val (.int (2 : Int32)), .val (.int qa), .val (.int qb), .val (.int qc)] [(.int (2 : Int32))])) _
    refine XS.ifYes X0.here hx rfl (pc0 := 1) (pc' := 15) rfl (hb hby d1_1) rfl ((if0 _ _).trans (feq (by decide : ¬ ((2 : Int32) = (0 : Int32)))).2) (by decide) (by decide) ?_
    show Steps p.tables e below (s₁.setTop (mkF m 15 #[.val (.int (2 : Int32)), .val (.int qa), .val (.int qb), .val (.int qc)] [])) _
    refine XS.iloadN X0.here hx rfl (hb hby d1_15) rfl ?_
    show Steps p.tables e below (s₁.setTop (mkF m 16 #[.val (.int (2 : Int32)), .val (.int qa), .val (.int qb), .val (.int qc)] [(.int (2 : Int32))])) _
    refine XS.iconst X0.here hx rfl (hb hby d1_16) ?_
    show Steps p.tables e below (s₁.setTop (mkF m 17 #[.val (.int (2 : Int32)), .val (.int qa), .val (.int qb), .val (.int qc)] [(.int (1 : Int32)), (.int (2 : Int32))])) _
    refine XS.icmpYes X0.here hx rfl (pc0 := 17) (pc' := 35) rfl (hb hby d1_17) rfl (feq (by decide : ¬ ((2 : Int32) = (1 : Int32)))).2 (by decide) (by decide) ?_
    show Steps p.tables e below (s₁.setTop (mkF m 35 #[.val (.int (2 : Int32)), .val (.int qa), .val (.int qb), .val (.int qc)] [])) _
    refine XS.iloadN X0.here hx rfl (hb hby d1_35) rfl ?_
    show Steps p.tables e below (s₁.setTop (mkF m 36 #[.val (.int (2 : Int32)), .val (.int qa), .val (.int qb), .val (.int qc)] [(.int (2 : Int32))])) _
    refine XS.iconst X0.here hx rfl (hb hby d1_36) ?_
    show Steps p.tables e below (s₁.setTop (mkF m 37 #[.val (.int (2 : Int32)), .val (.int qa), .val (.int qb), .val (.int qc)] [(.int (2 : Int32)), (.int (2 : Int32))])) _
    refine XS.icmpNo X0.here hx rfl (hb hby d1_37) rfl (teq (rfl : (2 : Int32) = (2 : Int32))).2 ?_
    exact ktg)
  obtain ⟨T_2, h_2, X_2, e_2, E_2, A_2, D_2, U_2, st_2⟩ := newO X0 hx hZ hown (hw _ (List.mem_of_getElem? (i := 4) rfl)) (hw _ (List.mem_of_getElem? (i := 5) rfl)) (hw _ (List.mem_of_getElem? (i := 6) rfl)) e0 (g := (mkF m 40 #[.val (.int (2 : Int32)), .val (.int qa), .val (.int qb), .val (.int qc)] [])) rfl (hb hby d1_40) (by decide) (by decide)
  obtain ⟨a, g_2⟩ : ∃ nm_, nm_ = h0.size := ⟨_, rfl⟩
  rw [← g_2] at A_2 D_2 U_2 st_2
  have g_a : n0 ≤ a := Nat.le_trans Z0 (Nat.le_of_eq g_2.symm)
  have sz_a : h0.size ≤ a := Nat.le_trans K0.1 (Nat.le_of_eq g_2.symm)
  have pre_2 : Rch p.tables e below (s₁.setTop (entryFrame m #[(.int (2 : Int32)), (.int qa), (.int qb), (.int qc)] 4)) (T_2.setTop (mkF m 43 #[.val (.int (2 : Int32)), .val (.int qa), .val (.int qb), .val (.int qc)] [(.ref a)])) := fun tgt ktg => pre_1 tgt (st_2 tgt ktg)
  have z_3 : n0 ≤ h_2.size := Nat.le_trans Z0 E_2.1
  have K_4 : Keep h0 h_2 [] := K0.ext E_2
  have f_5 : Exa Z h_2 a "java/lang/String" := A_2
  have f_6 : Fld Z h_2 a "java/lang/String" "coder" "B" (.int (0 : Int32)) := D_2 (Or.inr (hw _ (List.mem_of_getElem? (i := 31) rfl))) (ty := .byte) (by decide)
  have f_7 : Fld Z h_2 a "java/lang/String" "value" "[B" .null := D_2 (Or.inr (hw _ (List.mem_of_getElem? (i := 33) rfl))) (ty := (.array .byte)) (by decide)
  have pre_8 : Rch p.tables e below (s₁.setTop (entryFrame m #[(.int (2 : Int32)), (.int qa), (.int qb), (.int qc)] 4)) (T_2.setTop (mkF m 45 #[.val (.int (2 : Int32)), .val (.int qa), .val (.int qb), .val (.int qc)] [(.int (2 : Int32)), (.ref a), (.ref a)])) := fun tgt ktg => pre_2 tgt (by
    show Steps p.tables e below (T_2.setTop (mkF m 43 #[.val (.int (2 : Int32)), .val (.int qa), .val (.int qb), .val (.int qc)] [(.ref a)])) _
    refine XS.dup X_2.here hx rfl (hb hby d1_43) rfl rfl ?_
    show Steps p.tables e below (T_2.setTop (mkF m 44 #[.val (.int (2 : Int32)), .val (.int qa), .val (.int qb), .val (.int qc)] [(.ref a), (.ref a)])) _
    refine XS.iconst X_2.here hx rfl (hb hby d1_44) ?_
    exact ktg)
  obtain ⟨T_9, h_9, k_9, X_9, e_9, E_9, A_9, st_9⟩ := newP X_2 hx hZ (hw _ (List.mem_of_getElem? (i := 7) rfl)) e_2 (g := (mkF m 45 #[.val (.int (2 : Int32)), .val (.int qa), .val (.int qb), .val (.int qc)] [(.int (2 : Int32)), (.ref a), (.ref a)])) rfl (hb hby d1_45) rfl (by decide) (cap := 2) (by decide) (by decide) (by decide) (by decide)
  obtain ⟨ca, g_9⟩ : ∃ nm_, nm_ = h_2.size := ⟨_, rfl⟩
  rw [← g_9] at A_9 st_9
  have ne_a_ca : a ≠ ca := Nat.ne_of_lt (Nat.lt_of_lt_of_le f_5.lt (Nat.le_of_eq g_9.symm))
  have g_ca : n0 ≤ ca := Nat.le_trans z_3 (Nat.le_of_eq g_9.symm)
  have sz_ca : h0.size ≤ ca := Nat.le_trans K_4.1 (Nat.le_of_eq g_9.symm)
  have pre_9 : Rch p.tables e below (s₁.setTop (entryFrame m #[(.int (2 : Int32)), (.int qa), (.int qb), (.int qc)] 4)) (T_9.setTop (mkF m 47 #[.val (.int (2 : Int32)), .val (.int qa), .val (.int qb), .val (.int qc)] [(.ref ca), (.ref a), (.ref a)])) := fun tgt ktg => pre_8 tgt (st_9 tgt ktg)
  have f_10 : Exa Z h_9 a "java/lang/String" := f_5.ext E_9
  have f_11 : Fld Z h_9 a "java/lang/String" "coder" "B" (.int (0 : Int32)) := f_6.ext E_9
  have f_12 : Fld Z h_9 a "java/lang/String" "value" "[B" .null := f_7.ext E_9
  have z_13 : n0 ≤ h_9.size := Nat.le_trans z_3 E_9.1
  have K_14 : Keep h0 h_9 [] := K_4.ext E_9
  have f_15 : Arv Z h_9 ca k_9 .char (2 : Int32) [(.int (0 : Int32)), (.int (0 : Int32))] (.int (0 : Int32)) := (Arv.new A_9 (by decide)).pad (pad_rep [] (.int (0 : Int32)) 2)
  have pre_16 : Rch p.tables e below (s₁.setTop (entryFrame m #[(.int (2 : Int32)), (.int qa), (.int qb), (.int qc)] 4)) (T_9.setTop (mkF m 50 #[.val (.int (2 : Int32)), .val (.int qa), .val (.int qb), .val (.int qc)] [(.int qa), (.int (0 : Int32)), (.ref ca), (.ref ca), (.ref a), (.ref a)])) := fun tgt ktg => pre_9 tgt (by
    show Steps p.tables e below (T_9.setTop (mkF m 47 #[.val (.int (2 : Int32)), .val (.int qa), .val (.int qb), .val (.int qc)] [(.ref ca), (.ref a), (.ref a)])) _
    refine XS.dup X_9.here hx rfl (hb hby d1_47) rfl rfl ?_
    show Steps p.tables e below (T_9.setTop (mkF m 48 #[.val (.int (2 : Int32)), .val (.int qa), .val (.int qb), .val (.int qc)] [(.ref ca), (.ref ca), (.ref a), (.ref a)])) _
    refine XS.iconst X_9.here hx rfl (hb hby d1_48) ?_
    show Steps p.tables e below (T_9.setTop (mkF m 49 #[.val (.int (2 : Int32)), .val (.int qa), .val (.int qb), .val (.int qc)] [(.int (0 : Int32)), (.ref ca), (.ref ca), (.ref a), (.ref a)])) _
    refine XS.iloadN X_9.here hx rfl (hb hby d1_49) rfl ?_
    exact ktg)
  obtain ⟨cl__17, Ar__17, q__17, S__17, N__17, H__17, G__17⟩ := id f_15
  have hin__17 : ¬ ((0 : Int32) < 0 ∨ cl__17.slots.size ≤ ((0 : Int32)).toNatClampNeg) := inb_of S__17 ⟨by decide, by decide⟩
  obtain ⟨T_18, h_18, X_18, e_18, W_18, st_18⟩ := stC X_9 hx hZ e_9 Ar__17 (j := (0 : Int32)) hin__17 (g := (mkF m 50 #[.val (.int (2 : Int32)), .val (.int qa), .val (.int qb), .val (.int qc)] [(.int qa), (.int (0 : Int32)), (.ref ca), (.ref ca), (.ref a), (.ref a)])) rfl rfl (hb hby d1_50)
  have pre_18 : Rch p.tables e below (s₁.setTop (entryFrame m #[(.int (2 : Int32)), (.int qa), (.int qb), (.int qc)] 4)) (T_18.setTop (mkF m 51 #[.val (.int (2 : Int32)), .val (.int qa), .val (.int qb), .val (.int qc)] [(.ref ca), (.ref a), (.ref a)])) := fun tgt ktg => pre_16 tgt (st_18 tgt ktg)
  have f_19 : Exa Z h_18 a "java/lang/String" := f_10.wr W_18
  have f_20 : Fld Z h_18 a "java/lang/String" "coder" "B" (.int (0 : Int32)) := f_11.other W_18 (Or.inl ne_a_ca)
  have f_21 : Fld Z h_18 a "java/lang/String" "value" "[B" .null := f_12.other W_18 (Or.inl ne_a_ca)
  have z_22 : n0 ≤ h_18.size := Nat.le_trans z_13 (Keep.of_wr W_18).1
  have K_23 : Keep h0 h_18 [] := K_14.wr W_18 (Or.inr sz_ca)
  have f_24 : Arv Z h_18 ca k_9 .char (2 : Int32) [(.int (nar .char qa)), (.int (0 : Int32))] (.int (0 : Int32)) := Arv.set Ar__17 q__17 S__17 N__17 H__17 G__17 (fits_nar_char _) W_18 0 rfl (Nat.le_of_ble_eq_true rfl)
  have N_25 := Fr.snoc X_18 N0 g_ca
  rw [own_narc hqa0 hqa] at f_24
  have pre_26 : Rch p.tables e below (s₁.setTop (entryFrame m #[(.int (2 : Int32)), (.int qa), (.int qb), (.int qc)] 4)) (T_18.setTop (mkF m 54 #[.val (.int (2 : Int32)), .val (.int qa), .val (.int qb), .val (.int qc)] [(.int qb), (.int (1 : Int32)), (.ref ca), (.ref ca), (.ref a), (.ref a)])) := fun tgt ktg => pre_18 tgt (by
    show Steps p.tables e below (T_18.setTop (mkF m 51 #[.val (.int (2 : Int32)), .val (.int qa), .val (.int qb), .val (.int qc)] [(.ref ca), (.ref a), (.ref a)])) _
    refine XS.dup X_18.here hx rfl (hb hby d1_51) rfl rfl ?_
    show Steps p.tables e below (T_18.setTop (mkF m 52 #[.val (.int (2 : Int32)), .val (.int qa), .val (.int qb), .val (.int qc)] [(.ref ca), (.ref ca), (.ref a), (.ref a)])) _
    refine XS.iconst X_18.here hx rfl (hb hby d1_52) ?_
    show Steps p.tables e below (T_18.setTop (mkF m 53 #[.val (.int (2 : Int32)), .val (.int qa), .val (.int qb), .val (.int qc)] [(.int (1 : Int32)), (.ref ca), (.ref ca), (.ref a), (.ref a)])) _
    refine XS.iloadN X_18.here hx rfl (hb hby d1_53) rfl ?_
    exact ktg)
  obtain ⟨cl__27, Ar__27, q__27, S__27, N__27, H__27, G__27⟩ := id f_24
  have hin__27 : ¬ ((1 : Int32) < 0 ∨ cl__27.slots.size ≤ ((1 : Int32)).toNatClampNeg) := inb_of S__27 ⟨by decide, by decide⟩
  obtain ⟨T_28, h_28, X_28, e_28, W_28, st_28⟩ := stC X_18 hx hZ e_18 Ar__27 (j := (1 : Int32)) hin__27 (g := (mkF m 54 #[.val (.int (2 : Int32)), .val (.int qa), .val (.int qb), .val (.int qc)] [(.int qb), (.int (1 : Int32)), (.ref ca), (.ref ca), (.ref a), (.ref a)])) rfl rfl (hb hby d1_54)
  have pre_28 : Rch p.tables e below (s₁.setTop (entryFrame m #[(.int (2 : Int32)), (.int qa), (.int qb), (.int qc)] 4)) (T_28.setTop (mkF m 55 #[.val (.int (2 : Int32)), .val (.int qa), .val (.int qb), .val (.int qc)] [(.ref ca), (.ref a), (.ref a)])) := fun tgt ktg => pre_26 tgt (st_28 tgt ktg)
  have f_29 : Exa Z h_28 a "java/lang/String" := f_19.wr W_28
  have f_30 : Fld Z h_28 a "java/lang/String" "coder" "B" (.int (0 : Int32)) := f_20.other W_28 (Or.inl ne_a_ca)
  have f_31 : Fld Z h_28 a "java/lang/String" "value" "[B" .null := f_21.other W_28 (Or.inl ne_a_ca)
  have z_32 : n0 ≤ h_28.size := Nat.le_trans z_22 (Keep.of_wr W_28).1
  have K_33 : Keep h0 h_28 [] := K_23.wr W_28 (Or.inr sz_ca)
  have f_34 : Arv Z h_28 ca k_9 .char (2 : Int32) [(.int qa), (.int (nar .char qb))] (.int (0 : Int32)) := Arv.set Ar__27 q__27 S__27 N__27 H__27 G__27 (fits_nar_char _) W_28 1 rfl (Nat.le_of_ble_eq_true rfl)
  have N_35 := Fr.snoc X_28 N_25 g_ca
  rw [own_narc hqb0 hqb] at f_34
  obtain ⟨_, _, ⟨T_36, L_36, k_36, n_36⟩, -, X_36, ⟨Lc_36, hQ_36, l_36, y_36, z_36⟩, st_36⟩ := X_28.specialBack hx (y := (⟨"java/lang/String", "<init>", "([C)V"⟩ : MethodName)) rfl hown (mvT hZ (hw _ (List.mem_of_getElem? (i := 8) rfl))) (mvT hZ (hw _ (List.mem_of_getElem? (i := 9) rfl))) (mvT hZ (hw _ (List.mem_of_getElem? (i := 10) rfl))) (by decide) (backOf (W := 1) (rmsc2 l Z a0 hw [] a ca qa qb k_9 h_28 n0 z_32 f_29 f_31 f_30 f_34 (Ne.symm ne_a_ca) g_a hqa hqb cs hcs (own_sta_keep S1 K_33 ns0)) hZ (hw _ (List.mem_of_getElem? (i := 10) rfl)) (hw _ (List.mem_of_getElem? (i := 6) rfl)) (by decide) (by decide)) (g := (mkF m 55 #[.val (.int (2 : Int32)), .val (.int qa), .val (.int qb), .val (.int qc)] [(.ref ca), (.ref a), (.ref a)])) rfl (by rw [hml]; rfl) (Steps.refl _) (a := a) (argsL := [(.ref ca)]) (rest := [(.ref a)]) (lenOf pd_11 rfl) rfl (by show 2 * 0 + _ ≤ _; exact Nat.le_of_eq rfl) (hb hby d1_55) (fun _ _ => ⟨rfl, e_28, (by decide : 2 + 1 ≤ _), (by decide : 6 + 2 ≤ _)⟩)
  dsimp only [Pt.U, Pt.locs, Pt.cells, Pt.slots] at X_36 l_36 y_36 z_36 st_36 hQ_36
  subst l_36 y_36 z_36
  obtain ⟨ba, kb, rfl, Nq_36, Kq_36, b1, b2, b3, b4⟩ := hQ_36
  have N_37 := Fr.app N_35 Nq_36
  have pre_36 : Rch p.tables e below (s₁.setTop (entryFrame m #[(.int (2 : Int32)), (.int qa), (.int qb), (.int qc)] 4)) (T_36.setTop (mkF m 58 #[.val (.int (2 : Int32)), .val (.int qa), .val (.int qb), .val (.int qc)] [(.ref a)])) := fun tgt ktg => pre_28 tgt (st_36.trans ktg)
  have z_38 : n0 ≤ T_36.heap.size := Nat.le_trans z_32 Kq_36.1
  have K_39 : Keep h0 T_36.heap [] := K_33.trans Kq_36 (allS (P := fun x => x ∈ ([] : List Addr) ∨ h0.size ≤ x) (Or.inr sz_a) (all0 (P := fun x => x ∈ ([] : List Addr) ∨ h0.size ≤ x)))
  obtain ⟨fs, hr, hrun, hended, hW, hsame⟩ := X_36.leave (v := some (.ref a)) (fun h => by rw [Bd.returns] at h; cases h)
  refine ⟨_, _, pre_36 _ ?_, hrun, hended, _, _, rfl, ?_, ⟨_, rfl⟩, hW, hsame.mono (by decide) (by decide)⟩
  · show Steps p.tables e below (T_36.setTop (mkF m 58 #[.val (.int (2 : Int32)), .val (.int qa), .val (.int qb), .val (.int qc)] [(.ref a)])) _
    jvm_step X_36.here [X_36.here.top, hx, (hb hby d1_58), X_36.method', Bd.returns, Value.isRef, FieldType.isReference]
    first | (intro acts; rw [hr _ acts rfl rfl rfl]) | rw [hr _ _ rfl rfl rfl]
    exact Steps.refl _
  · show Qmk2 Z qa qb qc h0 n0 _ T_36.heap _
    exact ⟨a, ba, kb, rfl, N_37, K_39, b1, b2, b3, b4⟩
theorem d1_59 : decode method_3_code 59 = .ok (.new 23, 3) := by decide +kernel
theorem d1_62 : decode method_3_code 62 = .ok (.dup, 1) := by decide +kernel
theorem d1_63 : decode method_3_code 63 = .ok (.iconst 3, 1) := by decide +kernel
theorem d1_64 : decode method_3_code 64 = .ok (.newarray .char, 2) := by decide +kernel
theorem d1_66 : decode method_3_code 66 = .ok (.dup, 1) := by decide +kernel
theorem d1_67 : decode method_3_code 67 = .ok (.iconst 0, 1) := by decide +kernel
theorem d1_68 : decode method_3_code 68 = .ok (.iload_n 1, 1) := by decide +kernel
theorem d1_69 : decode method_3_code 69 = .ok (.castore, 1) := by decide +kernel
theorem d1_70 : decode method_3_code 70 = .ok (.dup, 1) := by decide +kernel
theorem d1_71 : decode method_3_code 71 = .ok (.iconst 1, 1) := by decide +kernel
theorem d1_72 : decode method_3_code 72 = .ok (.iload_n 2, 1) := by decide +kernel
theorem d1_73 : decode method_3_code 73 = .ok (.castore, 1) := by decide +kernel
theorem d1_74 : decode method_3_code 74 = .ok (.dup, 1) := by decide +kernel
theorem d1_75 : decode method_3_code 75 = .ok (.iconst 2, 1) := by decide +kernel
theorem d1_76 : decode method_3_code 76 = .ok (.iload_n 3, 1) := by decide +kernel
theorem d1_77 : decode method_3_code 77 = .ok (.castore, 1) := by decide +kernel
theorem d1_78 : decode method_3_code 78 = .ok (.invokespecial 25, 3) := by decide +kernel
theorem d1_81 : decode method_3_code 81 = .ok (.areturn, 1) := by decide +kernel
theorem ef_mk3 (m : MethodId) (x0 : Int32) (x1 : Int32) (x2 : Int32) (x3 : Int32) : entryFrame m #[(.int x0), (.int x1), (.int x2), (.int x3)] 4 = mkF m 0 #[.val (.int x0), .val (.int x1), .val (.int x2), .val (.int x3)] [] := by first | (simp [entryFrame, mkF, argsToLocals, Value.category]; done) | rfl
def Qmk3 (Z : State) (qa : Int32) (qb : Int32) (qc : Int32) (h0 : Heap) (n0 : Nat) (v : Option Value) (h : Heap) (L : List Loc) : Prop := ∃ (a b : Addr) (kb : ClassId), v = some (.ref a) ∧ Fr n0 L ∧ Keep h0 h [] ∧ Exa Z h a "java/lang/String" ∧ Fld Z h a "java/lang/String" "coder" "B" (.int (0 : Int32)) ∧ Fld Z h a "java/lang/String" "value" "[B" (.ref b) ∧ Arv Z h b kb .byte (3 : Int32) [(.int (qa.toInt8.toInt32)), (.int (qb.toInt8.toInt32)), (.int (qc.toInt8.toInt32))] (.int (0 : Int32))
set_option maxRecDepth 65536 in
set_option maxHeartbeats 40000000 in
theorem rmmk3 (l : Launch) (Z : State) (a0 : Array Value) (hw : ∀ d ∈ tables_1, d.before a0 Z = true) (ws : List Jvm.Cond) (qa : Int32) (qb : Int32) (qc : Int32) (h0 : Heap) (n0 : Nat) (Z0 : n0 ≤ h0.size) (cs : Int32) (hcs : ¬ cs = 0) (S1 : Sta Z h0 "java/lang/String" "COMPACT_STRINGS" "Z" (.int cs)) (hqa0 : ¬ qa < 0) (hqa : ¬ (255 : Int32) < qa) (hqb0 : ¬ qb < 0) (hqb : ¬ (255 : Int32) < qb) (hqc0 : ¬ qc < 0) (hqc : ¬ (255 : Int32) < qc) :
    MetFree l (⟨"com/example/termwell/termwell/tables/XmlTextPlainAsciiPinLaw", "make", "(ICCC)Ljava/lang/String;"⟩ : MethodName) (head1 (Jvm.Cond.code (⟨"com/example/termwell/termwell/tables/XmlTextPlainAsciiPinLaw", "make", "(ICCC)Ljava/lang/String;"⟩ : MethodName) method_3_code 4 (some (.object "java/lang/String")) :: ws) ({ frames := 4, cells := 3, slots := 10, locals := 75 } : Room)) (fun aA U => aA = #[(.int (3 : Int32)), (.int qa), (.int qb), (.int qc)] ∧ Z.Warmed39 U.vm ∧ U.heap = h0) (fun _ _ _ _ _ => True) (fun _ U oO U' => ∃ vV LL, oO = .returned vV ∧ Qmk3 Z qa qb qc h0 n0 vV U'.heap LL ∧ FrameEnd U oO U' LL ({ frames := 4, cells := 3, slots := 10, locals := 75 } : Room).cells ({ frames := 4, cells := 3, slots := 10, locals := 75 } : Room).slots) := by
  refine MetFree.of_bodySF (plainFor_of_name pn_4) hisR ?_
  intro p e s m args below meth c s₁ Bd hml0 hP hK
  obtain ⟨rfl, hZ, hh⟩ := hP
  have hx := Bd.exec
  have hby := Bd.bytes
  have hml : c.maxLocals = 4 := hml0
  have hown : s.vm.findClass "com/example/termwell/termwell/tables/XmlTextPlainAsciiPinLaw" = some m.cls := findClass_of_methodNamed Bd.named
  have hnm := (name_of_methodNamed Bd.named Bd.method).1
  have X0 : Stand p l e ({ frames := 4, cells := 3, slots := 10, locals := 75 } : Room) s m #[(.int (3 : Int32)), (.int qa), (.int qb), (.int qc)] below meth c s₁ [] 0 0 := Stand.of_body Bd
  have e0 : s₁.heap = h0 := by rw [← hh, Bd.state]; rfl
  have N0 := Fr.nil n0
  have K0 : Keep h0 h0 [] := Keep.refl _ _
  have pre0 : Rch p.tables e below (s₁.setTop (entryFrame m #[(.int (3 : Int32)), (.int qa), (.int qb), (.int qc)] 4)) (s₁.setTop (mkF m 0 #[.val (.int (3 : Int32)), .val (.int qa), .val (.int qb), .val (.int qc)] [])) := fun tgt ktg => castTop (ef_mk3 m (3 : Int32) qa qb qc) ktg
  have pre_1 : Rch p.tables e below (s₁.setTop (entryFrame m #[(.int (3 : Int32)), (.int qa), (.int qb), (.int qc)] 4)) (s₁.setTop (mkF m 59 #[.val (.int (3 : Int32)), .val (.int qa), .val (.int qb), .val (.int qc)] [])) := fun tgt ktg => pre0 tgt (by
    show Steps p.tables e below (s₁.setTop (mkF m 0 #[.val (.int (3 : Int32)), .val (.int qa), .val (.int qb), .val (.int qc)] [])) _
    refine XS.iloadN X0.here hx rfl (hb hby d1_0) rfl ?_
    show Steps p.tables e below (s₁.setTop (mkF m 1 #[.val (.int (3 : Int32)), .val (.int qa), .val (.int qb), .val (.int qc)] [(.int (3 : Int32))])) _
    refine XS.ifYes X0.here hx rfl (pc0 := 1) (pc' := 15) rfl (hb hby d1_1) rfl ((if0 _ _).trans (feq (by decide : ¬ ((3 : Int32) = (0 : Int32)))).2) (by decide) (by decide) ?_
    show Steps p.tables e below (s₁.setTop (mkF m 15 #[.val (.int (3 : Int32)), .val (.int qa), .val (.int qb), .val (.int qc)] [])) _
    refine XS.iloadN X0.here hx rfl (hb hby d1_15) rfl ?_
    show Steps p.tables e below (s₁.setTop (mkF m 16 #[.val (.int (3 : Int32)), .val (.int qa), .val (.int qb), .val (.int qc)] [(.int (3 : Int32))])) _
    refine XS.iconst X0.here hx rfl (hb hby d1_16) ?_
    show Steps p.tables e below (s₁.setTop (mkF m 17 #[.val (.int (3 : Int32)), .val (.int qa), .val (.int qb), .val (.int qc)] [(.int (1 : Int32)), (.int (3 : Int32))])) _
    refine XS.icmpYes X0.here hx rfl (pc0 := 17) (pc' := 35) rfl (hb hby d1_17) rfl (feq (by decide : ¬ ((3 : Int32) = (1 : Int32)))).2 (by decide) (by decide) ?_
    show Steps p.tables e below (s₁.setTop (mkF m 35 #[.val (.int (3 : Int32)), .val (.int qa), .val (.int qb), .val (.int qc)] [])) _
    refine XS.iloadN X0.here hx rfl (hb hby d1_35) rfl ?_
    show Steps p.tables e below (s₁.setTop (mkF m 36 #[.val (.int (3 : Int32)), .val (.int qa), .val (.int qb), .val (.int qc)] [(.int (3 : Int32))])) _
    refine XS.iconst X0.here hx rfl (hb hby d1_36) ?_
    show Steps p.tables e below (s₁.setTop (mkF m 37 #[.val (.int (3 : Int32)), .val (.int qa), .val (.int qb), .val (.int qc)] [(.int (2 : Int32)), (.int (3 : Int32))])) _
    refine XS.icmpYes X0.here hx rfl (pc0 := 37) (pc' := 59) rfl (hb hby d1_37) rfl (feq (by decide : ¬ ((3 : Int32) = (2 : Int32)))).2 (by decide) (by decide) ?_
    exact ktg)
  obtain ⟨T_2, h_2, X_2, e_2, E_2, A_2, D_2, U_2, st_2⟩ := newO X0 hx hZ hown (hw _ (List.mem_of_getElem? (i := 4) rfl)) (hw _ (List.mem_of_getElem? (i := 5) rfl)) (hw _ (List.mem_of_getElem? (i := 6) rfl)) e0 (g := (mkF m 59 #[.val (.int (3 : Int32)), .val (.int qa), .val (.int qb), .val (.int qc)] [])) rfl (hb hby d1_59) (by decide) (by decide)
  obtain ⟨a, g_2⟩ : ∃ nm_, nm_ = h0.size := ⟨_, rfl⟩
  rw [← g_2] at A_2 D_2 U_2 st_2
  have g_a : n0 ≤ a := Nat.le_trans Z0 (Nat.le_of_eq g_2.symm)
  have sz_a : h0.size ≤ a := Nat.le_trans K0.1 (Nat.le_of_eq g_2.symm)
  have pre_2 : Rch p.tables e below (s₁.setTop (entryFrame m #[(.int (3 : Int32)), (.int qa), (.int qb), (.int qc)] 4)) (T_2.setTop (mkF m 62 #[.val (.int (3 : Int32)), .val (.int qa), .val (.int qb), .val (.int qc)] [(.ref a)])) := fun tgt ktg => pre_1 tgt (st_2 tgt ktg)
  have z_3 : n0 ≤ h_2.size := Nat.le_trans Z0 E_2.1
  have K_4 : Keep h0 h_2 [] := K0.ext E_2
  have f_5 : Exa Z h_2 a "java/lang/String" := A_2
  have f_6 : Fld Z h_2 a "java/lang/String" "coder" "B" (.int (0 : Int32)) := D_2 (Or.inr (hw _ (List.mem_of_getElem? (i := 31) rfl))) (ty := .byte) (by decide)
  have f_7 : Fld Z h_2 a "java/lang/String" "value" "[B" .null := D_2 (Or.inr (hw _ (List.mem_of_getElem? (i := 33) rfl))) (ty := (.array .byte)) (by decide)
  have pre_8 : Rch p.tables e below (s₁.setTop (entryFrame m #[(.int (3 : Int32)), (.int qa), (.int qb), (.int qc)] 4)) (T_2.setTop (mkF m 64 #[.val (.int (3 : Int32)), .val (.int qa), .val (.int qb), .val (.int qc)] [(.int (3 : Int32)), (.ref a), (.ref a)])) := fun tgt ktg => pre_2 tgt (by
    show Steps p.tables e below (T_2.setTop (mkF m 62 #[.val (.int (3 : Int32)), .val (.int qa), .val (.int qb), .val (.int qc)] [(.ref a)])) _
    refine XS.dup X_2.here hx rfl (hb hby d1_62) rfl rfl ?_
    show Steps p.tables e below (T_2.setTop (mkF m 63 #[.val (.int (3 : Int32)), .val (.int qa), .val (.int qb), .val (.int qc)] [(.ref a), (.ref a)])) _
    refine XS.iconst X_2.here hx rfl (hb hby d1_63) ?_
    exact ktg)
  obtain ⟨T_9, h_9, k_9, X_9, e_9, E_9, A_9, st_9⟩ := newP X_2 hx hZ (hw _ (List.mem_of_getElem? (i := 7) rfl)) e_2 (g := (mkF m 64 #[.val (.int (3 : Int32)), .val (.int qa), .val (.int qb), .val (.int qc)] [(.int (3 : Int32)), (.ref a), (.ref a)])) rfl (hb hby d1_64) rfl (by decide) (cap := 3) (by decide) (by decide) (by decide) (by decide)
  obtain ⟨ca, g_9⟩ : ∃ nm_, nm_ = h_2.size := ⟨_, rfl⟩
  rw [← g_9] at A_9 st_9
  have ne_a_ca : a ≠ ca := Nat.ne_of_lt (Nat.lt_of_lt_of_le f_5.lt (Nat.le_of_eq g_9.symm))
  have g_ca : n0 ≤ ca := Nat.le_trans z_3 (Nat.le_of_eq g_9.symm)
  have sz_ca : h0.size ≤ ca := Nat.le_trans K_4.1 (Nat.le_of_eq g_9.symm)
  have pre_9 : Rch p.tables e below (s₁.setTop (entryFrame m #[(.int (3 : Int32)), (.int qa), (.int qb), (.int qc)] 4)) (T_9.setTop (mkF m 66 #[.val (.int (3 : Int32)), .val (.int qa), .val (.int qb), .val (.int qc)] [(.ref ca), (.ref a), (.ref a)])) := fun tgt ktg => pre_8 tgt (st_9 tgt ktg)
  have f_10 : Exa Z h_9 a "java/lang/String" := f_5.ext E_9
  have f_11 : Fld Z h_9 a "java/lang/String" "coder" "B" (.int (0 : Int32)) := f_6.ext E_9
  have f_12 : Fld Z h_9 a "java/lang/String" "value" "[B" .null := f_7.ext E_9
  have z_13 : n0 ≤ h_9.size := Nat.le_trans z_3 E_9.1
  have K_14 : Keep h0 h_9 [] := K_4.ext E_9
  have f_15 : Arv Z h_9 ca k_9 .char (3 : Int32) [(.int (0 : Int32)), (.int (0 : Int32)), (.int (0 : Int32))] (.int (0 : Int32)) := (Arv.new A_9 (by decide)).pad (pad_rep [] (.int (0 : Int32)) 3)
  have pre_16 : Rch p.tables e below (s₁.setTop (entryFrame m #[(.int (3 : Int32)), (.int qa), (.int qb), (.int qc)] 4)) (T_9.setTop (mkF m 69 #[.val (.int (3 : Int32)), .val (.int qa), .val (.int qb), .val (.int qc)] [(.int qa), (.int (0 : Int32)), (.ref ca), (.ref ca), (.ref a), (.ref a)])) := fun tgt ktg => pre_9 tgt (by
    show Steps p.tables e below (T_9.setTop (mkF m 66 #[.val (.int (3 : Int32)), .val (.int qa), .val (.int qb), .val (.int qc)] [(.ref ca), (.ref a), (.ref a)])) _
    refine XS.dup X_9.here hx rfl (hb hby d1_66) rfl rfl ?_
    show Steps p.tables e below (T_9.setTop (mkF m 67 #[.val (.int (3 : Int32)), .val (.int qa), .val (.int qb), .val (.int qc)] [(.ref ca), (.ref ca), (.ref a), (.ref a)])) _
    refine XS.iconst X_9.here hx rfl (hb hby d1_67) ?_
    show Steps p.tables e below (T_9.setTop (mkF m 68 #[.val (.int (3 : Int32)), .val (.int qa), .val (.int qb), .val (.int qc)] [(.int (0 : Int32)), (.ref ca), (.ref ca), (.ref a), (.ref a)])) _
    refine XS.iloadN X_9.here hx rfl (hb hby d1_68) rfl ?_
    exact ktg)
  obtain ⟨cl__17, Ar__17, q__17, S__17, N__17, H__17, G__17⟩ := id f_15
  have hin__17 : ¬ ((0 : Int32) < 0 ∨ cl__17.slots.size ≤ ((0 : Int32)).toNatClampNeg) := inb_of S__17 ⟨by decide, by decide⟩
  obtain ⟨T_18, h_18, X_18, e_18, W_18, st_18⟩ := stC X_9 hx hZ e_9 Ar__17 (j := (0 : Int32)) hin__17 (g := (mkF m 69 #[.val (.int (3 : Int32)), .val (.int qa), .val (.int qb), .val (.int qc)] [(.int qa), (.int (0 : Int32)), (.ref ca), (.ref ca), (.ref a), (.ref a)])) rfl rfl (hb hby d1_69)
  have pre_18 : Rch p.tables e below (s₁.setTop (entryFrame m #[(.int (3 : Int32)), (.int qa), (.int qb), (.int qc)] 4)) (T_18.setTop (mkF m 70 #[.val (.int (3 : Int32)), .val (.int qa), .val (.int qb), .val (.int qc)] [(.ref ca), (.ref a), (.ref a)])) := fun tgt ktg => pre_16 tgt (st_18 tgt ktg)
  have f_19 : Exa Z h_18 a "java/lang/String" := f_10.wr W_18
  have f_20 : Fld Z h_18 a "java/lang/String" "coder" "B" (.int (0 : Int32)) := f_11.other W_18 (Or.inl ne_a_ca)
  have f_21 : Fld Z h_18 a "java/lang/String" "value" "[B" .null := f_12.other W_18 (Or.inl ne_a_ca)
  have z_22 : n0 ≤ h_18.size := Nat.le_trans z_13 (Keep.of_wr W_18).1
  have K_23 : Keep h0 h_18 [] := K_14.wr W_18 (Or.inr sz_ca)
  have f_24 : Arv Z h_18 ca k_9 .char (3 : Int32) [(.int (nar .char qa)), (.int (0 : Int32)), (.int (0 : Int32))] (.int (0 : Int32)) := Arv.set Ar__17 q__17 S__17 N__17 H__17 G__17 (fits_nar_char _) W_18 0 rfl (Nat.le_of_ble_eq_true rfl)
  have N_25 := Fr.snoc X_18 N0 g_ca
  rw [own_narc hqa0 hqa] at f_24
  have pre_26 : Rch p.tables e below (s₁.setTop (entryFrame m #[(.int (3 : Int32)), (.int qa), (.int qb), (.int qc)] 4)) (T_18.setTop (mkF m 73 #[.val (.int (3 : Int32)), .val (.int qa), .val (.int qb), .val (.int qc)] [(.int qb), (.int (1 : Int32)), (.ref ca), (.ref ca), (.ref a), (.ref a)])) := fun tgt ktg => pre_18 tgt (by
    show Steps p.tables e below (T_18.setTop (mkF m 70 #[.val (.int (3 : Int32)), .val (.int qa), .val (.int qb), .val (.int qc)] [(.ref ca), (.ref a), (.ref a)])) _
    refine XS.dup X_18.here hx rfl (hb hby d1_70) rfl rfl ?_
    show Steps p.tables e below (T_18.setTop (mkF m 71 #[.val (.int (3 : Int32)), .val (.int qa), .val (.int qb), .val (.int qc)] [(.ref ca), (.ref ca), (.ref a), (.ref a)])) _
    refine XS.iconst X_18.here hx rfl (hb hby d1_71) ?_
    show Steps p.tables e below (T_18.setTop (mkF m 72 #[.val (.int (3 : Int32)), .val (.int qa), .val (.int qb), .val (.int qc)] [(.int (1 : Int32)), (.ref ca), (.ref ca), (.ref a), (.ref a)])) _
    refine XS.iloadN X_18.here hx rfl (hb hby d1_72) rfl ?_
    exact ktg)
  obtain ⟨cl__27, Ar__27, q__27, S__27, N__27, H__27, G__27⟩ := id f_24
  have hin__27 : ¬ ((1 : Int32) < 0 ∨ cl__27.slots.size ≤ ((1 : Int32)).toNatClampNeg) := inb_of S__27 ⟨by decide, by decide⟩
  obtain ⟨T_28, h_28, X_28, e_28, W_28, st_28⟩ := stC X_18 hx hZ e_18 Ar__27 (j := (1 : Int32)) hin__27 (g := (mkF m 73 #[.val (.int (3 : Int32)), .val (.int qa), .val (.int qb), .val (.int qc)] [(.int qb), (.int (1 : Int32)), (.ref ca), (.ref ca), (.ref a), (.ref a)])) rfl rfl (hb hby d1_73)
  have pre_28 : Rch p.tables e below (s₁.setTop (entryFrame m #[(.int (3 : Int32)), (.int qa), (.int qb), (.int qc)] 4)) (T_28.setTop (mkF m 74 #[.val (.int (3 : Int32)), .val (.int qa), .val (.int qb), .val (.int qc)] [(.ref ca), (.ref a), (.ref a)])) := fun tgt ktg => pre_26 tgt (st_28 tgt ktg)
  have f_29 : Exa Z h_28 a "java/lang/String" := f_19.wr W_28
  have f_30 : Fld Z h_28 a "java/lang/String" "coder" "B" (.int (0 : Int32)) := f_20.other W_28 (Or.inl ne_a_ca)
  have f_31 : Fld Z h_28 a "java/lang/String" "value" "[B" .null := f_21.other W_28 (Or.inl ne_a_ca)
  have z_32 : n0 ≤ h_28.size := Nat.le_trans z_22 (Keep.of_wr W_28).1
  have K_33 : Keep h0 h_28 [] := K_23.wr W_28 (Or.inr sz_ca)
  have f_34 : Arv Z h_28 ca k_9 .char (3 : Int32) [(.int qa), (.int (nar .char qb)), (.int (0 : Int32))] (.int (0 : Int32)) := Arv.set Ar__27 q__27 S__27 N__27 H__27 G__27 (fits_nar_char _) W_28 1 rfl (Nat.le_of_ble_eq_true rfl)
  have N_35 := Fr.snoc X_28 N_25 g_ca
  rw [own_narc hqb0 hqb] at f_34
  have pre_36 : Rch p.tables e below (s₁.setTop (entryFrame m #[(.int (3 : Int32)), (.int qa), (.int qb), (.int qc)] 4)) (T_28.setTop (mkF m 77 #[.val (.int (3 : Int32)), .val (.int qa), .val (.int qb), .val (.int qc)] [(.int qc), (.int (2 : Int32)), (.ref ca), (.ref ca), (.ref a), (.ref a)])) := fun tgt ktg => pre_28 tgt (by
    show Steps p.tables e below (T_28.setTop (mkF m 74 #[.val (.int (3 : Int32)), .val (.int qa), .val (.int qb), .val (.int qc)] [(.ref ca), (.ref a), (.ref a)])) _
    refine XS.dup X_28.here hx rfl (hb hby d1_74) rfl rfl ?_
    show Steps p.tables e below (T_28.setTop (mkF m 75 #[.val (.int (3 : Int32)), .val (.int qa), .val (.int qb), .val (.int qc)] [(.ref ca), (.ref ca), (.ref a), (.ref a)])) _
    refine XS.iconst X_28.here hx rfl (hb hby d1_75) ?_
    show Steps p.tables e below (T_28.setTop (mkF m 76 #[.val (.int (3 : Int32)), .val (.int qa), .val (.int qb), .val (.int qc)] [(.int (2 : Int32)), (.ref ca), (.ref ca), (.ref a), (.ref a)])) _
    refine XS.iloadN X_28.here hx rfl (hb hby d1_76) rfl ?_
    exact ktg)
  obtain ⟨cl__37, Ar__37, q__37, S__37, N__37, H__37, G__37⟩ := id f_34
  have hin__37 : ¬ ((2 : Int32) < 0 ∨ cl__37.slots.size ≤ ((2 : Int32)).toNatClampNeg) := inb_of S__37 ⟨by decide, by decide⟩
  obtain ⟨T_38, h_38, X_38, e_38, W_38, st_38⟩ := stC X_28 hx hZ e_28 Ar__37 (j := (2 : Int32)) hin__37 (g := (mkF m 77 #[.val (.int (3 : Int32)), .val (.int qa), .val (.int qb), .val (.int qc)] [(.int qc), (.int (2 : Int32)), (.ref ca), (.ref ca), (.ref a), (.ref a)])) rfl rfl (hb hby d1_77)
  have pre_38 : Rch p.tables e below (s₁.setTop (entryFrame m #[(.int (3 : Int32)), (.int qa), (.int qb), (.int qc)] 4)) (T_38.setTop (mkF m 78 #[.val (.int (3 : Int32)), .val (.int qa), .val (.int qb), .val (.int qc)] [(.ref ca), (.ref a), (.ref a)])) := fun tgt ktg => pre_36 tgt (st_38 tgt ktg)
  have f_39 : Exa Z h_38 a "java/lang/String" := f_29.wr W_38
  have f_40 : Fld Z h_38 a "java/lang/String" "coder" "B" (.int (0 : Int32)) := f_30.other W_38 (Or.inl ne_a_ca)
  have f_41 : Fld Z h_38 a "java/lang/String" "value" "[B" .null := f_31.other W_38 (Or.inl ne_a_ca)
  have z_42 : n0 ≤ h_38.size := Nat.le_trans z_32 (Keep.of_wr W_38).1
  have K_43 : Keep h0 h_38 [] := K_33.wr W_38 (Or.inr sz_ca)
  have f_44 : Arv Z h_38 ca k_9 .char (3 : Int32) [(.int qa), (.int qb), (.int (nar .char qc))] (.int (0 : Int32)) := Arv.set Ar__37 q__37 S__37 N__37 H__37 G__37 (fits_nar_char _) W_38 2 rfl (Nat.le_of_ble_eq_true rfl)
  have N_45 := Fr.snoc X_38 N_35 g_ca
  rw [own_narc hqc0 hqc] at f_44
  obtain ⟨_, _, ⟨T_46, L_46, k_46, n_46⟩, -, X_46, ⟨Lc_46, hQ_46, l_46, y_46, z_46⟩, st_46⟩ := X_38.specialBack hx (y := (⟨"java/lang/String", "<init>", "([C)V"⟩ : MethodName)) rfl hown (mvT hZ (hw _ (List.mem_of_getElem? (i := 8) rfl))) (mvT hZ (hw _ (List.mem_of_getElem? (i := 9) rfl))) (mvT hZ (hw _ (List.mem_of_getElem? (i := 10) rfl))) (by decide) (backOf (W := 1) (rmsc3 l Z a0 hw [] a ca qa qb qc k_9 h_38 n0 z_42 f_39 f_41 f_40 f_44 (Ne.symm ne_a_ca) g_a hqa hqb hqc cs hcs (own_sta_keep S1 K_43 ns0)) hZ (hw _ (List.mem_of_getElem? (i := 10) rfl)) (hw _ (List.mem_of_getElem? (i := 6) rfl)) (by decide) (by decide)) (g := (mkF m 78 #[.val (.int (3 : Int32)), .val (.int qa), .val (.int qb), .val (.int qc)] [(.ref ca), (.ref a), (.ref a)])) rfl (by rw [hml]; rfl) (Steps.refl _) (a := a) (argsL := [(.ref ca)]) (rest := [(.ref a)]) (lenOf pd_11 rfl) rfl (by show 2 * 0 + _ ≤ _; exact Nat.le_of_eq rfl) (hb hby d1_78) (fun _ _ => ⟨rfl, e_38, (by decide : 2 + 1 ≤ _), (by decide : 7 + 3 ≤ _)⟩)
  dsimp only [Pt.U, Pt.locs, Pt.cells, Pt.slots] at X_46 l_46 y_46 z_46 st_46 hQ_46
  subst l_46 y_46 z_46
  obtain ⟨ba, kb, rfl, Nq_46, Kq_46, b1, b2, b3, b4⟩ := hQ_46
  have N_47 := Fr.app N_45 Nq_46
  have pre_46 : Rch p.tables e below (s₁.setTop (entryFrame m #[(.int (3 : Int32)), (.int qa), (.int qb), (.int qc)] 4)) (T_46.setTop (mkF m 81 #[.val (.int (3 : Int32)), .val (.int qa), .val (.int qb), .val (.int qc)] [(.ref a)])) := fun tgt ktg => pre_38 tgt (st_46.trans ktg)
  have z_48 : n0 ≤ T_46.heap.size := Nat.le_trans z_42 Kq_46.1
  have K_49 : Keep h0 T_46.heap [] := K_43.trans Kq_46 (allS (P := fun x => x ∈ ([] : List Addr) ∨ h0.size ≤ x) (Or.inr sz_a) (all0 (P := fun x => x ∈ ([] : List Addr) ∨ h0.size ≤ x)))
  obtain ⟨fs, hr, hrun, hended, hW, hsame⟩ := X_46.leave (v := some (.ref a)) (fun h => by rw [Bd.returns] at h; cases h)
  refine ⟨_, _, pre_46 _ ?_, hrun, hended, _, _, rfl, ?_, ⟨_, rfl⟩, hW, hsame.mono (by decide) (by decide)⟩
  · show Steps p.tables e below (T_46.setTop (mkF m 81 #[.val (.int (3 : Int32)), .val (.int qa), .val (.int qb), .val (.int qc)] [(.ref a)])) _
    jvm_step X_46.here [X_46.here.top, hx, (hb hby d1_81), X_46.method', Bd.returns, Value.isRef, FieldType.isReference]
    first | (intro acts; rw [hr _ acts rfl rfl rfl]) | rw [hr _ _ rfl rfl rfl]
    exact Steps.refl _
  · show Qmk3 Z qa qb qc h0 n0 _ T_46.heap _
    exact ⟨a, ba, kb, rfl, N_47, K_49, b1, b2, b3, b4⟩
theorem d3_8 : decode jdk_42_method_149_code 8 = .ok (.aload_n 0, 1) := by decide +kernel
theorem d3_9 : decode jdk_42_method_149_code 9 = .ok (.ldc 7, 2) := by decide +kernel
theorem d3_11 : decode jdk_42_method_149_code 11 = .ok (.getfield 9, 3) := by decide +kernel
theorem d3_14 : decode jdk_42_method_149_code 14 = .ok (.putfield 9, 3) := by decide +kernel
theorem d3_17 : decode jdk_42_method_149_code 17 = .ok (.aload_n 0, 1) := by decide +kernel
theorem d3_18 : decode jdk_42_method_149_code 18 = .ok (.ldc 7, 2) := by decide +kernel
theorem d3_20 : decode jdk_42_method_149_code 20 = .ok (.getfield 15, 3) := by decide +kernel
theorem d3_23 : decode jdk_42_method_149_code 23 = .ok (.putfield 15, 3) := by decide +kernel
theorem d3_26 : decode jdk_42_method_149_code 26 = .ok (.return_, 1) := by decide +kernel
theorem ef_sv0 (m : MethodId) (x0 : Addr) (x1 : Addr) (x2 : Int32) (x3 : Int32) : entryFrame m #[(.ref x0), (.ref x1), (.int x2), (.int x3), .null] 6 = mkF m 0 #[.val (.ref x0), .val (.ref x1), .val (.int x2), .val (.int x3), .val .null, .unset] [] := by first | (simp [entryFrame, mkF, argsToLocals, Value.category]; done) | rfl
def Qsv0 (Z : State) (a : Addr) (ca : Addr) (h0 : Heap) (n0 : Nat) (v : Option Value) (h : Heap) (L : List Loc) : Prop := ∃ (ba : Addr) (kb : ClassId), v = none ∧ Fr n0 L ∧ Keep h0 h [a] ∧ Exa Z h a "java/lang/String" ∧ Fld Z h a "java/lang/String" "coder" "B" (.int (0 : Int32)) ∧ Fld Z h a "java/lang/String" "value" "[B" (.ref ba) ∧ Arv Z h ba kb .byte (0 : Int32) [] (.int (0 : Int32))
set_option maxRecDepth 65536 in
set_option maxHeartbeats 40000000 in
theorem rmsv0 (l : Launch) (Z : State) (a0 : Array Value) (hw : ∀ d ∈ tables_1, d.before a0 Z = true) (ws : List Jvm.Cond) (a : Addr) (ca : Addr) (h0 : Heap) (n0 : Nat) (Z0 : n0 ≤ h0.size) (E1 : Exa Z h0 a "java/lang/String") (F1 : Fld Z h0 a "java/lang/String" "value" "[B" .null) (F2 : Fld Z h0 a "java/lang/String" "coder" "B" (.int (0 : Int32))) (ga : n0 ≤ a)  :
    MetFree l (⟨"java/lang/String", "<init>", "([CIILjava/lang/Void;)V"⟩ : MethodName) (head1 (Jvm.Cond.code (⟨"java/lang/String", "<init>", "([CIILjava/lang/Void;)V"⟩ : MethodName) jdk_42_method_149_code 6 none :: ws) ({ frames := 1, cells := 4, slots := 8, locals := 14 } : Room)) (fun aA U => aA = #[(.ref a), (.ref ca), (.int (0 : Int32)), (.int (0 : Int32)), .null] ∧ Z.Warmed39 U.vm ∧ U.heap = h0 ∧ CHv Z consts_1 U.vm h0) (fun _ _ _ _ _ => True) (fun _ U oO U' => ∃ vV LL, oO = .returned vV ∧ Qsv0 Z a ca h0 n0 vV U'.heap LL ∧ CHr Z consts_1 U.vm U.heap U'.vm U'.heap ∧ ReturnedEndW U oO U' LL ({ frames := 1, cells := 4, slots := 8, locals := 14 } : Room).cells ({ frames := 1, cells := 4, slots := 8, locals := 14 } : Room).slots) := by
  refine MetFree.of_bodySF (plainFor_of_name pn_0) hisR ?_
  intro p e s m args below meth c s₁ Bd hml0 hP hK
  obtain ⟨rfl, hZ, hh, hC⟩ := hP
  have hx := Bd.exec
  have hby := Bd.bytes
  have hml : c.maxLocals = 6 := hml0
  have hown : s.vm.findClass "java/lang/String" = some m.cls := findClass_of_methodNamed Bd.named
  have hnm := (name_of_methodNamed Bd.named Bd.method).1
  have X0 : Stand p l e ({ frames := 1, cells := 4, slots := 8, locals := 14 } : Room) (s.setVm s.vm) m #[(.ref a), (.ref ca), (.int (0 : Int32)), (.int (0 : Int32)), .null] below meth c s₁ [] 0 0 := Stand.of_body Bd
  have e0 : s₁.heap = h0 := by rw [← hh, Bd.state]; rfl
  have N0 := Fr.nil n0
  have K0 : Keep h0 h0 [a] := Keep.refl _ _
  have hS0 : s.Since s.vm 0 := (State.WarmedH.refl s).since _
  have hk0 : 0 ≤ h0.size := Nat.zero_le _
  have C0 : CHr Z consts_1 s.vm h0 s.vm h0 := CHr.refl hC
  have hEL := own_EW hw
  have wS := own_wS hw
  have pre0 : Rch p.tables e below (s₁.setTop (entryFrame m #[(.ref a), (.ref ca), (.int (0 : Int32)), (.int (0 : Int32)), .null] 6)) (s₁.setTop (mkF m 0 #[.val (.ref a), .val (.ref ca), .val (.int (0 : Int32)), .val (.int (0 : Int32)), .val .null, .unset] [])) := fun tgt ktg => castTop (ef_sv0 m a ca (0 : Int32) (0 : Int32)) ktg
  have pre_1 : Rch p.tables e below (s₁.setTop (entryFrame m #[(.ref a), (.ref ca), (.int (0 : Int32)), (.int (0 : Int32)), .null] 6)) (s₁.setTop (mkF m 1 #[.val (.ref a), .val (.ref ca), .val (.int (0 : Int32)), .val (.int (0 : Int32)), .val .null, .unset] [(.ref a)])) := fun tgt ktg => pre0 tgt (by
    show Steps p.tables e below (s₁.setTop (mkF m 0 #[.val (.ref a), .val (.ref ca), .val (.int (0 : Int32)), .val (.int (0 : Int32)), .val .null, .unset] [])) _
    refine XS.aloadN X0.here hx rfl (hb hby d3_0) rfl rfl ?_
    exact ktg)
  obtain ⟨T_2, X_2, e_2, st_2⟩ := initO X0 hx hZ hown (hw _ (List.mem_of_getElem? (i := 15) rfl)) (hw _ (List.mem_of_getElem? (i := 16) rfl)) (hw _ (List.mem_of_getElem? (i := 17) rfl)) e0 (g := (mkF m 1 #[.val (.ref a), .val (.ref ca), .val (.int (0 : Int32)), .val (.int (0 : Int32)), .val .null, .unset] [(.ref a)])) rfl (by rw [hml]; rfl) rfl (hb hby d3_1) (by decide) (W := 0) (by show 2 * 0 + _ ≤ _; exact Nat.le_of_eq rfl) (by decide)
  have pre_2 : Rch p.tables e below (s₁.setTop (entryFrame m #[(.ref a), (.ref ca), (.int (0 : Int32)), (.int (0 : Int32)), .null] 6)) (T_2.setTop (mkF m 4 #[.val (.ref a), .val (.ref ca), .val (.int (0 : Int32)), .val (.int (0 : Int32)), .val .null, .unset] [])) := fun tgt ktg => pre_1 tgt (st_2 tgt ktg)
  have f_3 : Safe Z consts_1 s.vm h0 a := own_safe_null hZ.alike E1 F1
  have pre_4 : Rch p.tables e below (s₁.setTop (entryFrame m #[(.ref a), (.ref ca), (.int (0 : Int32)), (.int (0 : Int32)), .null] 6)) (T_2.setTop (mkF m 9 #[.val (.ref a), .val (.ref ca), .val (.int (0 : Int32)), .val (.int (0 : Int32)), .val .null, .unset] [(.ref a)])) := fun tgt ktg => pre_2 tgt (by
    show Steps p.tables e below (T_2.setTop (mkF m 4 #[.val (.ref a), .val (.ref ca), .val (.int (0 : Int32)), .val (.int (0 : Int32)), .val .null, .unset] [])) _
    refine XS.iloadN X_2.here hx rfl (hb hby d3_4) rfl ?_
    show Steps p.tables e below (T_2.setTop (mkF m 5 #[.val (.ref a), .val (.ref ca), .val (.int (0 : Int32)), .val (.int (0 : Int32)), .val .null, .unset] [(.int (0 : Int32))])) _
    refine XS.ifNo X_2.here hx rfl (hb hby d3_5) rfl ((if0 _ _).trans (teq (rfl : (0 : Int32) = (0 : Int32))).2) ?_
    show Steps p.tables e below (T_2.setTop (mkF m 8 #[.val (.ref a), .val (.ref ca), .val (.int (0 : Int32)), .val (.int (0 : Int32)), .val .null, .unset] [])) _
    refine XS.aloadN X_2.here hx rfl (hb hby d3_8) rfl rfl ?_
    exact ktg)
  obtain ⟨x, T_5, h_5, k1__5, xb, kl_5, X_5, e_5, E_5, hS_5, hk_5, hZ, hown, fE_5, fC_5, fV_5, fA_5, la_5, lb_5, hC_5, hL_5, hne_5, st_5⟩ := ldcCH X_2 hx hZ hown (hw _ (List.mem_of_getElem? (i := 84) rfl)) wS e_2 hS0 hk0 hEL (List.mem_of_getElem? (i := 0) rfl) C0.1 (vs := []) (z := (0 : Int32)) ⟨by decide, by rfl⟩ (by decide) rfl (g := (mkF m 9 #[.val (.ref a), .val (.ref ca), .val (.int (0 : Int32)), .val (.int (0 : Int32)), .val .null, .unset] [(.ref a)])) rfl (hb hby d3_9) (n := 0) (by decide) (by decide) (by decide) (by decide)
  have pre_5 : Rch p.tables e below (s₁.setTop (entryFrame m #[(.ref a), (.ref ca), (.int (0 : Int32)), (.int (0 : Int32)), .null] 6)) (T_5.setTop (mkF m 11 #[.val (.ref a), .val (.ref ca), .val (.int (0 : Int32)), .val (.int (0 : Int32)), .val .null, .unset] [(.ref x), (.ref a)])) := fun tgt ktg => pre_4 tgt (st_5 tgt ktg)
  have C_6 : CHr Z consts_1 s.vm h0 T_5.vm h_5 := C0.trans hC_5
  have f_7 : Exa Z h_5 a "java/lang/String" := E1.ext E_5
  have f_8 : Fld Z h_5 a "java/lang/String" "value" "[B" .null := F1.ext E_5
  have f_9 : Fld Z h_5 a "java/lang/String" "coder" "B" (.int (0 : Int32)) := F2.ext E_5
  have f_10 : Safe Z consts_1 T_5.vm h_5 a := CHr.safe hC_5 E1.lt f_3
  obtain ⟨ne_a_x, ne_a_xb⟩ := hne_5 _ f_10
  have z_11 : n0 ≤ h_5.size := Nat.le_trans Z0 E_5.1
  have K_12 : Keep h0 h_5 [a] := K0.ext E_5
  obtain ⟨T_13, X_13, e_13, st_13⟩ := getF X_5 hx hZ hown (host := "") (Or.inl (hw _ (List.mem_of_getElem? (i := 32) rfl))) Via.refl e_5 fV_5 (g := (mkF m 11 #[.val (.ref a), .val (.ref ca), .val (.int (0 : Int32)), .val (.int (0 : Int32)), .val .null, .unset] [(.ref x), (.ref a)])) rfl rfl (hb hby d3_11)
  have pre_13 : Rch p.tables e below (s₁.setTop (entryFrame m #[(.ref a), (.ref ca), (.int (0 : Int32)), (.int (0 : Int32)), .null] 6)) (T_13.setTop (mkF m 14 #[.val (.ref a), .val (.ref ca), .val (.int (0 : Int32)), .val (.int (0 : Int32)), .val .null, .unset] [(.ref xb), (.ref a)])) := fun tgt ktg => pre_5 tgt (st_13 tgt ktg)
  obtain ⟨T_14, h_14, X_14, e_14, W_14, st_14⟩ := putF X_13 hx hZ hown (host := "") (Or.inl (hw _ (List.mem_of_getElem? (i := 32) rfl))) Via.refl e_13 f_8 f_7 (Or.inr ⟨(hw _ (List.mem_of_getElem? (i := 33) rfl)), rfl, hnm⟩) (hw _ (List.mem_of_getElem? (i := 5) rfl)) (ty := (.array .byte)) (by decide) rfl rfl (g := (mkF m 14 #[.val (.ref a), .val (.ref ca), .val (.int (0 : Int32)), .val (.int (0 : Int32)), .val .null, .unset] [(.ref xb), (.ref a)])) rfl rfl (hb hby d3_14)
  have pre_14 : Rch p.tables e below (s₁.setTop (entryFrame m #[(.ref a), (.ref ca), (.int (0 : Int32)), (.int (0 : Int32)), .null] 6)) (T_14.setTop (mkF m 17 #[.val (.ref a), .val (.ref ca), .val (.int (0 : Int32)), .val (.int (0 : Int32)), .val .null, .unset] [])) := fun tgt ktg => pre_13 tgt (st_14 tgt ktg)
  have C_15 : CHr Z consts_1 s.vm h0 T_5.vm h_14 := C_6.trans (CHr.wr W_14 f_10 C_6.1)
  have hk_15 := Nat.le_trans hk_5 (Keep.of_wr W_14).1
  have f_16 : Exa Z h_14 a "java/lang/String" := f_7.wr W_14
  have f_17 : Fld Z h_14 a "java/lang/String" "coder" "B" (.int (0 : Int32)) := f_9.other W_14 (Or.inr (slot_ne (Or.inr (hw _ (List.mem_of_getElem? (i := 31) rfl))) (Or.inr (hw _ (List.mem_of_getElem? (i := 33) rfl))) (by decide) (t := .byte) (t' := (.array .byte)) (by decide) (by decide)))
  have f_18 : Safe Z consts_1 T_5.vm h_14 a := Safe.wr W_14 f_10 C_6.1 f_10
  have f_19 : Exa Z h_14 x "java/lang/String" := fE_5.wr W_14
  have f_20 : Fld Z h_14 x "java/lang/String" "coder" "B" (.int (0 : Int32)) := fC_5.other W_14 (Or.inl (Ne.symm ne_a_x))
  have f_21 : Fld Z h_14 x "java/lang/String" "value" "[B" (.ref xb) := fV_5.other W_14 (Or.inl (Ne.symm ne_a_x))
  have f_22 : Arv Z h_14 xb kl_5 .byte (0 : Int32) [] (.int 0) := fA_5.other W_14 (Ne.symm ne_a_xb)
  have z_23 : n0 ≤ h_14.size := Nat.le_trans z_11 (Keep.of_wr W_14).1
  have K_24 : Keep h0 h_14 [a] := K_12.wr W_14 (Or.inl (List.mem_of_getElem? (i := 0) rfl))
  have f_25 : Fld Z h_14 a "java/lang/String" "value" "[B" (.ref xb) := f_8.same W_14
  have N_26 := Fr.snoc X_14 N0 ga
  have pre_27 : Rch p.tables e below (s₁.setTop (entryFrame m #[(.ref a), (.ref ca), (.int (0 : Int32)), (.int (0 : Int32)), .null] 6)) (T_14.setTop (mkF m 18 #[.val (.ref a), .val (.ref ca), .val (.int (0 : Int32)), .val (.int (0 : Int32)), .val .null, .unset] [(.ref a)])) := fun tgt ktg => pre_14 tgt (by
    show Steps p.tables e below (T_14.setTop (mkF m 17 #[.val (.ref a), .val (.ref ca), .val (.int (0 : Int32)), .val (.int (0 : Int32)), .val .null, .unset] [])) _
    refine XS.aloadN X_14.here hx rfl (hb hby d3_17) rfl rfl ?_
    exact ktg)
  obtain ⟨y, T_28, h_28, k1__28, yb, kl_28, X_28, e_28, E_28, hS_28, hk_28, hZ, hown, fE_28, fC_28, fV_28, fA_28, la_28, lb_28, hC_28, hL_28, hne_28, st_28⟩ := ldcCH X_14 hx hZ hown (hw _ (List.mem_of_getElem? (i := 84) rfl)) wS e_14 hS_5 hk_15 hEL (List.mem_of_getElem? (i := 0) rfl) C_15.1 (vs := []) (z := (0 : Int32)) ⟨by decide, by rfl⟩ (by decide) rfl (g := (mkF m 18 #[.val (.ref a), .val (.ref ca), .val (.int (0 : Int32)), .val (.int (0 : Int32)), .val .null, .unset] [(.ref a)])) rfl (hb hby d3_18) (n := 0) (by decide) (by decide) (by decide) (by decide)
  have pre_28 : Rch p.tables e below (s₁.setTop (entryFrame m #[(.ref a), (.ref ca), (.int (0 : Int32)), (.int (0 : Int32)), .null] 6)) (T_28.setTop (mkF m 20 #[.val (.ref a), .val (.ref ca), .val (.int (0 : Int32)), .val (.int (0 : Int32)), .val .null, .unset] [(.ref y), (.ref a)])) := fun tgt ktg => pre_27 tgt (st_28 tgt ktg)
  have C_29 : CHr Z consts_1 s.vm h0 T_28.vm h_28 := C_15.trans hC_28
  have f_30 : Exa Z h_28 a "java/lang/String" := f_16.ext E_28
  have f_31 : Fld Z h_28 a "java/lang/String" "coder" "B" (.int (0 : Int32)) := f_17.ext E_28
  have f_32 : Safe Z consts_1 T_28.vm h_28 a := CHr.safe hC_28 f_16.lt f_18
  have f_33 : Arv Z h_28 xb kl_5 .byte (0 : Int32) [] (.int 0) := f_22.ext E_28
  have f_34 : Fld Z h_28 a "java/lang/String" "value" "[B" (.ref xb) := f_25.ext E_28
  obtain ⟨ne_a_y, ne_a_yb⟩ := hne_28 _ f_32
  have z_35 : n0 ≤ h_28.size := Nat.le_trans z_23 E_28.1
  have K_36 : Keep h0 h_28 [a] := K_24.ext E_28
  obtain ⟨T_37, X_37, e_37, st_37⟩ := getF X_28 hx hZ hown (host := "") (Or.inl (hw _ (List.mem_of_getElem? (i := 30) rfl))) Via.refl e_28 fC_28 (g := (mkF m 20 #[.val (.ref a), .val (.ref ca), .val (.int (0 : Int32)), .val (.int (0 : Int32)), .val .null, .unset] [(.ref y), (.ref a)])) rfl rfl (hb hby d3_20)
  have pre_37 : Rch p.tables e below (s₁.setTop (entryFrame m #[(.ref a), (.ref ca), (.int (0 : Int32)), (.int (0 : Int32)), .null] 6)) (T_37.setTop (mkF m 23 #[.val (.ref a), .val (.ref ca), .val (.int (0 : Int32)), .val (.int (0 : Int32)), .val .null, .unset] [(.int (0 : Int32)), (.ref a)])) := fun tgt ktg => pre_28 tgt (st_37 tgt ktg)
  obtain ⟨T_38, h_38, X_38, e_38, W_38, st_38⟩ := putFN X_37 hx hZ hown (hw _ (List.mem_of_getElem? (i := 30) rfl)) Via.refl e_37 f_31 f_30 (Or.inr ⟨(hw _ (List.mem_of_getElem? (i := 31) rfl)), rfl, hnm⟩) (hw _ (List.mem_of_getElem? (i := 5) rfl)) (ty := .byte) (v' := (.int (0 : Int32))) (by decide) rfl (by decide) (g := (mkF m 23 #[.val (.ref a), .val (.ref ca), .val (.int (0 : Int32)), .val (.int (0 : Int32)), .val .null, .unset] [(.int (0 : Int32)), (.ref a)])) rfl rfl (hb hby d3_23)
  have pre_38 : Rch p.tables e below (s₁.setTop (entryFrame m #[(.ref a), (.ref ca), (.int (0 : Int32)), (.int (0 : Int32)), .null] 6)) (T_38.setTop (mkF m 26 #[.val (.ref a), .val (.ref ca), .val (.int (0 : Int32)), .val (.int (0 : Int32)), .val .null, .unset] [])) := fun tgt ktg => pre_37 tgt (st_38 tgt ktg)
  have C_39 : CHr Z consts_1 s.vm h0 T_28.vm h_38 := C_29.trans (CHr.wr W_38 f_32 C_29.1)
  have hk_39 := Nat.le_trans hk_28 (Keep.of_wr W_38).1
  have f_40 : Exa Z h_38 a "java/lang/String" := f_30.wr W_38
  have f_41 : Safe Z consts_1 T_28.vm h_38 a := Safe.wr W_38 f_32 C_29.1 f_32
  have f_42 : Arv Z h_38 xb kl_5 .byte (0 : Int32) [] (.int 0) := f_33.other W_38 (Ne.symm ne_a_xb)
  have f_43 : Fld Z h_38 a "java/lang/String" "value" "[B" (.ref xb) := f_34.other W_38 (Or.inr (slot_ne (Or.inr (hw _ (List.mem_of_getElem? (i := 33) rfl))) (Or.inr (hw _ (List.mem_of_getElem? (i := 31) rfl))) (by decide) (t := (.array .byte)) (t' := .byte) (by decide) (by decide)))
  have f_44 : Exa Z h_38 y "java/lang/String" := fE_28.wr W_38
  have f_45 : Fld Z h_38 y "java/lang/String" "coder" "B" (.int (0 : Int32)) := fC_28.other W_38 (Or.inl (Ne.symm ne_a_y))
  have f_46 : Fld Z h_38 y "java/lang/String" "value" "[B" (.ref yb) := fV_28.other W_38 (Or.inl (Ne.symm ne_a_y))
  have f_47 : Arv Z h_38 yb kl_28 .byte (0 : Int32) [] (.int 0) := fA_28.other W_38 (Ne.symm ne_a_yb)
  have z_48 : n0 ≤ h_38.size := Nat.le_trans z_35 (Keep.of_wr W_38).1
  have K_49 : Keep h0 h_38 [a] := K_36.wr W_38 (Or.inl (List.mem_of_getElem? (i := 0) rfl))
  have f_50 : Fld Z h_38 a "java/lang/String" "coder" "B" (.int (0 : Int32)) := f_31.same W_38
  have N_51 := Fr.snoc X_38 N_26 ga
  obtain ⟨fs, hr, hrun, hended, hW⟩ := X_38.leaveW hS_28 (by rw [e_38]; exact hk_39) (v := none) (fun _ => rfl)
  refine ⟨_, _, pre_38 _ ?_, hrun, hended, _, _, rfl, ?_, ?_, hW.1, hW.2.1, hW.2.2.1, hW.2.2.2.mono (by decide) (by decide)⟩
  · show Steps p.tables e below (T_38.setTop (mkF m 26 #[.val (.ref a), .val (.ref ca), .val (.int (0 : Int32)), .val (.int (0 : Int32)), .val .null, .unset] [])) _
    exact X_38.returnOut hx Bd.returns (hb hby d3_26) hr
  · show Qsv0 Z a ca h0 n0 _ T_38.heap _
    rw [e_38]
    exact ⟨xb, kl_5, rfl, N_51, K_49, f_40, f_50, f_43, f_42⟩
  · show CHr Z consts_1 s.vm s.heap T_38.vm T_38.heap
    rw [hh, e_38]
    exact C_39.trans (CHv.at X_38 hZ hEL C_39.1)
theorem ef_sc0 (m : MethodId) (x0 : Addr) (x1 : Addr) : entryFrame m #[(.ref x0), (.ref x1)] 2 = mkF m 0 #[.val (.ref x0), .val (.ref x1)] [] := by first | (simp [entryFrame, mkF, argsToLocals, Value.category]; done) | rfl
def Qsc0 (Z : State) (a : Addr) (ca : Addr) (kc : ClassId) (h0 : Heap) (n0 : Nat) (v : Option Value) (h : Heap) (L : List Loc) : Prop := ∃ (ba : Addr) (kb : ClassId), v = none ∧ Fr n0 L ∧ Keep h0 h [a] ∧ Exa Z h a "java/lang/String" ∧ Fld Z h a "java/lang/String" "coder" "B" (.int (0 : Int32)) ∧ Fld Z h a "java/lang/String" "value" "[B" (.ref ba) ∧ Arv Z h ba kb .byte (0 : Int32) [] (.int (0 : Int32))
set_option maxRecDepth 65536 in
set_option maxHeartbeats 40000000 in
theorem rmsc0 (l : Launch) (Z : State) (a0 : Array Value) (hw : ∀ d ∈ tables_1, d.before a0 Z = true) (ws : List Jvm.Cond) (a : Addr) (ca : Addr) (kc : ClassId) (h0 : Heap) (n0 : Nat) (Z0 : n0 ≤ h0.size) (E1 : Exa Z h0 a "java/lang/String") (F1 : Fld Z h0 a "java/lang/String" "value" "[B" .null) (F2 : Fld Z h0 a "java/lang/String" "coder" "B" (.int (0 : Int32))) (ga : n0 ≤ a)  (A1 : Arv Z h0 ca kc .char (0 : Int32) [] (.int (0 : Int32))) :
    MetFree l (⟨"java/lang/String", "<init>", "([C)V"⟩ : MethodName) (head1 (Jvm.Cond.code (⟨"java/lang/String", "<init>", "([C)V"⟩ : MethodName) jdk_42_method_3_code 2 none :: ws) ({ frames := 2, cells := 4, slots := 8, locals := 40 } : Room)) (fun aA U => aA = #[(.ref a), (.ref ca)] ∧ Z.Warmed39 U.vm ∧ U.heap = h0 ∧ CHv Z consts_1 U.vm h0) (fun _ _ _ _ _ => True) (fun _ U oO U' => ∃ vV LL, oO = .returned vV ∧ Qsc0 Z a ca kc h0 n0 vV U'.heap LL ∧ CHr Z consts_1 U.vm U.heap U'.vm U'.heap ∧ ReturnedEndW U oO U' LL ({ frames := 2, cells := 4, slots := 8, locals := 40 } : Room).cells ({ frames := 2, cells := 4, slots := 8, locals := 40 } : Room).slots) := by
  refine MetFree.of_bodySF (plainFor_of_name pn_0) hisR ?_
  intro p e s m args below meth c s₁ Bd hml0 hP hK
  obtain ⟨rfl, hZ, hh, hC⟩ := hP
  have hx := Bd.exec
  have hby := Bd.bytes
  have hml : c.maxLocals = 2 := hml0
  have hown : s.vm.findClass "java/lang/String" = some m.cls := findClass_of_methodNamed Bd.named
  have hnm := (name_of_methodNamed Bd.named Bd.method).1
  have X0 : Stand p l e ({ frames := 2, cells := 4, slots := 8, locals := 40 } : Room) (s.setVm s.vm) m #[(.ref a), (.ref ca)] below meth c s₁ [] 0 0 := Stand.of_body Bd
  have e0 : s₁.heap = h0 := by rw [← hh, Bd.state]; rfl
  have N0 := Fr.nil n0
  have K0 : Keep h0 h0 [a] := Keep.refl _ _
  have hS0 : s.Since s.vm 0 := (State.WarmedH.refl s).since _
  have hk0 : 0 ≤ h0.size := Nat.zero_le _
  have C0 : CHr Z consts_1 s.vm h0 s.vm h0 := CHr.refl hC
  have hEL := own_EW hw
  have wS := own_wS hw
  have pre0 : Rch p.tables e below (s₁.setTop (entryFrame m #[(.ref a), (.ref ca)] 2)) (s₁.setTop (mkF m 0 #[.val (.ref a), .val (.ref ca)] [])) := fun tgt ktg => castTop (ef_sc0 m a ca) ktg
  have pre_1 : Rch p.tables e below (s₁.setTop (entryFrame m #[(.ref a), (.ref ca)] 2)) (s₁.setTop (mkF m 4 #[.val (.ref a), .val (.ref ca)] [(.ref ca), (.int (0 : Int32)), (.ref ca), (.ref a)])) := fun tgt ktg => pre0 tgt (by
    show Steps p.tables e below (s₁.setTop (mkF m 0 #[.val (.ref a), .val (.ref ca)] [])) _
    refine XS.aloadN X0.here hx rfl (hb hby d2_0) rfl rfl ?_
    show Steps p.tables e below (s₁.setTop (mkF m 1 #[.val (.ref a), .val (.ref ca)] [(.ref a)])) _
    refine XS.aloadN X0.here hx rfl (hb hby d2_1) rfl rfl ?_
    show Steps p.tables e below (s₁.setTop (mkF m 2 #[.val (.ref a), .val (.ref ca)] [(.ref ca), (.ref a)])) _
    refine XS.iconst X0.here hx rfl (hb hby d2_2) ?_
    show Steps p.tables e below (s₁.setTop (mkF m 3 #[.val (.ref a), .val (.ref ca)] [(.int (0 : Int32)), (.ref ca), (.ref a)])) _
    refine XS.aloadN X0.here hx rfl (hb hby d2_3) rfl rfl ?_
    exact ktg)
  obtain ⟨cl__2, Ar__2, q__2, S__2, N__2, H__2, G__2⟩ := id A1
  have pre_3 : Rch p.tables e below (s₁.setTop (entryFrame m #[(.ref a), (.ref ca)] 2)) (s₁.setTop (mkF m 5 #[.val (.ref a), .val (.ref ca)] [(.int (0 : Int32)), (.int (0 : Int32)), (.ref ca), (.ref a)])) := fun tgt ktg => pre_1 tgt (X0.arraylength hx (by rw [e0]; exact Ar__2.1) (State.isArrayOf_alike hZ.alike Ar__2.2.1) (g := (mkF m 4 #[.val (.ref a), .val (.ref ca)] [(.ref ca), (.int (0 : Int32)), (.ref ca), (.ref a)])) rfl rfl (hb hby d2_4) _ (by rw [len_of S__2 N__2]; exact ktg))
  have pre_4 : Rch p.tables e below (s₁.setTop (entryFrame m #[(.ref a), (.ref ca)] 2)) (s₁.setTop (mkF m 6 #[.val (.ref a), .val (.ref ca)] [.null, (.int (0 : Int32)), (.int (0 : Int32)), (.ref ca), (.ref a)])) := fun tgt ktg => pre_3 tgt (by
    show Steps p.tables e below (s₁.setTop (mkF m 5 #[.val (.ref a), .val (.ref ca)] [(.int (0 : Int32)), (.int (0 : Int32)), (.ref ca), (.ref a)])) _
    refine XS.aconstNull X0.here hx rfl (hb hby d2_5) ?_
    exact ktg)
  obtain ⟨_, _, ⟨T_5, L_5, k_5, n_5⟩, -, X_5, hSn_5, hgr_5, ⟨Lc_5, hQ_5, l_5, y_5, z_5, hCn_5⟩, st_5⟩ := X0.specialBackS hx (y := (⟨"java/lang/String", "<init>", "([CIILjava/lang/Void;)V"⟩ : MethodName)) rfl hown (mvT hZ (hw _ (List.mem_of_getElem? (i := 11) rfl))) (mvT hZ (hw _ (List.mem_of_getElem? (i := 12) rfl))) (mvT hZ (hw _ (List.mem_of_getElem? (i := 14) rfl))) (by decide) (backOfSH (W := 0) (rmsv0 l Z a0 hw [] a ca h0 n0 Z0 E1 F1 F2 ga) hZ (hw _ (List.mem_of_getElem? (i := 14) rfl)) (hw _ (List.mem_of_getElem? (i := 6) rfl)) (by decide) (by decide) hEL C0.1) (g := (mkF m 6 #[.val (.ref a), .val (.ref ca)] [.null, (.int (0 : Int32)), (.int (0 : Int32)), (.ref ca), (.ref a)])) rfl (by rw [hml]; rfl) (Steps.refl _) (a := a) (argsL := [(.ref ca), (.int (0 : Int32)), (.int (0 : Int32)), .null]) (rest := []) (lenOf pd_10 rfl) rfl (by show 2 * 0 + _ ≤ _; exact Nat.le_of_eq rfl) (hb hby d2_6) (fun _ _ => ⟨rfl, e0, (by decide : 0 + 4 ≤ _), (by decide : 0 + 8 ≤ _)⟩)
  dsimp only [Pt.U, Pt.locs, Pt.cells, Pt.slots] at X_5 l_5 y_5 z_5 st_5 hQ_5 hSn_5 hgr_5 hCn_5
  subst l_5 y_5 z_5
  obtain ⟨ba, kb, rfl, Nq_5, Kq_5, b1, b2, b3, b4⟩ := hQ_5
  have N_6 := Fr.app N0 Nq_5
  have pre_5 : Rch p.tables e below (s₁.setTop (entryFrame m #[(.ref a), (.ref ca)] 2)) (T_5.setTop (mkF m 9 #[.val (.ref a), .val (.ref ca)] [])) := fun tgt ktg => pre_4 tgt (st_5.trans ktg)
  have hS_5 : s.Since T_5.vm T_5.heap.size := hS0.trans hSn_5 (Nat.le_trans hk0 (by rw [← e0]; exact hgr_5))
  have hk_5 := Nat.le_refl T_5.heap.size
  have hZn_5 : Z.Warmed39 T_5.vm := State.Warmed39.trans (t := s.setVm s.vm) hZ hSn_5.1
  have hownn_5 : T_5.vm.findClass "java/lang/String" = some m.cls := by rw [hSn_5.1.alike.findClass]; exact hown
  have hZ := hZn_5
  have hown := hownn_5
  have C_7 : CHr Z consts_1 s.vm h0 T_5.vm T_5.heap := C0.trans hCn_5
  have z_8 : n0 ≤ T_5.heap.size := Nat.le_trans Z0 Kq_5.1
  have K_9 : Keep h0 T_5.heap [a] := K0.trans Kq_5 (allS (P := fun x => x ∈ [a] ∨ h0.size ≤ x) (Or.inl (List.mem_of_getElem? (i := 0) rfl)) (all0 (P := fun x => x ∈ [a] ∨ h0.size ≤ x)))
  obtain ⟨fs, hr, hrun, hended, hW⟩ := X_5.leaveW hS_5 hk_5 (v := none) (fun _ => rfl)
  refine ⟨_, _, pre_5 _ ?_, hrun, hended, _, _, rfl, ?_, ?_, hW.1, hW.2.1, hW.2.2.1, hW.2.2.2.mono (by decide) (by decide)⟩
  · show Steps p.tables e below (T_5.setTop (mkF m 9 #[.val (.ref a), .val (.ref ca)] [])) _
    exact X_5.returnOut hx Bd.returns (hb hby d2_9) hr
  · show Qsc0 Z a ca kc h0 n0 _ T_5.heap _
    exact ⟨ba, kb, rfl, N_6, K_9, b1, b2, b3, b4⟩
  · show CHr Z consts_1 s.vm s.heap T_5.vm T_5.heap
    rw [hh]
    exact C_7.trans (CHv.at X_5 hZ hEL C_7.1)
theorem d1_4 : decode method_3_code 4 = .ok (.new 23, 3) := by decide +kernel
theorem d1_7 : decode method_3_code 7 = .ok (.dup, 1) := by decide +kernel
theorem d1_8 : decode method_3_code 8 = .ok (.iconst 0, 1) := by decide +kernel
theorem d1_9 : decode method_3_code 9 = .ok (.newarray .char, 2) := by decide +kernel
theorem d1_11 : decode method_3_code 11 = .ok (.invokespecial 25, 3) := by decide +kernel
theorem d1_14 : decode method_3_code 14 = .ok (.areturn, 1) := by decide +kernel
theorem ef_mk0 (m : MethodId) (x0 : Int32) (x1 : Int32) (x2 : Int32) (x3 : Int32) : entryFrame m #[(.int x0), (.int x1), (.int x2), (.int x3)] 4 = mkF m 0 #[.val (.int x0), .val (.int x1), .val (.int x2), .val (.int x3)] [] := by first | (simp [entryFrame, mkF, argsToLocals, Value.category]; done) | rfl
def Qmk0 (Z : State) (qa : Int32) (qb : Int32) (qc : Int32) (h0 : Heap) (n0 : Nat) (v : Option Value) (h : Heap) (L : List Loc) : Prop := ∃ (a b : Addr) (kb : ClassId), v = some (.ref a) ∧ Fr n0 L ∧ Keep h0 h [] ∧ Exa Z h a "java/lang/String" ∧ Fld Z h a "java/lang/String" "coder" "B" (.int (0 : Int32)) ∧ Fld Z h a "java/lang/String" "value" "[B" (.ref b) ∧ Arv Z h b kb .byte (0 : Int32) [] (.int (0 : Int32))
set_option maxRecDepth 65536 in
set_option maxHeartbeats 40000000 in
theorem rmmk0 (l : Launch) (Z : State) (a0 : Array Value) (hw : ∀ d ∈ tables_1, d.before a0 Z = true) (ws : List Jvm.Cond) (qa : Int32) (qb : Int32) (qc : Int32) (h0 : Heap) (n0 : Nat) (Z0 : n0 ≤ h0.size)  :
    MetFree l (⟨"com/example/termwell/termwell/tables/XmlTextPlainAsciiPinLaw", "make", "(ICCC)Ljava/lang/String;"⟩ : MethodName) (head1 (Jvm.Cond.code (⟨"com/example/termwell/termwell/tables/XmlTextPlainAsciiPinLaw", "make", "(ICCC)Ljava/lang/String;"⟩ : MethodName) method_3_code 4 (some (.object "java/lang/String")) :: ws) ({ frames := 3, cells := 6, slots := 12, locals := 60 } : Room)) (fun aA U => aA = #[(.int (0 : Int32)), (.int qa), (.int qb), (.int qc)] ∧ Z.Warmed39 U.vm ∧ U.heap = h0 ∧ CHv Z consts_1 U.vm h0) (fun _ _ _ _ _ => True) (fun _ U oO U' => ∃ vV LL, oO = .returned vV ∧ Qmk0 Z qa qb qc h0 n0 vV U'.heap LL ∧ CHr Z consts_1 U.vm U.heap U'.vm U'.heap ∧ ReturnedEndW U oO U' LL ({ frames := 3, cells := 6, slots := 12, locals := 60 } : Room).cells ({ frames := 3, cells := 6, slots := 12, locals := 60 } : Room).slots) := by
  refine MetFree.of_bodySF (plainFor_of_name pn_4) hisR ?_
  intro p e s m args below meth c s₁ Bd hml0 hP hK
  obtain ⟨rfl, hZ, hh, hC⟩ := hP
  have hx := Bd.exec
  have hby := Bd.bytes
  have hml : c.maxLocals = 4 := hml0
  have hown : s.vm.findClass "com/example/termwell/termwell/tables/XmlTextPlainAsciiPinLaw" = some m.cls := findClass_of_methodNamed Bd.named
  have hnm := (name_of_methodNamed Bd.named Bd.method).1
  have X0 : Stand p l e ({ frames := 3, cells := 6, slots := 12, locals := 60 } : Room) (s.setVm s.vm) m #[(.int (0 : Int32)), (.int qa), (.int qb), (.int qc)] below meth c s₁ [] 0 0 := Stand.of_body Bd
  have e0 : s₁.heap = h0 := by rw [← hh, Bd.state]; rfl
  have N0 := Fr.nil n0
  have K0 : Keep h0 h0 [] := Keep.refl _ _
  have hS0 : s.Since s.vm 0 := (State.WarmedH.refl s).since _
  have hk0 : 0 ≤ h0.size := Nat.zero_le _
  have C0 : CHr Z consts_1 s.vm h0 s.vm h0 := CHr.refl hC
  have hEL := own_EW hw
  have wS := own_wS hw
  have pre0 : Rch p.tables e below (s₁.setTop (entryFrame m #[(.int (0 : Int32)), (.int qa), (.int qb), (.int qc)] 4)) (s₁.setTop (mkF m 0 #[.val (.int (0 : Int32)), .val (.int qa), .val (.int qb), .val (.int qc)] [])) := fun tgt ktg => castTop (ef_mk0 m (0 : Int32) qa qb qc) ktg
  have pre_1 : Rch p.tables e below (s₁.setTop (entryFrame m #[(.int (0 : Int32)), (.int qa), (.int qb), (.int qc)] 4)) (s₁.setTop (mkF m 4 #[.val (.int (0 : Int32)), .val (.int qa), .val (.int qb), .val (.int qc)] [])) := fun tgt ktg => pre0 tgt (by
    show Steps p.tables e below (s₁.setTop (mkF m 0 #[.val (.int (0 : Int32)), .val (.int qa), .val (.int qb), .val (.int qc)] [])) _
    refine XS.iloadN X0.here hx rfl (hb hby d1_0) rfl ?_
    show Steps p.tables e below (s₁.setTop (mkF m 1 #[.val (.int (0 : Int32)), .val (.int qa), .val (.int qb), .val (.int qc)] [(.int (0 : Int32))])) _
    refine XS.ifNo X0.here hx rfl (hb hby d1_1) rfl ((if0 _ _).trans (teq (rfl : (0 : Int32) = (0 : Int32))).2) ?_
    exact ktg)
  obtain ⟨T_2, h_2, X_2, e_2, E_2, A_2, D_2, U_2, st_2⟩ := newO X0 hx hZ hown (hw _ (List.mem_of_getElem? (i := 4) rfl)) (hw _ (List.mem_of_getElem? (i := 5) rfl)) (hw _ (List.mem_of_getElem? (i := 6) rfl)) e0 (g := (mkF m 4 #[.val (.int (0 : Int32)), .val (.int qa), .val (.int qb), .val (.int qc)] [])) rfl (hb hby d1_4) (by decide) (by decide)
  obtain ⟨a, g_2⟩ : ∃ nm_, nm_ = h0.size := ⟨_, rfl⟩
  rw [← g_2] at A_2 D_2 U_2 st_2
  have g_a : n0 ≤ a := Nat.le_trans Z0 (Nat.le_of_eq g_2.symm)
  have sz_a : h0.size ≤ a := Nat.le_trans K0.1 (Nat.le_of_eq g_2.symm)
  have f_3 : Safe Z consts_1 s.vm h0 a := Safe.new (Nat.le_of_eq g_2.symm)
  have pre_2 : Rch p.tables e below (s₁.setTop (entryFrame m #[(.int (0 : Int32)), (.int qa), (.int qb), (.int qc)] 4)) (T_2.setTop (mkF m 7 #[.val (.int (0 : Int32)), .val (.int qa), .val (.int qb), .val (.int qc)] [(.ref a)])) := fun tgt ktg => pre_1 tgt (st_2 tgt ktg)
  have C_4 : CHr Z consts_1 s.vm h0 s.vm h_2 := C0.trans (CHr.ext E_2 C0.1)
  have hk_4 := Nat.le_trans hk0 E_2.1
  have f_5 : Safe Z consts_1 s.vm h_2 a := Safe.ext E_2 C0.1 f_3
  have z_6 : n0 ≤ h_2.size := Nat.le_trans Z0 E_2.1
  have K_7 : Keep h0 h_2 [] := K0.ext E_2
  have f_8 : Exa Z h_2 a "java/lang/String" := A_2
  have f_9 : Fld Z h_2 a "java/lang/String" "coder" "B" (.int (0 : Int32)) := D_2 (Or.inr (hw _ (List.mem_of_getElem? (i := 31) rfl))) (ty := .byte) (by decide)
  have f_10 : Fld Z h_2 a "java/lang/String" "value" "[B" .null := D_2 (Or.inr (hw _ (List.mem_of_getElem? (i := 33) rfl))) (ty := (.array .byte)) (by decide)
  have pre_11 : Rch p.tables e below (s₁.setTop (entryFrame m #[(.int (0 : Int32)), (.int qa), (.int qb), (.int qc)] 4)) (T_2.setTop (mkF m 9 #[.val (.int (0 : Int32)), .val (.int qa), .val (.int qb), .val (.int qc)] [(.int (0 : Int32)), (.ref a), (.ref a)])) := fun tgt ktg => pre_2 tgt (by
    show Steps p.tables e below (T_2.setTop (mkF m 7 #[.val (.int (0 : Int32)), .val (.int qa), .val (.int qb), .val (.int qc)] [(.ref a)])) _
    refine XS.dup X_2.here hx rfl (hb hby d1_7) rfl rfl ?_
    show Steps p.tables e below (T_2.setTop (mkF m 8 #[.val (.int (0 : Int32)), .val (.int qa), .val (.int qb), .val (.int qc)] [(.ref a), (.ref a)])) _
    refine XS.iconst X_2.here hx rfl (hb hby d1_8) ?_
    exact ktg)
  obtain ⟨T_12, h_12, k_12, X_12, e_12, E_12, A_12, st_12⟩ := newP X_2 hx hZ (hw _ (List.mem_of_getElem? (i := 7) rfl)) e_2 (g := (mkF m 9 #[.val (.int (0 : Int32)), .val (.int qa), .val (.int qb), .val (.int qc)] [(.int (0 : Int32)), (.ref a), (.ref a)])) rfl (hb hby d1_9) rfl (by decide) (cap := 0) (by decide) (by decide) (by decide) (by decide)
  obtain ⟨ca, g_12⟩ : ∃ nm_, nm_ = h_2.size := ⟨_, rfl⟩
  rw [← g_12] at A_12 st_12
  have ne_a_ca : a ≠ ca := Nat.ne_of_lt (Nat.lt_of_lt_of_le f_8.lt (Nat.le_of_eq g_12.symm))
  have g_ca : n0 ≤ ca := Nat.le_trans z_6 (Nat.le_of_eq g_12.symm)
  have sz_ca : h0.size ≤ ca := Nat.le_trans K_7.1 (Nat.le_of_eq g_12.symm)
  have f_13 : Safe Z consts_1 s.vm h_2 ca := Safe.new (Nat.le_of_eq g_12.symm)
  have pre_12 : Rch p.tables e below (s₁.setTop (entryFrame m #[(.int (0 : Int32)), (.int qa), (.int qb), (.int qc)] 4)) (T_12.setTop (mkF m 11 #[.val (.int (0 : Int32)), .val (.int qa), .val (.int qb), .val (.int qc)] [(.ref ca), (.ref a), (.ref a)])) := fun tgt ktg => pre_11 tgt (st_12 tgt ktg)
  have C_14 : CHr Z consts_1 s.vm h0 s.vm h_12 := C_4.trans (CHr.ext E_12 C_4.1)
  have hk_14 := Nat.le_trans hk_4 E_12.1
  have f_15 : Safe Z consts_1 s.vm h_12 a := Safe.ext E_12 C_4.1 f_5
  have f_16 : Exa Z h_12 a "java/lang/String" := f_8.ext E_12
  have f_17 : Fld Z h_12 a "java/lang/String" "coder" "B" (.int (0 : Int32)) := f_9.ext E_12
  have f_18 : Fld Z h_12 a "java/lang/String" "value" "[B" .null := f_10.ext E_12
  have f_19 : Safe Z consts_1 s.vm h_12 ca := Safe.ext E_12 C_4.1 f_13
  have z_20 : n0 ≤ h_12.size := Nat.le_trans z_6 E_12.1
  have K_21 : Keep h0 h_12 [] := K_7.ext E_12
  have f_22 : Arv Z h_12 ca k_12 .char (0 : Int32) [] (.int (0 : Int32)) := (Arv.new A_12 (by decide)).pad (pad_rep [] (.int (0 : Int32)) 0)
  obtain ⟨_, _, ⟨T_23, L_23, k_23, n_23⟩, -, X_23, hSn_23, hgr_23, ⟨Lc_23, hQ_23, l_23, y_23, z_23, hCn_23⟩, st_23⟩ := X_12.specialBackS hx (y := (⟨"java/lang/String", "<init>", "([C)V"⟩ : MethodName)) rfl hown (mvT hZ (hw _ (List.mem_of_getElem? (i := 8) rfl))) (mvT hZ (hw _ (List.mem_of_getElem? (i := 9) rfl))) (mvT hZ (hw _ (List.mem_of_getElem? (i := 10) rfl))) (by decide) (backOfSH (W := 1) (rmsc0 l Z a0 hw [] a ca k_12 h_12 n0 z_20 f_16 f_18 f_17 g_a f_22) hZ (hw _ (List.mem_of_getElem? (i := 10) rfl)) (hw _ (List.mem_of_getElem? (i := 6) rfl)) (by decide) (by decide) hEL C_14.1) (g := (mkF m 11 #[.val (.int (0 : Int32)), .val (.int qa), .val (.int qb), .val (.int qc)] [(.ref ca), (.ref a), (.ref a)])) rfl (by rw [hml]; rfl) (Steps.refl _) (a := a) (argsL := [(.ref ca)]) (rest := [(.ref a)]) (lenOf pd_11 rfl) rfl (by show 2 * 0 + _ ≤ _; exact Nat.le_of_eq rfl) (hb hby d1_11) (fun _ _ => ⟨rfl, e_12, (by decide : 2 + 4 ≤ _), (by decide : 4 + 8 ≤ _)⟩)
  dsimp only [Pt.U, Pt.locs, Pt.cells, Pt.slots] at X_23 l_23 y_23 z_23 st_23 hQ_23 hSn_23 hgr_23 hCn_23
  subst l_23 y_23 z_23
  obtain ⟨ba, kb, rfl, Nq_23, Kq_23, b1, b2, b3, b4⟩ := hQ_23
  have N_24 := Fr.app N0 Nq_23
  have pre_23 : Rch p.tables e below (s₁.setTop (entryFrame m #[(.int (0 : Int32)), (.int qa), (.int qb), (.int qc)] 4)) (T_23.setTop (mkF m 14 #[.val (.int (0 : Int32)), .val (.int qa), .val (.int qb), .val (.int qc)] [(.ref a)])) := fun tgt ktg => pre_12 tgt (st_23.trans ktg)
  have hS_23 : s.Since T_23.vm T_23.heap.size := hS0.trans hSn_23 (Nat.le_trans hk_14 (by rw [← e_12]; exact hgr_23))
  have hk_23 := Nat.le_refl T_23.heap.size
  have hZn_23 : Z.Warmed39 T_23.vm := State.Warmed39.trans (t := s.setVm s.vm) hZ hSn_23.1
  have hownn_23 : T_23.vm.findClass "com/example/termwell/termwell/tables/XmlTextPlainAsciiPinLaw" = some m.cls := by rw [hSn_23.1.alike.findClass]; exact hown
  have hZ := hZn_23
  have hown := hownn_23
  have C_25 : CHr Z consts_1 s.vm h0 T_23.vm T_23.heap := C_14.trans hCn_23
  have z_26 : n0 ≤ T_23.heap.size := Nat.le_trans z_20 Kq_23.1
  have K_27 : Keep h0 T_23.heap [] := K_21.trans Kq_23 (allS (P := fun x => x ∈ ([] : List Addr) ∨ h0.size ≤ x) (Or.inr sz_a) (all0 (P := fun x => x ∈ ([] : List Addr) ∨ h0.size ≤ x)))
  obtain ⟨fs, hr, hrun, hended, hW⟩ := X_23.leaveW hS_23 hk_23 (v := some (.ref a)) (fun h => by rw [Bd.returns] at h; cases h)
  refine ⟨_, _, pre_23 _ ?_, hrun, hended, _, _, rfl, ?_, ?_, hW.1, hW.2.1, hW.2.2.1, hW.2.2.2.mono (by decide) (by decide)⟩
  · show Steps p.tables e below (T_23.setTop (mkF m 14 #[.val (.int (0 : Int32)), .val (.int qa), .val (.int qb), .val (.int qc)] [(.ref a)])) _
    jvm_step X_23.here [X_23.here.top, hx, (hb hby d1_14), X_23.method', Bd.returns, Value.isRef, FieldType.isReference]
    first | (intro acts; rw [hr _ acts rfl rfl rfl]) | rw [hr _ _ rfl rfl rfl]
    exact Steps.refl _
  · show Qmk0 Z qa qb qc h0 n0 _ T_23.heap _
    exact ⟨a, ba, kb, rfl, N_24, K_27, b1, b2, b3, b4⟩
  · show CHr Z consts_1 s.vm s.heap T_23.vm T_23.heap
    rw [hh]
    exact C_25.trans (CHv.at X_23 hZ hEL C_25.1)
def exl : List Int32 → Int32 → Int32
  | [], _ => 1
  | q :: t, i => if i = q then 0 else exl t i
theorem own_i127 {x i : Int32} (h : i = (x &&& (127 : Int32))) : ¬ i < 0 ∧ i < 128 := by
  subst h
  have e := Jvm.Kit.i32_mask x 127 (k := 7) (by decide) (by decide)
  have e0 : (0 : Int32).toInt = 0 := by decide
  have e128 : (128 : Int32).toInt = 128 := by decide
  rw [Int32.lt_iff_toInt_lt, Int32.lt_iff_toInt_lt]; omega
theorem own_beq {j q : Int32} (hj : ¬ j < 0 ∧ j < 128) (hq : ¬ q < 0 ∧ ¬ (255 : Int32) < q) : (q.toInt8.toInt32 = j.toInt8.toInt32) ↔ j = q := by
  constructor
  · intro h
    obtain ⟨hj0, hj1⟩ := hj
    obtain ⟨hq0, hq1⟩ := hq
    have e0 : (0 : Int32).toInt = 0 := by decide
    have e128 : (128 : Int32).toInt = 128 := by decide
    have e255 : (255 : Int32).toInt = 255 := by decide
    rw [Int32.lt_iff_toInt_lt] at hj0 hj1 hq0 hq1
    have h2 := congrArg Int32.toInt h
    rw [Int8.toInt_toInt32, Int8.toInt_toInt32, Int32.toInt_toInt8, Int32.toInt_toInt8, Int.bmod_def, Int.bmod_def] at h2
    refine Int32.toInt_inj.mp ?_
    split at h2 <;> split at h2 <;> omega
  · intro h; rw [h]
theorem own_plex : ∀ (qs : List Int32) {j : Int32} (z : Int32) (_ : ¬ j < 0 ∧ j < 128) (_ : ∀ q ∈ qs, ¬ q < 0 ∧ ¬ (255 : Int32) < q) (_ : ¬ z < 0) (_ : z.toInt + qs.length < 100), (if ixo (qs.map (fun q => q.toInt8.toInt32)) j.toInt8.toInt32 z < 0 then (1 : Int32) else 0) = exl qs j := by
  intro qs
  induction qs with
  | nil => intro j z _ _ _ _; rfl
  | cons q t ih =>
    intro j z hj hq hz hl
    have e1 : (1 : Int32).toInt = 1 := by decide
    have e0 : (0 : Int32).toInt = 0 := by decide
    have hz' := hz
    rw [Int32.lt_iff_toInt_lt, e0] at hz'
    have hl' : z.toInt + (t.length + 1 : Nat) < 100 := hl
    have ha : (z + (1 : Int32)).toInt = z.toInt + 1 := by rw [← e1]; exact Jvm.Kit.i32_add (by omega) (by omega)
    have b := own_beq hj (hq q (List.mem_cons_self ..))
    by_cases c : j = q
    · simp only [List.map, ixo, exl, if_pos (b.mpr c), if_pos c, if_neg hz]
    · simp only [List.map, ixo, exl, if_neg (fun h => c (b.mp h)), if_neg c]
      exact ih (z + 1) hj (fun q' h' => hq q' (List.mem_cons_of_mem _ h')) (by rw [Int32.lt_iff_toInt_lt, ha, e0]; omega) (by rw [ha]; omega)
theorem d19_0 : decode method_4_code 0 = .ok (.iconst 0, 1) := by decide +kernel
theorem d19_1 : decode method_4_code 1 = .ok (.istore 5, 2) := by decide +kernel
theorem d19_3 : decode method_4_code 3 = .ok (.iload_n 1, 1) := by decide +kernel
theorem d19_4 : decode method_4_code 4 = .ok (.iconst 1, 1) := by decide +kernel
theorem d19_5 : decode method_4_code 5 = .ok (.if_icmp .lt 11, 3) := by decide +kernel
theorem d19_16 : decode method_4_code 16 = .ok (.iload_n 1, 1) := by decide +kernel
theorem d19_17 : decode method_4_code 17 = .ok (.iconst 2, 1) := by decide +kernel
theorem d19_18 : decode method_4_code 18 = .ok (.if_icmp .lt 11, 3) := by decide +kernel
theorem d19_29 : decode method_4_code 29 = .ok (.iload_n 1, 1) := by decide +kernel
theorem d19_30 : decode method_4_code 30 = .ok (.iconst 3, 1) := by decide +kernel
theorem d19_31 : decode method_4_code 31 = .ok (.if_icmp .lt 12, 3) := by decide +kernel
theorem d19_43 : decode method_4_code 43 = .ok (.iload 5, 2) := by decide +kernel
theorem d19_45 : decode method_4_code 45 = .ok (.ifCond .ne 7, 3) := by decide +kernel
theorem d19_48 : decode method_4_code 48 = .ok (.iconst 1, 1) := by decide +kernel
theorem d19_49 : decode method_4_code 49 = .ok (.goto 4, 3) := by decide +kernel
theorem d19_53 : decode method_4_code 53 = .ok (.ireturn, 1) := by decide +kernel
theorem ef_ex0 (m : MethodId) (x0 : Int32) (x1 : Int32) (x2 : Int32) (x3 : Int32) (x4 : Int32) : entryFrame m #[(.int x0), (.int x1), (.int x2), (.int x3), (.int x4)] 6 = mkF m 0 #[.val (.int x0), .val (.int x1), .val (.int x2), .val (.int x3), .val (.int x4), .unset] [] := by first | (simp [entryFrame, mkF, argsToLocals, Value.category]; done) | rfl
def Qex0 (Z : State) (ii : Int32) (qa : Int32) (qb : Int32) (qc : Int32) (h0 : Heap) (n0 : Nat) (v : Option Value) (h : Heap) (L : List Loc) : Prop := v = some (.int (exl [] ii)) ∧ Fr n0 L ∧ h = h0
set_option maxRecDepth 65536 in
set_option maxHeartbeats 40000000 in
theorem rmex0 (l : Launch) (Z : State) (a0 : Array Value) (hw : ∀ d ∈ tables_1, d.before a0 Z = true) (ws : List Jvm.Cond) (ii : Int32) (qa : Int32) (qb : Int32) (qc : Int32) (h0 : Heap) (n0 : Nat) (Z0 : n0 ≤ h0.size)  :
    MetFree l (⟨"com/example/termwell/termwell/tables/XmlTextPlainAsciiPinLaw", "expected", "(IICCC)Z"⟩ : MethodName) (head1 (Jvm.Cond.code (⟨"com/example/termwell/termwell/tables/XmlTextPlainAsciiPinLaw", "expected", "(IICCC)Z"⟩ : MethodName) method_4_code 6 (some .boolean) :: ws) ({ frames := 0, cells := 0, slots := 0, locals := 0 } : Room)) (fun aA U => aA = #[(.int ii), (.int (0 : Int32)), (.int qa), (.int qb), (.int qc)] ∧ Z.Warmed39 U.vm ∧ U.heap = h0) (fun _ _ _ _ _ => True) (fun _ U oO U' => ∃ vV LL, oO = .returned vV ∧ Qex0 Z ii qa qb qc h0 n0 vV U'.heap LL ∧ FrameEnd U oO U' LL ({ frames := 0, cells := 0, slots := 0, locals := 0 } : Room).cells ({ frames := 0, cells := 0, slots := 0, locals := 0 } : Room).slots) := by
  refine MetFree.of_bodySF (plainFor_of_name pn_4) hisR ?_
  intro p e s m args below meth c s₁ Bd hml0 hP hK
  obtain ⟨rfl, hZ, hh⟩ := hP
  have hx := Bd.exec
  have hby := Bd.bytes
  have hml : c.maxLocals = 6 := hml0
  have hown : s.vm.findClass "com/example/termwell/termwell/tables/XmlTextPlainAsciiPinLaw" = some m.cls := findClass_of_methodNamed Bd.named
  have hnm := (name_of_methodNamed Bd.named Bd.method).1
  have X0 : Stand p l e ({ frames := 0, cells := 0, slots := 0, locals := 0 } : Room) s m #[(.int ii), (.int (0 : Int32)), (.int qa), (.int qb), (.int qc)] below meth c s₁ [] 0 0 := Stand.of_body Bd
  have e0 : s₁.heap = h0 := by rw [← hh, Bd.state]; rfl
  have N0 := Fr.nil n0
  have K0 : Keep h0 h0 [] := Keep.refl _ _
  have pre0 : Rch p.tables e below (s₁.setTop (entryFrame m #[(.int ii), (.int (0 : Int32)), (.int qa), (.int qb), (.int qc)] 6)) (s₁.setTop (mkF m 0 #[.val (.int ii), .val (.int (0 : Int32)), .val (.int qa), .val (.int qb), .val (.int qc), .unset] [])) := fun tgt ktg => castTop (ef_ex0 m ii (0 : Int32) qa qb qc) ktg
  have pre_1 : Rch p.tables e below (s₁.setTop (entryFrame m #[(.int ii), (.int (0 : Int32)), (.int qa), (.int qb), (.int qc)] 6)) (s₁.setTop (mkF m 53 #[.val (.int ii), .val (.int (0 : Int32)), .val (.int qa), .val (.int qb), .val (.int qc), .val (.int (0 : Int32))] [(.int (1 : Int32))])) := fun tgt ktg => pre0 tgt (by
    show Steps p.tables e below (s₁.setTop (mkF m 0 #[.val (.int ii), .val (.int (0 : Int32)), .val (.int qa), .val (.int qb), .val (.int qc), .unset] [])) _
    refine XS.iconst X0.here hx rfl (hb hby d19_0) ?_
    show Steps p.tables e below (s₁.setTop (mkF m 1 #[.val (.int ii), .val (.int (0 : Int32)), .val (.int qa), .val (.int qb), .val (.int qc), .unset] [(.int (0 : Int32))])) _
    refine XS.istore X0.here hx rfl (hb hby d19_1) rfl (l' := #[.val (.int ii), .val (.int (0 : Int32)), .val (.int qa), .val (.int qb), .val (.int qc), .val (.int (0 : Int32))]) rfl ?_
    show Steps p.tables e below (s₁.setTop (mkF m 3 #[.val (.int ii), .val (.int (0 : Int32)), .val (.int qa), .val (.int qb), .val (.int qc), .val (.int (0 : Int32))] [])) _
    refine XS.iloadN X0.here hx rfl (hb hby d19_3) rfl ?_
    show Steps p.tables e below (s₁.setTop (mkF m 4 #[.val (.int ii), .val (.int (0 : Int32)), .val (.int qa), .val (.int qb), .val (.int qc), .val (.int (0 : Int32))] [(.int (0 : Int32))])) _
    refine XS.iconst X0.here hx rfl (hb hby d19_4) ?_
    show Steps p.tables e below (s₁.setTop (mkF m 5 #[.val (.int ii), .val (.int (0 : Int32)), .val (.int qa), .val (.int qb), .val (.int qc), .val (.int (0 : Int32))] [(.int (1 : Int32)), (.int (0 : Int32))])) _
    refine XS.icmpYes X0.here hx rfl (pc0 := 5) (pc' := 16) rfl (hb hby d19_5) rfl (tlt (by decide : (0 : Int32) < (1 : Int32))).1 (by decide) (by decide) ?_
    show Steps p.tables e below (s₁.setTop (mkF m 16 #[.val (.int ii), .val (.int (0 : Int32)), .val (.int qa), .val (.int qb), .val (.int qc), .val (.int (0 : Int32))] [])) _
    refine XS.iloadN X0.here hx rfl (hb hby d19_16) rfl ?_
    show Steps p.tables e below (s₁.setTop (mkF m 17 #[.val (.int ii), .val (.int (0 : Int32)), .val (.int qa), .val (.int qb), .val (.int qc), .val (.int (0 : Int32))] [(.int (0 : Int32))])) _
    refine XS.iconst X0.here hx rfl (hb hby d19_17) ?_
    show Steps p.tables e below (s₁.setTop (mkF m 18 #[.val (.int ii), .val (.int (0 : Int32)), .val (.int qa), .val (.int qb), .val (.int qc), .val (.int (0 : Int32))] [(.int (2 : Int32)), (.int (0 : Int32))])) _
    refine XS.icmpYes X0.here hx rfl (pc0 := 18) (pc' := 29) rfl (hb hby d19_18) rfl (tlt (by decide : (0 : Int32) < (2 : Int32))).1 (by decide) (by decide) ?_
    show Steps p.tables e below (s₁.setTop (mkF m 29 #[.val (.int ii), .val (.int (0 : Int32)), .val (.int qa), .val (.int qb), .val (.int qc), .val (.int (0 : Int32))] [])) _
    refine XS.iloadN X0.here hx rfl (hb hby d19_29) rfl ?_
    show Steps p.tables e below (s₁.setTop (mkF m 30 #[.val (.int ii), .val (.int (0 : Int32)), .val (.int qa), .val (.int qb), .val (.int qc), .val (.int (0 : Int32))] [(.int (0 : Int32))])) _
    refine XS.iconst X0.here hx rfl (hb hby d19_30) ?_
    show Steps p.tables e below (s₁.setTop (mkF m 31 #[.val (.int ii), .val (.int (0 : Int32)), .val (.int qa), .val (.int qb), .val (.int qc), .val (.int (0 : Int32))] [(.int (3 : Int32)), (.int (0 : Int32))])) _
    refine XS.icmpYes X0.here hx rfl (pc0 := 31) (pc' := 43) rfl (hb hby d19_31) rfl (tlt (by decide : (0 : Int32) < (3 : Int32))).1 (by decide) (by decide) ?_
    show Steps p.tables e below (s₁.setTop (mkF m 43 #[.val (.int ii), .val (.int (0 : Int32)), .val (.int qa), .val (.int qb), .val (.int qc), .val (.int (0 : Int32))] [])) _
    refine XS.iload X0.here hx rfl (hb hby d19_43) rfl ?_
    show Steps p.tables e below (s₁.setTop (mkF m 45 #[.val (.int ii), .val (.int (0 : Int32)), .val (.int qa), .val (.int qb), .val (.int qc), .val (.int (0 : Int32))] [(.int (0 : Int32))])) _
    refine XS.ifNo X0.here hx rfl (hb hby d19_45) rfl ((if0 _ _).trans (teq (rfl : (0 : Int32) = (0 : Int32))).2) ?_
    show Steps p.tables e below (s₁.setTop (mkF m 48 #[.val (.int ii), .val (.int (0 : Int32)), .val (.int qa), .val (.int qb), .val (.int qc), .val (.int (0 : Int32))] [])) _
    refine XS.iconst X0.here hx rfl (hb hby d19_48) ?_
    show Steps p.tables e below (s₁.setTop (mkF m 49 #[.val (.int ii), .val (.int (0 : Int32)), .val (.int qa), .val (.int qb), .val (.int qc), .val (.int (0 : Int32))] [(.int (1 : Int32))])) _
    refine XS.goto X0.here hx rfl (pc0 := 49) (pc' := 53) rfl (hb hby d19_49) (by decide) (by decide) ?_
    exact ktg)
  obtain ⟨fs, hr, hrun, hended, hW, hsame⟩ := X0.leave (v := some (.int (1 : Int32))) (fun h => by rw [Bd.returns] at h; cases h)
  refine ⟨_, _, pre_1 _ ?_, hrun, hended, _, _, rfl, ?_, ⟨_, rfl⟩, hW, hsame.mono (by decide) (by decide)⟩
  · show Steps p.tables e below (s₁.setTop (mkF m 53 #[.val (.int ii), .val (.int (0 : Int32)), .val (.int qa), .val (.int qb), .val (.int qc), .val (.int (0 : Int32))] [(.int (1 : Int32))])) _
    exact retN X0 hx (t := .boolean) Bd.returns (by simp) (hb hby d19_53) hr
  · show Qex0 Z ii qa qb qc h0 n0 _ s₁.heap _
    rw [e0]
    exact ⟨by simp only [exl], N0, rfl⟩
theorem d19_8 : decode method_4_code 8 = .ok (.iload_n 0, 1) := by decide +kernel
theorem d19_9 : decode method_4_code 9 = .ok (.iload_n 2, 1) := by decide +kernel
theorem d19_10 : decode method_4_code 10 = .ok (.if_icmp .ne 6, 3) := by decide +kernel
theorem d19_13 : decode method_4_code 13 = .ok (.iconst 1, 1) := by decide +kernel
theorem d19_14 : decode method_4_code 14 = .ok (.istore 5, 2) := by decide +kernel
theorem d19_52 : decode method_4_code 52 = .ok (.iconst 0, 1) := by decide +kernel
theorem ef_ex1 (m : MethodId) (x0 : Int32) (x1 : Int32) (x2 : Int32) (x3 : Int32) (x4 : Int32) : entryFrame m #[(.int x0), (.int x1), (.int x2), (.int x3), (.int x4)] 6 = mkF m 0 #[.val (.int x0), .val (.int x1), .val (.int x2), .val (.int x3), .val (.int x4), .unset] [] := by first | (simp [entryFrame, mkF, argsToLocals, Value.category]; done) | rfl
def Qex1 (Z : State) (ii : Int32) (qa : Int32) (qb : Int32) (qc : Int32) (h0 : Heap) (n0 : Nat) (v : Option Value) (h : Heap) (L : List Loc) : Prop := v = some (.int (exl [qa] ii)) ∧ Fr n0 L ∧ h = h0
set_option maxRecDepth 65536 in
set_option maxHeartbeats 40000000 in
theorem rmex1 (l : Launch) (Z : State) (a0 : Array Value) (hw : ∀ d ∈ tables_1, d.before a0 Z = true) (ws : List Jvm.Cond) (ii : Int32) (qa : Int32) (qb : Int32) (qc : Int32) (h0 : Heap) (n0 : Nat) (Z0 : n0 ≤ h0.size)  :
    MetFree l (⟨"com/example/termwell/termwell/tables/XmlTextPlainAsciiPinLaw", "expected", "(IICCC)Z"⟩ : MethodName) (head1 (Jvm.Cond.code (⟨"com/example/termwell/termwell/tables/XmlTextPlainAsciiPinLaw", "expected", "(IICCC)Z"⟩ : MethodName) method_4_code 6 (some .boolean) :: ws) ({ frames := 0, cells := 0, slots := 0, locals := 0 } : Room)) (fun aA U => aA = #[(.int ii), (.int (1 : Int32)), (.int qa), (.int qb), (.int qc)] ∧ Z.Warmed39 U.vm ∧ U.heap = h0) (fun _ _ _ _ _ => True) (fun _ U oO U' => ∃ vV LL, oO = .returned vV ∧ Qex1 Z ii qa qb qc h0 n0 vV U'.heap LL ∧ FrameEnd U oO U' LL ({ frames := 0, cells := 0, slots := 0, locals := 0 } : Room).cells ({ frames := 0, cells := 0, slots := 0, locals := 0 } : Room).slots) := by
  refine MetFree.of_bodySF (plainFor_of_name pn_4) hisR ?_
  intro p e s m args below meth c s₁ Bd hml0 hP hK
  obtain ⟨rfl, hZ, hh⟩ := hP
  have hx := Bd.exec
  have hby := Bd.bytes
  have hml : c.maxLocals = 6 := hml0
  have hown : s.vm.findClass "com/example/termwell/termwell/tables/XmlTextPlainAsciiPinLaw" = some m.cls := findClass_of_methodNamed Bd.named
  have hnm := (name_of_methodNamed Bd.named Bd.method).1
  have X0 : Stand p l e ({ frames := 0, cells := 0, slots := 0, locals := 0 } : Room) s m #[(.int ii), (.int (1 : Int32)), (.int qa), (.int qb), (.int qc)] below meth c s₁ [] 0 0 := Stand.of_body Bd
  have e0 : s₁.heap = h0 := by rw [← hh, Bd.state]; rfl
  have N0 := Fr.nil n0
  have K0 : Keep h0 h0 [] := Keep.refl _ _
  have pre0 : Rch p.tables e below (s₁.setTop (entryFrame m #[(.int ii), (.int (1 : Int32)), (.int qa), (.int qb), (.int qc)] 6)) (s₁.setTop (mkF m 0 #[.val (.int ii), .val (.int (1 : Int32)), .val (.int qa), .val (.int qb), .val (.int qc), .unset] [])) := fun tgt ktg => castTop (ef_ex1 m ii (1 : Int32) qa qb qc) ktg
  have pre_1 : Rch p.tables e below (s₁.setTop (entryFrame m #[(.int ii), (.int (1 : Int32)), (.int qa), (.int qb), (.int qc)] 6)) (s₁.setTop (mkF m 10 #[.val (.int ii), .val (.int (1 : Int32)), .val (.int qa), .val (.int qb), .val (.int qc), .val (.int (0 : Int32))] [(.int qa), (.int ii)])) := fun tgt ktg => pre0 tgt (by
    show Steps p.tables e below (s₁.setTop (mkF m 0 #[.val (.int ii), .val (.int (1 : Int32)), .val (.int qa), .val (.int qb), .val (.int qc), .unset] [])) _
    refine XS.iconst X0.here hx rfl (hb hby d19_0) ?_
    show Steps p.tables e below (s₁.setTop (mkF m 1 #[.val (.int ii), .val (.int (1 : Int32)), .val (.int qa), .val (.int qb), .val (.int qc), .unset] [(.int (0 : Int32))])) _
    refine XS.istore X0.here hx rfl (hb hby d19_1) rfl (l' := #[.val (.int ii), .val (.int (1 : Int32)), .val (.int qa), .val (.int qb), .val (.int qc), .val (.int (0 : Int32))]) rfl ?_
    show Steps p.tables e below (s₁.setTop (mkF m 3 #[.val (.int ii), .val (.int (1 : Int32)), .val (.int qa), .val (.int qb), .val (.int qc), .val (.int (0 : Int32))] [])) _
    refine XS.iloadN X0.here hx rfl (hb hby d19_3) rfl ?_
    show Steps p.tables e below (s₁.setTop (mkF m 4 #[.val (.int ii), .val (.int (1 : Int32)), .val (.int qa), .val (.int qb), .val (.int qc), .val (.int (0 : Int32))] [(.int (1 : Int32))])) _
    refine XS.iconst X0.here hx rfl (hb hby d19_4) ?_
    show Steps p.tables e below (s₁.setTop (mkF m 5 #[.val (.int ii), .val (.int (1 : Int32)), .val (.int qa), .val (.int qb), .val (.int qc), .val (.int (0 : Int32))] [(.int (1 : Int32)), (.int (1 : Int32))])) _
    refine XS.icmpNo X0.here hx rfl (hb hby d19_5) rfl (flt (by decide : ¬ ((1 : Int32) < (1 : Int32)))).1 ?_
    show Steps p.tables e below (s₁.setTop (mkF m 8 #[.val (.int ii), .val (.int (1 : Int32)), .val (.int qa), .val (.int qb), .val (.int qc), .val (.int (0 : Int32))] [])) _
    refine XS.iloadN X0.here hx rfl (hb hby d19_8) rfl ?_
    show Steps p.tables e below (s₁.setTop (mkF m 9 #[.val (.int ii), .val (.int (1 : Int32)), .val (.int qa), .val (.int qb), .val (.int qc), .val (.int (0 : Int32))] [(.int ii)])) _
    refine XS.iloadN X0.here hx rfl (hb hby d19_9) rfl ?_
    exact ktg)
  by_cases c_2 : ii = qa
  · skip
    have pre_3 : Rch p.tables e below (s₁.setTop (entryFrame m #[(.int ii), (.int (1 : Int32)), (.int qa), (.int qb), (.int qc)] 6)) (s₁.setTop (mkF m 13 #[.val (.int ii), .val (.int (1 : Int32)), .val (.int qa), .val (.int qb), .val (.int qc), .val (.int (0 : Int32))] [])) := fun tgt ktg => pre_1 tgt (by
      show Steps p.tables e below (s₁.setTop (mkF m 10 #[.val (.int ii), .val (.int (1 : Int32)), .val (.int qa), .val (.int qb), .val (.int qc), .val (.int (0 : Int32))] [(.int qa), (.int ii)])) _
      refine XS.icmpNo X0.here hx rfl (hb hby d19_10) rfl (teq c_2).2 ?_
      exact ktg)
    have pre_4 : Rch p.tables e below (s₁.setTop (entryFrame m #[(.int ii), (.int (1 : Int32)), (.int qa), (.int qb), (.int qc)] 6)) (s₁.setTop (mkF m 53 #[.val (.int ii), .val (.int (1 : Int32)), .val (.int qa), .val (.int qb), .val (.int qc), .val (.int (1 : Int32))] [(.int (0 : Int32))])) := fun tgt ktg => pre_3 tgt (by
      show Steps p.tables e below (s₁.setTop (mkF m 13 #[.val (.int ii), .val (.int (1 : Int32)), .val (.int qa), .val (.int qb), .val (.int qc), .val (.int (0 : Int32))] [])) _
      refine XS.iconst X0.here hx rfl (hb hby d19_13) ?_
      show Steps p.tables e below (s₁.setTop (mkF m 14 #[.val (.int ii), .val (.int (1 : Int32)), .val (.int qa), .val (.int qb), .val (.int qc), .val (.int (0 : Int32))] [(.int (1 : Int32))])) _
      refine XS.istore X0.here hx rfl (hb hby d19_14) rfl (l' := #[.val (.int ii), .val (.int (1 : Int32)), .val (.int qa), .val (.int qb), .val (.int qc), .val (.int (1 : Int32))]) rfl ?_
      show Steps p.tables e below (s₁.setTop (mkF m 16 #[.val (.int ii), .val (.int (1 : Int32)), .val (.int qa), .val (.int qb), .val (.int qc), .val (.int (1 : Int32))] [])) _
      refine XS.iloadN X0.here hx rfl (hb hby d19_16) rfl ?_
      show Steps p.tables e below (s₁.setTop (mkF m 17 #[.val (.int ii), .val (.int (1 : Int32)), .val (.int qa), .val (.int qb), .val (.int qc), .val (.int (1 : Int32))] [(.int (1 : Int32))])) _
      refine XS.iconst X0.here hx rfl (hb hby d19_17) ?_
      show Steps p.tables e below (s₁.setTop (mkF m 18 #[.val (.int ii), .val (.int (1 : Int32)), .val (.int qa), .val (.int qb), .val (.int qc), .val (.int (1 : Int32))] [(.int (2 : Int32)), (.int (1 : Int32))])) _
      refine XS.icmpYes X0.here hx rfl (pc0 := 18) (pc' := 29) rfl (hb hby d19_18) rfl (tlt (by decide : (1 : Int32) < (2 : Int32))).1 (by decide) (by decide) ?_
      show Steps p.tables e below (s₁.setTop (mkF m 29 #[.val (.int ii), .val (.int (1 : Int32)), .val (.int qa), .val (.int qb), .val (.int qc), .val (.int (1 : Int32))] [])) _
      refine XS.iloadN X0.here hx rfl (hb hby d19_29) rfl ?_
      show Steps p.tables e below (s₁.setTop (mkF m 30 #[.val (.int ii), .val (.int (1 : Int32)), .val (.int qa), .val (.int qb), .val (.int qc), .val (.int (1 : Int32))] [(.int (1 : Int32))])) _
      refine XS.iconst X0.here hx rfl (hb hby d19_30) ?_
      show Steps p.tables e below (s₁.setTop (mkF m 31 #[.val (.int ii), .val (.int (1 : Int32)), .val (.int qa), .val (.int qb), .val (.int qc), .val (.int (1 : Int32))] [(.int (3 : Int32)), (.int (1 : Int32))])) _
      refine XS.icmpYes X0.here hx rfl (pc0 := 31) (pc' := 43) rfl (hb hby d19_31) rfl (tlt (by decide : (1 : Int32) < (3 : Int32))).1 (by decide) (by decide) ?_
      show Steps p.tables e below (s₁.setTop (mkF m 43 #[.val (.int ii), .val (.int (1 : Int32)), .val (.int qa), .val (.int qb), .val (.int qc), .val (.int (1 : Int32))] [])) _
      refine XS.iload X0.here hx rfl (hb hby d19_43) rfl ?_
      show Steps p.tables e below (s₁.setTop (mkF m 45 #[.val (.int ii), .val (.int (1 : Int32)), .val (.int qa), .val (.int qb), .val (.int qc), .val (.int (1 : Int32))] [(.int (1 : Int32))])) _
      refine XS.ifYes X0.here hx rfl (pc0 := 45) (pc' := 52) rfl (hb hby d19_45) rfl ((if0 _ _).trans (feq (by decide : ¬ ((1 : Int32) = (0 : Int32)))).2) (by decide) (by decide) ?_
      show Steps p.tables e below (s₁.setTop (mkF m 52 #[.val (.int ii), .val (.int (1 : Int32)), .val (.int qa), .val (.int qb), .val (.int qc), .val (.int (1 : Int32))] [])) _
      refine XS.iconst X0.here hx rfl (hb hby d19_52) ?_
      exact ktg)
    obtain ⟨fs, hr, hrun, hended, hW, hsame⟩ := X0.leave (v := some (.int (0 : Int32))) (fun h => by rw [Bd.returns] at h; cases h)
    refine ⟨_, _, pre_4 _ ?_, hrun, hended, _, _, rfl, ?_, ⟨_, rfl⟩, hW, hsame.mono (by decide) (by decide)⟩
    · show Steps p.tables e below (s₁.setTop (mkF m 53 #[.val (.int ii), .val (.int (1 : Int32)), .val (.int qa), .val (.int qb), .val (.int qc), .val (.int (1 : Int32))] [(.int (0 : Int32))])) _
      exact retN X0 hx (t := .boolean) Bd.returns (by simp) (hb hby d19_53) hr
    · show Qex1 Z ii qa qb qc h0 n0 _ s₁.heap _
      rw [e0]
      exact ⟨by simp only [exl]; rw [if_pos c_2], N0, rfl⟩
  · skip
    have pre_5 : Rch p.tables e below (s₁.setTop (entryFrame m #[(.int ii), (.int (1 : Int32)), (.int qa), (.int qb), (.int qc)] 6)) (s₁.setTop (mkF m 16 #[.val (.int ii), .val (.int (1 : Int32)), .val (.int qa), .val (.int qb), .val (.int qc), .val (.int (0 : Int32))] [])) := fun tgt ktg => pre_1 tgt (by
      show Steps p.tables e below (s₁.setTop (mkF m 10 #[.val (.int ii), .val (.int (1 : Int32)), .val (.int qa), .val (.int qb), .val (.int qc), .val (.int (0 : Int32))] [(.int qa), (.int ii)])) _
      refine XS.icmpYes X0.here hx rfl (pc0 := 10) (pc' := 16) rfl (hb hby d19_10) rfl (feq c_2).2 (by decide) (by decide) ?_
      exact ktg)
    have pre_6 : Rch p.tables e below (s₁.setTop (entryFrame m #[(.int ii), (.int (1 : Int32)), (.int qa), (.int qb), (.int qc)] 6)) (s₁.setTop (mkF m 53 #[.val (.int ii), .val (.int (1 : Int32)), .val (.int qa), .val (.int qb), .val (.int qc), .val (.int (0 : Int32))] [(.int (1 : Int32))])) := fun tgt ktg => pre_5 tgt (by
      show Steps p.tables e below (s₁.setTop (mkF m 16 #[.val (.int ii), .val (.int (1 : Int32)), .val (.int qa), .val (.int qb), .val (.int qc), .val (.int (0 : Int32))] [])) _
      refine XS.iloadN X0.here hx rfl (hb hby d19_16) rfl ?_
      show Steps p.tables e below (s₁.setTop (mkF m 17 #[.val (.int ii), .val (.int (1 : Int32)), .val (.int qa), .val (.int qb), .val (.int qc), .val (.int (0 : Int32))] [(.int (1 : Int32))])) _
      refine XS.iconst X0.here hx rfl (hb hby d19_17) ?_
      show Steps p.tables e below (s₁.setTop (mkF m 18 #[.val (.int ii), .val (.int (1 : Int32)), .val (.int qa), .val (.int qb), .val (.int qc), .val (.int (0 : Int32))] [(.int (2 : Int32)), (.int (1 : Int32))])) _
      refine XS.icmpYes X0.here hx rfl (pc0 := 18) (pc' := 29) rfl (hb hby d19_18) rfl (tlt (by decide : (1 : Int32) < (2 : Int32))).1 (by decide) (by decide) ?_
      show Steps p.tables e below (s₁.setTop (mkF m 29 #[.val (.int ii), .val (.int (1 : Int32)), .val (.int qa), .val (.int qb), .val (.int qc), .val (.int (0 : Int32))] [])) _
      refine XS.iloadN X0.here hx rfl (hb hby d19_29) rfl ?_
      show Steps p.tables e below (s₁.setTop (mkF m 30 #[.val (.int ii), .val (.int (1 : Int32)), .val (.int qa), .val (.int qb), .val (.int qc), .val (.int (0 : Int32))] [(.int (1 : Int32))])) _
      refine XS.iconst X0.here hx rfl (hb hby d19_30) ?_
      show Steps p.tables e below (s₁.setTop (mkF m 31 #[.val (.int ii), .val (.int (1 : Int32)), .val (.int qa), .val (.int qb), .val (.int qc), .val (.int (0 : Int32))] [(.int (3 : Int32)), (.int (1 : Int32))])) _
      refine XS.icmpYes X0.here hx rfl (pc0 := 31) (pc' := 43) rfl (hb hby d19_31) rfl (tlt (by decide : (1 : Int32) < (3 : Int32))).1 (by decide) (by decide) ?_
      show Steps p.tables e below (s₁.setTop (mkF m 43 #[.val (.int ii), .val (.int (1 : Int32)), .val (.int qa), .val (.int qb), .val (.int qc), .val (.int (0 : Int32))] [])) _
      refine XS.iload X0.here hx rfl (hb hby d19_43) rfl ?_
      show Steps p.tables e below (s₁.setTop (mkF m 45 #[.val (.int ii), .val (.int (1 : Int32)), .val (.int qa), .val (.int qb), .val (.int qc), .val (.int (0 : Int32))] [(.int (0 : Int32))])) _
      refine XS.ifNo X0.here hx rfl (hb hby d19_45) rfl ((if0 _ _).trans (teq (rfl : (0 : Int32) = (0 : Int32))).2) ?_
      show Steps p.tables e below (s₁.setTop (mkF m 48 #[.val (.int ii), .val (.int (1 : Int32)), .val (.int qa), .val (.int qb), .val (.int qc), .val (.int (0 : Int32))] [])) _
      refine XS.iconst X0.here hx rfl (hb hby d19_48) ?_
      show Steps p.tables e below (s₁.setTop (mkF m 49 #[.val (.int ii), .val (.int (1 : Int32)), .val (.int qa), .val (.int qb), .val (.int qc), .val (.int (0 : Int32))] [(.int (1 : Int32))])) _
      refine XS.goto X0.here hx rfl (pc0 := 49) (pc' := 53) rfl (hb hby d19_49) (by decide) (by decide) ?_
      exact ktg)
    obtain ⟨fs, hr, hrun, hended, hW, hsame⟩ := X0.leave (v := some (.int (1 : Int32))) (fun h => by rw [Bd.returns] at h; cases h)
    refine ⟨_, _, pre_6 _ ?_, hrun, hended, _, _, rfl, ?_, ⟨_, rfl⟩, hW, hsame.mono (by decide) (by decide)⟩
    · show Steps p.tables e below (s₁.setTop (mkF m 53 #[.val (.int ii), .val (.int (1 : Int32)), .val (.int qa), .val (.int qb), .val (.int qc), .val (.int (0 : Int32))] [(.int (1 : Int32))])) _
      exact retN X0 hx (t := .boolean) Bd.returns (by simp) (hb hby d19_53) hr
    · show Qex1 Z ii qa qb qc h0 n0 _ s₁.heap _
      rw [e0]
      exact ⟨by simp only [exl]; rw [if_neg c_2], N0, rfl⟩
theorem d19_21 : decode method_4_code 21 = .ok (.iload_n 0, 1) := by decide +kernel
theorem d19_22 : decode method_4_code 22 = .ok (.iload_n 3, 1) := by decide +kernel
theorem d19_23 : decode method_4_code 23 = .ok (.if_icmp .ne 6, 3) := by decide +kernel
theorem d19_26 : decode method_4_code 26 = .ok (.iconst 1, 1) := by decide +kernel
theorem d19_27 : decode method_4_code 27 = .ok (.istore 5, 2) := by decide +kernel
theorem ef_ex2 (m : MethodId) (x0 : Int32) (x1 : Int32) (x2 : Int32) (x3 : Int32) (x4 : Int32) : entryFrame m #[(.int x0), (.int x1), (.int x2), (.int x3), (.int x4)] 6 = mkF m 0 #[.val (.int x0), .val (.int x1), .val (.int x2), .val (.int x3), .val (.int x4), .unset] [] := by first | (simp [entryFrame, mkF, argsToLocals, Value.category]; done) | rfl
def Qex2 (Z : State) (ii : Int32) (qa : Int32) (qb : Int32) (qc : Int32) (h0 : Heap) (n0 : Nat) (v : Option Value) (h : Heap) (L : List Loc) : Prop := v = some (.int (exl [qa, qb] ii)) ∧ Fr n0 L ∧ h = h0
set_option maxRecDepth 65536 in
set_option maxHeartbeats 40000000 in
theorem rmex2 (l : Launch) (Z : State) (a0 : Array Value) (hw : ∀ d ∈ tables_1, d.before a0 Z = true) (ws : List Jvm.Cond) (ii : Int32) (qa : Int32) (qb : Int32) (qc : Int32) (h0 : Heap) (n0 : Nat) (Z0 : n0 ≤ h0.size)  :
    MetFree l (⟨"com/example/termwell/termwell/tables/XmlTextPlainAsciiPinLaw", "expected", "(IICCC)Z"⟩ : MethodName) (head1 (Jvm.Cond.code (⟨"com/example/termwell/termwell/tables/XmlTextPlainAsciiPinLaw", "expected", "(IICCC)Z"⟩ : MethodName) method_4_code 6 (some .boolean) :: ws) ({ frames := 0, cells := 0, slots := 0, locals := 0 } : Room)) (fun aA U => aA = #[(.int ii), (.int (2 : Int32)), (.int qa), (.int qb), (.int qc)] ∧ Z.Warmed39 U.vm ∧ U.heap = h0) (fun _ _ _ _ _ => True) (fun _ U oO U' => ∃ vV LL, oO = .returned vV ∧ Qex2 Z ii qa qb qc h0 n0 vV U'.heap LL ∧ FrameEnd U oO U' LL ({ frames := 0, cells := 0, slots := 0, locals := 0 } : Room).cells ({ frames := 0, cells := 0, slots := 0, locals := 0 } : Room).slots) := by
  refine MetFree.of_bodySF (plainFor_of_name pn_4) hisR ?_
  intro p e s m args below meth c s₁ Bd hml0 hP hK
  obtain ⟨rfl, hZ, hh⟩ := hP
  have hx := Bd.exec
  have hby := Bd.bytes
  have hml : c.maxLocals = 6 := hml0
  have hown : s.vm.findClass "com/example/termwell/termwell/tables/XmlTextPlainAsciiPinLaw" = some m.cls := findClass_of_methodNamed Bd.named
  have hnm := (name_of_methodNamed Bd.named Bd.method).1
  have X0 : Stand p l e ({ frames := 0, cells := 0, slots := 0, locals := 0 } : Room) s m #[(.int ii), (.int (2 : Int32)), (.int qa), (.int qb), (.int qc)] below meth c s₁ [] 0 0 := Stand.of_body Bd
  have e0 : s₁.heap = h0 := by rw [← hh, Bd.state]; rfl
  have N0 := Fr.nil n0
  have K0 : Keep h0 h0 [] := Keep.refl _ _
  have pre0 : Rch p.tables e below (s₁.setTop (entryFrame m #[(.int ii), (.int (2 : Int32)), (.int qa), (.int qb), (.int qc)] 6)) (s₁.setTop (mkF m 0 #[.val (.int ii), .val (.int (2 : Int32)), .val (.int qa), .val (.int qb), .val (.int qc), .unset] [])) := fun tgt ktg => castTop (ef_ex2 m ii (2 : Int32) qa qb qc) ktg
  have pre_1 : Rch p.tables e below (s₁.setTop (entryFrame m #[(.int ii), (.int (2 : Int32)), (.int qa), (.int qb), (.int qc)] 6)) (s₁.setTop (mkF m 10 #[.val (.int ii), .val (.int (2 : Int32)), .val (.int qa), .val (.int qb), .val (.int qc), .val (.int (0 : Int32))] [(.int qa), (.int ii)])) := fun tgt ktg => pre0 tgt (by
    show Steps p.tables e below (s₁.setTop (mkF m 0 #[.val (.int ii), .val (.int (2 : Int32)), .val (.int qa), .val (.int qb), .val (.int qc), .unset] [])) _
    refine XS.iconst X0.here hx rfl (hb hby d19_0) ?_
    show Steps p.tables e below (s₁.setTop (mkF m 1 #[.val (.int ii), .val (.int (2 : Int32)), .val (.int qa), .val (.int qb), .val (.int qc), .unset] [(.int (0 : Int32))])) _
    refine XS.istore X0.here hx rfl (hb hby d19_1) rfl (l' := #[.val (.int ii), .val (.int (2 : Int32)), .val (.int qa), .val (.int qb), .val (.int qc), .val (.int (0 : Int32))]) rfl ?_
    show Steps p.tables e below (s₁.setTop (mkF m 3 #[.val (.int ii), .val (.int (2 : Int32)), .val (.int qa), .val (.int qb), .val (.int qc), .val (.int (0 : Int32))] [])) _
    refine XS.iloadN X0.here hx rfl (hb hby d19_3) rfl ?_
    show Steps p.tables e below (s₁.setTop (mkF m 4 #[.val (.int ii), .val (.int (2 : Int32)), .val (.int qa), .val (.int qb), .val (.int qc), .val (.int (0 : Int32))] [(.int (2 : Int32))])) _
    refine XS.iconst X0.here hx rfl (hb hby d19_4) ?_
    show Steps p.tables e below (s₁.setTop (mkF m 5 #[.val (.int ii), .val (.int (2 : Int32)), .val (.int qa), .val (.int qb), .val (.int qc), .val (.int (0 : Int32))] [(.int (1 : Int32)), (.int (2 : Int32))])) _
    refine XS.icmpNo X0.here hx rfl (hb hby d19_5) rfl (flt (by decide : ¬ ((2 : Int32) < (1 : Int32)))).1 ?_
    show Steps p.tables e below (s₁.setTop (mkF m 8 #[.val (.int ii), .val (.int (2 : Int32)), .val (.int qa), .val (.int qb), .val (.int qc), .val (.int (0 : Int32))] [])) _
    refine XS.iloadN X0.here hx rfl (hb hby d19_8) rfl ?_
    show Steps p.tables e below (s₁.setTop (mkF m 9 #[.val (.int ii), .val (.int (2 : Int32)), .val (.int qa), .val (.int qb), .val (.int qc), .val (.int (0 : Int32))] [(.int ii)])) _
    refine XS.iloadN X0.here hx rfl (hb hby d19_9) rfl ?_
    exact ktg)
  by_cases c_2 : ii = qa
  · skip
    have pre_3 : Rch p.tables e below (s₁.setTop (entryFrame m #[(.int ii), (.int (2 : Int32)), (.int qa), (.int qb), (.int qc)] 6)) (s₁.setTop (mkF m 13 #[.val (.int ii), .val (.int (2 : Int32)), .val (.int qa), .val (.int qb), .val (.int qc), .val (.int (0 : Int32))] [])) := fun tgt ktg => pre_1 tgt (by
      show Steps p.tables e below (s₁.setTop (mkF m 10 #[.val (.int ii), .val (.int (2 : Int32)), .val (.int qa), .val (.int qb), .val (.int qc), .val (.int (0 : Int32))] [(.int qa), (.int ii)])) _
      refine XS.icmpNo X0.here hx rfl (hb hby d19_10) rfl (teq c_2).2 ?_
      exact ktg)
    have pre_4 : Rch p.tables e below (s₁.setTop (entryFrame m #[(.int ii), (.int (2 : Int32)), (.int qa), (.int qb), (.int qc)] 6)) (s₁.setTop (mkF m 23 #[.val (.int ii), .val (.int (2 : Int32)), .val (.int qa), .val (.int qb), .val (.int qc), .val (.int (1 : Int32))] [(.int qb), (.int ii)])) := fun tgt ktg => pre_3 tgt (by
      show Steps p.tables e below (s₁.setTop (mkF m 13 #[.val (.int ii), .val (.int (2 : Int32)), .val (.int qa), .val (.int qb), .val (.int qc), .val (.int (0 : Int32))] [])) _
      refine XS.iconst X0.here hx rfl (hb hby d19_13) ?_
      show Steps p.tables e below (s₁.setTop (mkF m 14 #[.val (.int ii), .val (.int (2 : Int32)), .val (.int qa), .val (.int qb), .val (.int qc), .val (.int (0 : Int32))] [(.int (1 : Int32))])) _
      refine XS.istore X0.here hx rfl (hb hby d19_14) rfl (l' := #[.val (.int ii), .val (.int (2 : Int32)), .val (.int qa), .val (.int qb), .val (.int qc), .val (.int (1 : Int32))]) rfl ?_
      show Steps p.tables e below (s₁.setTop (mkF m 16 #[.val (.int ii), .val (.int (2 : Int32)), .val (.int qa), .val (.int qb), .val (.int qc), .val (.int (1 : Int32))] [])) _
      refine XS.iloadN X0.here hx rfl (hb hby d19_16) rfl ?_
      show Steps p.tables e below (s₁.setTop (mkF m 17 #[.val (.int ii), .val (.int (2 : Int32)), .val (.int qa), .val (.int qb), .val (.int qc), .val (.int (1 : Int32))] [(.int (2 : Int32))])) _
      refine XS.iconst X0.here hx rfl (hb hby d19_17) ?_
      show Steps p.tables e below (s₁.setTop (mkF m 18 #[.val (.int ii), .val (.int (2 : Int32)), .val (.int qa), .val (.int qb), .val (.int qc), .val (.int (1 : Int32))] [(.int (2 : Int32)), (.int (2 : Int32))])) _
      refine XS.icmpNo X0.here hx rfl (hb hby d19_18) rfl (flt (by decide : ¬ ((2 : Int32) < (2 : Int32)))).1 ?_
      show Steps p.tables e below (s₁.setTop (mkF m 21 #[.val (.int ii), .val (.int (2 : Int32)), .val (.int qa), .val (.int qb), .val (.int qc), .val (.int (1 : Int32))] [])) _
      refine XS.iloadN X0.here hx rfl (hb hby d19_21) rfl ?_
      show Steps p.tables e below (s₁.setTop (mkF m 22 #[.val (.int ii), .val (.int (2 : Int32)), .val (.int qa), .val (.int qb), .val (.int qc), .val (.int (1 : Int32))] [(.int ii)])) _
      refine XS.iloadN X0.here hx rfl (hb hby d19_22) rfl ?_
      exact ktg)
    by_cases c_5 : ii = qb
    · skip
      have pre_6 : Rch p.tables e below (s₁.setTop (entryFrame m #[(.int ii), (.int (2 : Int32)), (.int qa), (.int qb), (.int qc)] 6)) (s₁.setTop (mkF m 26 #[.val (.int ii), .val (.int (2 : Int32)), .val (.int qa), .val (.int qb), .val (.int qc), .val (.int (1 : Int32))] [])) := fun tgt ktg => pre_4 tgt (by
        show Steps p.tables e below (s₁.setTop (mkF m 23 #[.val (.int ii), .val (.int (2 : Int32)), .val (.int qa), .val (.int qb), .val (.int qc), .val (.int (1 : Int32))] [(.int qb), (.int ii)])) _
        refine XS.icmpNo X0.here hx rfl (hb hby d19_23) rfl (teq c_5).2 ?_
        exact ktg)
      have pre_7 : Rch p.tables e below (s₁.setTop (entryFrame m #[(.int ii), (.int (2 : Int32)), (.int qa), (.int qb), (.int qc)] 6)) (s₁.setTop (mkF m 53 #[.val (.int ii), .val (.int (2 : Int32)), .val (.int qa), .val (.int qb), .val (.int qc), .val (.int (1 : Int32))] [(.int (0 : Int32))])) := fun tgt ktg => pre_6 tgt (by
        show Steps p.tables e below (s₁.setTop (mkF m 26 #[.val (.int ii), .val (.int (2 : Int32)), .val (.int qa), .val (.int qb), .val (.int qc), .val (.int (1 : Int32))] [])) _
        refine XS.iconst X0.here hx rfl (hb hby d19_26) ?_
        show Steps p.tables e below (s₁.setTop (mkF m 27 #[.val (.int ii), .val (.int (2 : Int32)), .val (.int qa), .val (.int qb), .val (.int qc), .val (.int (1 : Int32))] [(.int (1 : Int32))])) _
        refine XS.istore X0.here hx rfl (hb hby d19_27) rfl (l' := #[.val (.int ii), .val (.int (2 : Int32)), .val (.int qa), .val (.int qb), .val (.int qc), .val (.int (1 : Int32))]) rfl ?_
        show Steps p.tables e below (s₁.setTop (mkF m 29 #[.val (.int ii), .val (.int (2 : Int32)), .val (.int qa), .val (.int qb), .val (.int qc), .val (.int (1 : Int32))] [])) _
        refine XS.iloadN X0.here hx rfl (hb hby d19_29) rfl ?_
        show Steps p.tables e below (s₁.setTop (mkF m 30 #[.val (.int ii), .val (.int (2 : Int32)), .val (.int qa), .val (.int qb), .val (.int qc), .val (.int (1 : Int32))] [(.int (2 : Int32))])) _
        refine XS.iconst X0.here hx rfl (hb hby d19_30) ?_
        show Steps p.tables e below (s₁.setTop (mkF m 31 #[.val (.int ii), .val (.int (2 : Int32)), .val (.int qa), .val (.int qb), .val (.int qc), .val (.int (1 : Int32))] [(.int (3 : Int32)), (.int (2 : Int32))])) _
        refine XS.icmpYes X0.here hx rfl (pc0 := 31) (pc' := 43) rfl (hb hby d19_31) rfl (tlt (by decide : (2 : Int32) < (3 : Int32))).1 (by decide) (by decide) ?_
        show Steps p.tables e below (s₁.setTop (mkF m 43 #[.val (.int ii), .val (.int (2 : Int32)), .val (.int qa), .val (.int qb), .val (.int qc), .val (.int (1 : Int32))] [])) _
        refine XS.iload X0.here hx rfl (hb hby d19_43) rfl ?_
        show Steps p.tables e below (s₁.setTop (mkF m 45 #[.val (.int ii), .val (.int (2 : Int32)), .val (.int qa), .val (.int qb), .val (.int qc), .val (.int (1 : Int32))] [(.int (1 : Int32))])) _
        refine XS.ifYes X0.here hx rfl (pc0 := 45) (pc' := 52) rfl (hb hby d19_45) rfl ((if0 _ _).trans (feq (by decide : ¬ ((1 : Int32) = (0 : Int32)))).2) (by decide) (by decide) ?_
        show Steps p.tables e below (s₁.setTop (mkF m 52 #[.val (.int ii), .val (.int (2 : Int32)), .val (.int qa), .val (.int qb), .val (.int qc), .val (.int (1 : Int32))] [])) _
        refine XS.iconst X0.here hx rfl (hb hby d19_52) ?_
        exact ktg)
      obtain ⟨fs, hr, hrun, hended, hW, hsame⟩ := X0.leave (v := some (.int (0 : Int32))) (fun h => by rw [Bd.returns] at h; cases h)
      refine ⟨_, _, pre_7 _ ?_, hrun, hended, _, _, rfl, ?_, ⟨_, rfl⟩, hW, hsame.mono (by decide) (by decide)⟩
      · show Steps p.tables e below (s₁.setTop (mkF m 53 #[.val (.int ii), .val (.int (2 : Int32)), .val (.int qa), .val (.int qb), .val (.int qc), .val (.int (1 : Int32))] [(.int (0 : Int32))])) _
        exact retN X0 hx (t := .boolean) Bd.returns (by simp) (hb hby d19_53) hr
      · show Qex2 Z ii qa qb qc h0 n0 _ s₁.heap _
        rw [e0]
        exact ⟨by simp only [exl]; rw [if_pos c_2], N0, rfl⟩
    · skip
      have pre_8 : Rch p.tables e below (s₁.setTop (entryFrame m #[(.int ii), (.int (2 : Int32)), (.int qa), (.int qb), (.int qc)] 6)) (s₁.setTop (mkF m 29 #[.val (.int ii), .val (.int (2 : Int32)), .val (.int qa), .val (.int qb), .val (.int qc), .val (.int (1 : Int32))] [])) := fun tgt ktg => pre_4 tgt (by
        show Steps p.tables e below (s₁.setTop (mkF m 23 #[.val (.int ii), .val (.int (2 : Int32)), .val (.int qa), .val (.int qb), .val (.int qc), .val (.int (1 : Int32))] [(.int qb), (.int ii)])) _
        refine XS.icmpYes X0.here hx rfl (pc0 := 23) (pc' := 29) rfl (hb hby d19_23) rfl (feq c_5).2 (by decide) (by decide) ?_
        exact ktg)
      have pre_9 : Rch p.tables e below (s₁.setTop (entryFrame m #[(.int ii), (.int (2 : Int32)), (.int qa), (.int qb), (.int qc)] 6)) (s₁.setTop (mkF m 53 #[.val (.int ii), .val (.int (2 : Int32)), .val (.int qa), .val (.int qb), .val (.int qc), .val (.int (1 : Int32))] [(.int (0 : Int32))])) := fun tgt ktg => pre_8 tgt (by
        show Steps p.tables e below (s₁.setTop (mkF m 29 #[.val (.int ii), .val (.int (2 : Int32)), .val (.int qa), .val (.int qb), .val (.int qc), .val (.int (1 : Int32))] [])) _
        refine XS.iloadN X0.here hx rfl (hb hby d19_29) rfl ?_
        show Steps p.tables e below (s₁.setTop (mkF m 30 #[.val (.int ii), .val (.int (2 : Int32)), .val (.int qa), .val (.int qb), .val (.int qc), .val (.int (1 : Int32))] [(.int (2 : Int32))])) _
        refine XS.iconst X0.here hx rfl (hb hby d19_30) ?_
        show Steps p.tables e below (s₁.setTop (mkF m 31 #[.val (.int ii), .val (.int (2 : Int32)), .val (.int qa), .val (.int qb), .val (.int qc), .val (.int (1 : Int32))] [(.int (3 : Int32)), (.int (2 : Int32))])) _
        refine XS.icmpYes X0.here hx rfl (pc0 := 31) (pc' := 43) rfl (hb hby d19_31) rfl (tlt (by decide : (2 : Int32) < (3 : Int32))).1 (by decide) (by decide) ?_
        show Steps p.tables e below (s₁.setTop (mkF m 43 #[.val (.int ii), .val (.int (2 : Int32)), .val (.int qa), .val (.int qb), .val (.int qc), .val (.int (1 : Int32))] [])) _
        refine XS.iload X0.here hx rfl (hb hby d19_43) rfl ?_
        show Steps p.tables e below (s₁.setTop (mkF m 45 #[.val (.int ii), .val (.int (2 : Int32)), .val (.int qa), .val (.int qb), .val (.int qc), .val (.int (1 : Int32))] [(.int (1 : Int32))])) _
        refine XS.ifYes X0.here hx rfl (pc0 := 45) (pc' := 52) rfl (hb hby d19_45) rfl ((if0 _ _).trans (feq (by decide : ¬ ((1 : Int32) = (0 : Int32)))).2) (by decide) (by decide) ?_
        show Steps p.tables e below (s₁.setTop (mkF m 52 #[.val (.int ii), .val (.int (2 : Int32)), .val (.int qa), .val (.int qb), .val (.int qc), .val (.int (1 : Int32))] [])) _
        refine XS.iconst X0.here hx rfl (hb hby d19_52) ?_
        exact ktg)
      obtain ⟨fs, hr, hrun, hended, hW, hsame⟩ := X0.leave (v := some (.int (0 : Int32))) (fun h => by rw [Bd.returns] at h; cases h)
      refine ⟨_, _, pre_9 _ ?_, hrun, hended, _, _, rfl, ?_, ⟨_, rfl⟩, hW, hsame.mono (by decide) (by decide)⟩
      · show Steps p.tables e below (s₁.setTop (mkF m 53 #[.val (.int ii), .val (.int (2 : Int32)), .val (.int qa), .val (.int qb), .val (.int qc), .val (.int (1 : Int32))] [(.int (0 : Int32))])) _
        exact retN X0 hx (t := .boolean) Bd.returns (by simp) (hb hby d19_53) hr
      · show Qex2 Z ii qa qb qc h0 n0 _ s₁.heap _
        rw [e0]
        exact ⟨by simp only [exl]; rw [if_pos c_2], N0, rfl⟩
  · skip
    have pre_10 : Rch p.tables e below (s₁.setTop (entryFrame m #[(.int ii), (.int (2 : Int32)), (.int qa), (.int qb), (.int qc)] 6)) (s₁.setTop (mkF m 16 #[.val (.int ii), .val (.int (2 : Int32)), .val (.int qa), .val (.int qb), .val (.int qc), .val (.int (0 : Int32))] [])) := fun tgt ktg => pre_1 tgt (by
      show Steps p.tables e below (s₁.setTop (mkF m 10 #[.val (.int ii), .val (.int (2 : Int32)), .val (.int qa), .val (.int qb), .val (.int qc), .val (.int (0 : Int32))] [(.int qa), (.int ii)])) _
      refine XS.icmpYes X0.here hx rfl (pc0 := 10) (pc' := 16) rfl (hb hby d19_10) rfl (feq c_2).2 (by decide) (by decide) ?_
      exact ktg)
    have pre_11 : Rch p.tables e below (s₁.setTop (entryFrame m #[(.int ii), (.int (2 : Int32)), (.int qa), (.int qb), (.int qc)] 6)) (s₁.setTop (mkF m 23 #[.val (.int ii), .val (.int (2 : Int32)), .val (.int qa), .val (.int qb), .val (.int qc), .val (.int (0 : Int32))] [(.int qb), (.int ii)])) := fun tgt ktg => pre_10 tgt (by
      show Steps p.tables e below (s₁.setTop (mkF m 16 #[.val (.int ii), .val (.int (2 : Int32)), .val (.int qa), .val (.int qb), .val (.int qc), .val (.int (0 : Int32))] [])) _
      refine XS.iloadN X0.here hx rfl (hb hby d19_16) rfl ?_
      show Steps p.tables e below (s₁.setTop (mkF m 17 #[.val (.int ii), .val (.int (2 : Int32)), .val (.int qa), .val (.int qb), .val (.int qc), .val (.int (0 : Int32))] [(.int (2 : Int32))])) _
      refine XS.iconst X0.here hx rfl (hb hby d19_17) ?_
      show Steps p.tables e below (s₁.setTop (mkF m 18 #[.val (.int ii), .val (.int (2 : Int32)), .val (.int qa), .val (.int qb), .val (.int qc), .val (.int (0 : Int32))] [(.int (2 : Int32)), (.int (2 : Int32))])) _
      refine XS.icmpNo X0.here hx rfl (hb hby d19_18) rfl (flt (by decide : ¬ ((2 : Int32) < (2 : Int32)))).1 ?_
      show Steps p.tables e below (s₁.setTop (mkF m 21 #[.val (.int ii), .val (.int (2 : Int32)), .val (.int qa), .val (.int qb), .val (.int qc), .val (.int (0 : Int32))] [])) _
      refine XS.iloadN X0.here hx rfl (hb hby d19_21) rfl ?_
      show Steps p.tables e below (s₁.setTop (mkF m 22 #[.val (.int ii), .val (.int (2 : Int32)), .val (.int qa), .val (.int qb), .val (.int qc), .val (.int (0 : Int32))] [(.int ii)])) _
      refine XS.iloadN X0.here hx rfl (hb hby d19_22) rfl ?_
      exact ktg)
    by_cases c_12 : ii = qb
    · skip
      have pre_13 : Rch p.tables e below (s₁.setTop (entryFrame m #[(.int ii), (.int (2 : Int32)), (.int qa), (.int qb), (.int qc)] 6)) (s₁.setTop (mkF m 26 #[.val (.int ii), .val (.int (2 : Int32)), .val (.int qa), .val (.int qb), .val (.int qc), .val (.int (0 : Int32))] [])) := fun tgt ktg => pre_11 tgt (by
        show Steps p.tables e below (s₁.setTop (mkF m 23 #[.val (.int ii), .val (.int (2 : Int32)), .val (.int qa), .val (.int qb), .val (.int qc), .val (.int (0 : Int32))] [(.int qb), (.int ii)])) _
        refine XS.icmpNo X0.here hx rfl (hb hby d19_23) rfl (teq c_12).2 ?_
        exact ktg)
      have pre_14 : Rch p.tables e below (s₁.setTop (entryFrame m #[(.int ii), (.int (2 : Int32)), (.int qa), (.int qb), (.int qc)] 6)) (s₁.setTop (mkF m 53 #[.val (.int ii), .val (.int (2 : Int32)), .val (.int qa), .val (.int qb), .val (.int qc), .val (.int (1 : Int32))] [(.int (0 : Int32))])) := fun tgt ktg => pre_13 tgt (by
        show Steps p.tables e below (s₁.setTop (mkF m 26 #[.val (.int ii), .val (.int (2 : Int32)), .val (.int qa), .val (.int qb), .val (.int qc), .val (.int (0 : Int32))] [])) _
        refine XS.iconst X0.here hx rfl (hb hby d19_26) ?_
        show Steps p.tables e below (s₁.setTop (mkF m 27 #[.val (.int ii), .val (.int (2 : Int32)), .val (.int qa), .val (.int qb), .val (.int qc), .val (.int (0 : Int32))] [(.int (1 : Int32))])) _
        refine XS.istore X0.here hx rfl (hb hby d19_27) rfl (l' := #[.val (.int ii), .val (.int (2 : Int32)), .val (.int qa), .val (.int qb), .val (.int qc), .val (.int (1 : Int32))]) rfl ?_
        show Steps p.tables e below (s₁.setTop (mkF m 29 #[.val (.int ii), .val (.int (2 : Int32)), .val (.int qa), .val (.int qb), .val (.int qc), .val (.int (1 : Int32))] [])) _
        refine XS.iloadN X0.here hx rfl (hb hby d19_29) rfl ?_
        show Steps p.tables e below (s₁.setTop (mkF m 30 #[.val (.int ii), .val (.int (2 : Int32)), .val (.int qa), .val (.int qb), .val (.int qc), .val (.int (1 : Int32))] [(.int (2 : Int32))])) _
        refine XS.iconst X0.here hx rfl (hb hby d19_30) ?_
        show Steps p.tables e below (s₁.setTop (mkF m 31 #[.val (.int ii), .val (.int (2 : Int32)), .val (.int qa), .val (.int qb), .val (.int qc), .val (.int (1 : Int32))] [(.int (3 : Int32)), (.int (2 : Int32))])) _
        refine XS.icmpYes X0.here hx rfl (pc0 := 31) (pc' := 43) rfl (hb hby d19_31) rfl (tlt (by decide : (2 : Int32) < (3 : Int32))).1 (by decide) (by decide) ?_
        show Steps p.tables e below (s₁.setTop (mkF m 43 #[.val (.int ii), .val (.int (2 : Int32)), .val (.int qa), .val (.int qb), .val (.int qc), .val (.int (1 : Int32))] [])) _
        refine XS.iload X0.here hx rfl (hb hby d19_43) rfl ?_
        show Steps p.tables e below (s₁.setTop (mkF m 45 #[.val (.int ii), .val (.int (2 : Int32)), .val (.int qa), .val (.int qb), .val (.int qc), .val (.int (1 : Int32))] [(.int (1 : Int32))])) _
        refine XS.ifYes X0.here hx rfl (pc0 := 45) (pc' := 52) rfl (hb hby d19_45) rfl ((if0 _ _).trans (feq (by decide : ¬ ((1 : Int32) = (0 : Int32)))).2) (by decide) (by decide) ?_
        show Steps p.tables e below (s₁.setTop (mkF m 52 #[.val (.int ii), .val (.int (2 : Int32)), .val (.int qa), .val (.int qb), .val (.int qc), .val (.int (1 : Int32))] [])) _
        refine XS.iconst X0.here hx rfl (hb hby d19_52) ?_
        exact ktg)
      obtain ⟨fs, hr, hrun, hended, hW, hsame⟩ := X0.leave (v := some (.int (0 : Int32))) (fun h => by rw [Bd.returns] at h; cases h)
      refine ⟨_, _, pre_14 _ ?_, hrun, hended, _, _, rfl, ?_, ⟨_, rfl⟩, hW, hsame.mono (by decide) (by decide)⟩
      · show Steps p.tables e below (s₁.setTop (mkF m 53 #[.val (.int ii), .val (.int (2 : Int32)), .val (.int qa), .val (.int qb), .val (.int qc), .val (.int (1 : Int32))] [(.int (0 : Int32))])) _
        exact retN X0 hx (t := .boolean) Bd.returns (by simp) (hb hby d19_53) hr
      · show Qex2 Z ii qa qb qc h0 n0 _ s₁.heap _
        rw [e0]
        exact ⟨by simp only [exl]; rw [if_neg c_2, if_pos c_12], N0, rfl⟩
    · skip
      have pre_15 : Rch p.tables e below (s₁.setTop (entryFrame m #[(.int ii), (.int (2 : Int32)), (.int qa), (.int qb), (.int qc)] 6)) (s₁.setTop (mkF m 29 #[.val (.int ii), .val (.int (2 : Int32)), .val (.int qa), .val (.int qb), .val (.int qc), .val (.int (0 : Int32))] [])) := fun tgt ktg => pre_11 tgt (by
        show Steps p.tables e below (s₁.setTop (mkF m 23 #[.val (.int ii), .val (.int (2 : Int32)), .val (.int qa), .val (.int qb), .val (.int qc), .val (.int (0 : Int32))] [(.int qb), (.int ii)])) _
        refine XS.icmpYes X0.here hx rfl (pc0 := 23) (pc' := 29) rfl (hb hby d19_23) rfl (feq c_12).2 (by decide) (by decide) ?_
        exact ktg)
      have pre_16 : Rch p.tables e below (s₁.setTop (entryFrame m #[(.int ii), (.int (2 : Int32)), (.int qa), (.int qb), (.int qc)] 6)) (s₁.setTop (mkF m 53 #[.val (.int ii), .val (.int (2 : Int32)), .val (.int qa), .val (.int qb), .val (.int qc), .val (.int (0 : Int32))] [(.int (1 : Int32))])) := fun tgt ktg => pre_15 tgt (by
        show Steps p.tables e below (s₁.setTop (mkF m 29 #[.val (.int ii), .val (.int (2 : Int32)), .val (.int qa), .val (.int qb), .val (.int qc), .val (.int (0 : Int32))] [])) _
        refine XS.iloadN X0.here hx rfl (hb hby d19_29) rfl ?_
        show Steps p.tables e below (s₁.setTop (mkF m 30 #[.val (.int ii), .val (.int (2 : Int32)), .val (.int qa), .val (.int qb), .val (.int qc), .val (.int (0 : Int32))] [(.int (2 : Int32))])) _
        refine XS.iconst X0.here hx rfl (hb hby d19_30) ?_
        show Steps p.tables e below (s₁.setTop (mkF m 31 #[.val (.int ii), .val (.int (2 : Int32)), .val (.int qa), .val (.int qb), .val (.int qc), .val (.int (0 : Int32))] [(.int (3 : Int32)), (.int (2 : Int32))])) _
        refine XS.icmpYes X0.here hx rfl (pc0 := 31) (pc' := 43) rfl (hb hby d19_31) rfl (tlt (by decide : (2 : Int32) < (3 : Int32))).1 (by decide) (by decide) ?_
        show Steps p.tables e below (s₁.setTop (mkF m 43 #[.val (.int ii), .val (.int (2 : Int32)), .val (.int qa), .val (.int qb), .val (.int qc), .val (.int (0 : Int32))] [])) _
        refine XS.iload X0.here hx rfl (hb hby d19_43) rfl ?_
        show Steps p.tables e below (s₁.setTop (mkF m 45 #[.val (.int ii), .val (.int (2 : Int32)), .val (.int qa), .val (.int qb), .val (.int qc), .val (.int (0 : Int32))] [(.int (0 : Int32))])) _
        refine XS.ifNo X0.here hx rfl (hb hby d19_45) rfl ((if0 _ _).trans (teq (rfl : (0 : Int32) = (0 : Int32))).2) ?_
        show Steps p.tables e below (s₁.setTop (mkF m 48 #[.val (.int ii), .val (.int (2 : Int32)), .val (.int qa), .val (.int qb), .val (.int qc), .val (.int (0 : Int32))] [])) _
        refine XS.iconst X0.here hx rfl (hb hby d19_48) ?_
        show Steps p.tables e below (s₁.setTop (mkF m 49 #[.val (.int ii), .val (.int (2 : Int32)), .val (.int qa), .val (.int qb), .val (.int qc), .val (.int (0 : Int32))] [(.int (1 : Int32))])) _
        refine XS.goto X0.here hx rfl (pc0 := 49) (pc' := 53) rfl (hb hby d19_49) (by decide) (by decide) ?_
        exact ktg)
      obtain ⟨fs, hr, hrun, hended, hW, hsame⟩ := X0.leave (v := some (.int (1 : Int32))) (fun h => by rw [Bd.returns] at h; cases h)
      refine ⟨_, _, pre_16 _ ?_, hrun, hended, _, _, rfl, ?_, ⟨_, rfl⟩, hW, hsame.mono (by decide) (by decide)⟩
      · show Steps p.tables e below (s₁.setTop (mkF m 53 #[.val (.int ii), .val (.int (2 : Int32)), .val (.int qa), .val (.int qb), .val (.int qc), .val (.int (0 : Int32))] [(.int (1 : Int32))])) _
        exact retN X0 hx (t := .boolean) Bd.returns (by simp) (hb hby d19_53) hr
      · show Qex2 Z ii qa qb qc h0 n0 _ s₁.heap _
        rw [e0]
        exact ⟨by simp only [exl]; rw [if_neg c_2, if_neg c_12], N0, rfl⟩
theorem d19_34 : decode method_4_code 34 = .ok (.iload_n 0, 1) := by decide +kernel
theorem d19_35 : decode method_4_code 35 = .ok (.iload 4, 2) := by decide +kernel
theorem d19_37 : decode method_4_code 37 = .ok (.if_icmp .ne 6, 3) := by decide +kernel
theorem d19_40 : decode method_4_code 40 = .ok (.iconst 1, 1) := by decide +kernel
theorem d19_41 : decode method_4_code 41 = .ok (.istore 5, 2) := by decide +kernel
theorem ef_ex3 (m : MethodId) (x0 : Int32) (x1 : Int32) (x2 : Int32) (x3 : Int32) (x4 : Int32) : entryFrame m #[(.int x0), (.int x1), (.int x2), (.int x3), (.int x4)] 6 = mkF m 0 #[.val (.int x0), .val (.int x1), .val (.int x2), .val (.int x3), .val (.int x4), .unset] [] := by first | (simp [entryFrame, mkF, argsToLocals, Value.category]; done) | rfl
def Qex3 (Z : State) (ii : Int32) (qa : Int32) (qb : Int32) (qc : Int32) (h0 : Heap) (n0 : Nat) (v : Option Value) (h : Heap) (L : List Loc) : Prop := v = some (.int (exl [qa, qb, qc] ii)) ∧ Fr n0 L ∧ h = h0
set_option maxRecDepth 65536 in
set_option maxHeartbeats 40000000 in
theorem rmex3 (l : Launch) (Z : State) (a0 : Array Value) (hw : ∀ d ∈ tables_1, d.before a0 Z = true) (ws : List Jvm.Cond) (ii : Int32) (qa : Int32) (qb : Int32) (qc : Int32) (h0 : Heap) (n0 : Nat) (Z0 : n0 ≤ h0.size)  :
    MetFree l (⟨"com/example/termwell/termwell/tables/XmlTextPlainAsciiPinLaw", "expected", "(IICCC)Z"⟩ : MethodName) (head1 (Jvm.Cond.code (⟨"com/example/termwell/termwell/tables/XmlTextPlainAsciiPinLaw", "expected", "(IICCC)Z"⟩ : MethodName) method_4_code 6 (some .boolean) :: ws) ({ frames := 0, cells := 0, slots := 0, locals := 0 } : Room)) (fun aA U => aA = #[(.int ii), (.int (3 : Int32)), (.int qa), (.int qb), (.int qc)] ∧ Z.Warmed39 U.vm ∧ U.heap = h0) (fun _ _ _ _ _ => True) (fun _ U oO U' => ∃ vV LL, oO = .returned vV ∧ Qex3 Z ii qa qb qc h0 n0 vV U'.heap LL ∧ FrameEnd U oO U' LL ({ frames := 0, cells := 0, slots := 0, locals := 0 } : Room).cells ({ frames := 0, cells := 0, slots := 0, locals := 0 } : Room).slots) := by
  refine MetFree.of_bodySF (plainFor_of_name pn_4) hisR ?_
  intro p e s m args below meth c s₁ Bd hml0 hP hK
  obtain ⟨rfl, hZ, hh⟩ := hP
  have hx := Bd.exec
  have hby := Bd.bytes
  have hml : c.maxLocals = 6 := hml0
  have hown : s.vm.findClass "com/example/termwell/termwell/tables/XmlTextPlainAsciiPinLaw" = some m.cls := findClass_of_methodNamed Bd.named
  have hnm := (name_of_methodNamed Bd.named Bd.method).1
  have X0 : Stand p l e ({ frames := 0, cells := 0, slots := 0, locals := 0 } : Room) s m #[(.int ii), (.int (3 : Int32)), (.int qa), (.int qb), (.int qc)] below meth c s₁ [] 0 0 := Stand.of_body Bd
  have e0 : s₁.heap = h0 := by rw [← hh, Bd.state]; rfl
  have N0 := Fr.nil n0
  have K0 : Keep h0 h0 [] := Keep.refl _ _
  have pre0 : Rch p.tables e below (s₁.setTop (entryFrame m #[(.int ii), (.int (3 : Int32)), (.int qa), (.int qb), (.int qc)] 6)) (s₁.setTop (mkF m 0 #[.val (.int ii), .val (.int (3 : Int32)), .val (.int qa), .val (.int qb), .val (.int qc), .unset] [])) := fun tgt ktg => castTop (ef_ex3 m ii (3 : Int32) qa qb qc) ktg
  have pre_1 : Rch p.tables e below (s₁.setTop (entryFrame m #[(.int ii), (.int (3 : Int32)), (.int qa), (.int qb), (.int qc)] 6)) (s₁.setTop (mkF m 10 #[.val (.int ii), .val (.int (3 : Int32)), .val (.int qa), .val (.int qb), .val (.int qc), .val (.int (0 : Int32))] [(.int qa), (.int ii)])) := fun tgt ktg => pre0 tgt (by
    show Steps p.tables e below (s₁.setTop (mkF m 0 #[.val (.int ii), .val (.int (3 : Int32)), .val (.int qa), .val (.int qb), .val (.int qc), .unset] [])) _
    refine XS.iconst X0.here hx rfl (hb hby d19_0) ?_
    show Steps p.tables e below (s₁.setTop (mkF m 1 #[.val (.int ii), .val (.int (3 : Int32)), .val (.int qa), .val (.int qb), .val (.int qc), .unset] [(.int (0 : Int32))])) _
    refine XS.istore X0.here hx rfl (hb hby d19_1) rfl (l' := #[.val (.int ii), .val (.int (3 : Int32)), .val (.int qa), .val (.int qb), .val (.int qc), .val (.int (0 : Int32))]) rfl ?_
    show Steps p.tables e below (s₁.setTop (mkF m 3 #[.val (.int ii), .val (.int (3 : Int32)), .val (.int qa), .val (.int qb), .val (.int qc), .val (.int (0 : Int32))] [])) _
    refine XS.iloadN X0.here hx rfl (hb hby d19_3) rfl ?_
    show Steps p.tables e below (s₁.setTop (mkF m 4 #[.val (.int ii), .val (.int (3 : Int32)), .val (.int qa), .val (.int qb), .val (.int qc), .val (.int (0 : Int32))] [(.int (3 : Int32))])) _
    refine XS.iconst X0.here hx rfl (hb hby d19_4) ?_
    show Steps p.tables e below (s₁.setTop (mkF m 5 #[.val (.int ii), .val (.int (3 : Int32)), .val (.int qa), .val (.int qb), .val (.int qc), .val (.int (0 : Int32))] [(.int (1 : Int32)), (.int (3 : Int32))])) _
    refine XS.icmpNo X0.here hx rfl (hb hby d19_5) rfl (flt (by decide : ¬ ((3 : Int32) < (1 : Int32)))).1 ?_
    show Steps p.tables e below (s₁.setTop (mkF m 8 #[.val (.int ii), .val (.int (3 : Int32)), .val (.int qa), .val (.int qb), .val (.int qc), .val (.int (0 : Int32))] [])) _
    refine XS.iloadN X0.here hx rfl (hb hby d19_8) rfl ?_
    show Steps p.tables e below (s₁.setTop (mkF m 9 #[.val (.int ii), .val (.int (3 : Int32)), .val (.int qa), .val (.int qb), .val (.int qc), .val (.int (0 : Int32))] [(.int ii)])) _
    refine XS.iloadN X0.here hx rfl (hb hby d19_9) rfl ?_
    exact ktg)
  by_cases c_2 : ii = qa
  · skip
    have pre_3 : Rch p.tables e below (s₁.setTop (entryFrame m #[(.int ii), (.int (3 : Int32)), (.int qa), (.int qb), (.int qc)] 6)) (s₁.setTop (mkF m 13 #[.val (.int ii), .val (.int (3 : Int32)), .val (.int qa), .val (.int qb), .val (.int qc), .val (.int (0 : Int32))] [])) := fun tgt ktg => pre_1 tgt (by
      show Steps p.tables e below (s₁.setTop (mkF m 10 #[.val (.int ii), .val (.int (3 : Int32)), .val (.int qa), .val (.int qb), .val (.int qc), .val (.int (0 : Int32))] [(.int qa), (.int ii)])) _
      refine XS.icmpNo X0.here hx rfl (hb hby d19_10) rfl (teq c_2).2 ?_
      exact ktg)
    have pre_4 : Rch p.tables e below (s₁.setTop (entryFrame m #[(.int ii), (.int (3 : Int32)), (.int qa), (.int qb), (.int qc)] 6)) (s₁.setTop (mkF m 23 #[.val (.int ii), .val (.int (3 : Int32)), .val (.int qa), .val (.int qb), .val (.int qc), .val (.int (1 : Int32))] [(.int qb), (.int ii)])) := fun tgt ktg => pre_3 tgt (by
      show Steps p.tables e below (s₁.setTop (mkF m 13 #[.val (.int ii), .val (.int (3 : Int32)), .val (.int qa), .val (.int qb), .val (.int qc), .val (.int (0 : Int32))] [])) _
      refine XS.iconst X0.here hx rfl (hb hby d19_13) ?_
      show Steps p.tables e below (s₁.setTop (mkF m 14 #[.val (.int ii), .val (.int (3 : Int32)), .val (.int qa), .val (.int qb), .val (.int qc), .val (.int (0 : Int32))] [(.int (1 : Int32))])) _
      refine XS.istore X0.here hx rfl (hb hby d19_14) rfl (l' := #[.val (.int ii), .val (.int (3 : Int32)), .val (.int qa), .val (.int qb), .val (.int qc), .val (.int (1 : Int32))]) rfl ?_
      show Steps p.tables e below (s₁.setTop (mkF m 16 #[.val (.int ii), .val (.int (3 : Int32)), .val (.int qa), .val (.int qb), .val (.int qc), .val (.int (1 : Int32))] [])) _
      refine XS.iloadN X0.here hx rfl (hb hby d19_16) rfl ?_
      show Steps p.tables e below (s₁.setTop (mkF m 17 #[.val (.int ii), .val (.int (3 : Int32)), .val (.int qa), .val (.int qb), .val (.int qc), .val (.int (1 : Int32))] [(.int (3 : Int32))])) _
      refine XS.iconst X0.here hx rfl (hb hby d19_17) ?_
      show Steps p.tables e below (s₁.setTop (mkF m 18 #[.val (.int ii), .val (.int (3 : Int32)), .val (.int qa), .val (.int qb), .val (.int qc), .val (.int (1 : Int32))] [(.int (2 : Int32)), (.int (3 : Int32))])) _
      refine XS.icmpNo X0.here hx rfl (hb hby d19_18) rfl (flt (by decide : ¬ ((3 : Int32) < (2 : Int32)))).1 ?_
      show Steps p.tables e below (s₁.setTop (mkF m 21 #[.val (.int ii), .val (.int (3 : Int32)), .val (.int qa), .val (.int qb), .val (.int qc), .val (.int (1 : Int32))] [])) _
      refine XS.iloadN X0.here hx rfl (hb hby d19_21) rfl ?_
      show Steps p.tables e below (s₁.setTop (mkF m 22 #[.val (.int ii), .val (.int (3 : Int32)), .val (.int qa), .val (.int qb), .val (.int qc), .val (.int (1 : Int32))] [(.int ii)])) _
      refine XS.iloadN X0.here hx rfl (hb hby d19_22) rfl ?_
      exact ktg)
    by_cases c_5 : ii = qb
    · skip
      have pre_6 : Rch p.tables e below (s₁.setTop (entryFrame m #[(.int ii), (.int (3 : Int32)), (.int qa), (.int qb), (.int qc)] 6)) (s₁.setTop (mkF m 26 #[.val (.int ii), .val (.int (3 : Int32)), .val (.int qa), .val (.int qb), .val (.int qc), .val (.int (1 : Int32))] [])) := fun tgt ktg => pre_4 tgt (by
        show Steps p.tables e below (s₁.setTop (mkF m 23 #[.val (.int ii), .val (.int (3 : Int32)), .val (.int qa), .val (.int qb), .val (.int qc), .val (.int (1 : Int32))] [(.int qb), (.int ii)])) _
        refine XS.icmpNo X0.here hx rfl (hb hby d19_23) rfl (teq c_5).2 ?_
        exact ktg)
      have pre_7 : Rch p.tables e below (s₁.setTop (entryFrame m #[(.int ii), (.int (3 : Int32)), (.int qa), (.int qb), (.int qc)] 6)) (s₁.setTop (mkF m 37 #[.val (.int ii), .val (.int (3 : Int32)), .val (.int qa), .val (.int qb), .val (.int qc), .val (.int (1 : Int32))] [(.int qc), (.int ii)])) := fun tgt ktg => pre_6 tgt (by
        show Steps p.tables e below (s₁.setTop (mkF m 26 #[.val (.int ii), .val (.int (3 : Int32)), .val (.int qa), .val (.int qb), .val (.int qc), .val (.int (1 : Int32))] [])) _
        refine XS.iconst X0.here hx rfl (hb hby d19_26) ?_
        show Steps p.tables e below (s₁.setTop (mkF m 27 #[.val (.int ii), .val (.int (3 : Int32)), .val (.int qa), .val (.int qb), .val (.int qc), .val (.int (1 : Int32))] [(.int (1 : Int32))])) _
        refine XS.istore X0.here hx rfl (hb hby d19_27) rfl (l' := #[.val (.int ii), .val (.int (3 : Int32)), .val (.int qa), .val (.int qb), .val (.int qc), .val (.int (1 : Int32))]) rfl ?_
        show Steps p.tables e below (s₁.setTop (mkF m 29 #[.val (.int ii), .val (.int (3 : Int32)), .val (.int qa), .val (.int qb), .val (.int qc), .val (.int (1 : Int32))] [])) _
        refine XS.iloadN X0.here hx rfl (hb hby d19_29) rfl ?_
        show Steps p.tables e below (s₁.setTop (mkF m 30 #[.val (.int ii), .val (.int (3 : Int32)), .val (.int qa), .val (.int qb), .val (.int qc), .val (.int (1 : Int32))] [(.int (3 : Int32))])) _
        refine XS.iconst X0.here hx rfl (hb hby d19_30) ?_
        show Steps p.tables e below (s₁.setTop (mkF m 31 #[.val (.int ii), .val (.int (3 : Int32)), .val (.int qa), .val (.int qb), .val (.int qc), .val (.int (1 : Int32))] [(.int (3 : Int32)), (.int (3 : Int32))])) _
        refine XS.icmpNo X0.here hx rfl (hb hby d19_31) rfl (flt (by decide : ¬ ((3 : Int32) < (3 : Int32)))).1 ?_
        show Steps p.tables e below (s₁.setTop (mkF m 34 #[.val (.int ii), .val (.int (3 : Int32)), .val (.int qa), .val (.int qb), .val (.int qc), .val (.int (1 : Int32))] [])) _
        refine XS.iloadN X0.here hx rfl (hb hby d19_34) rfl ?_
        show Steps p.tables e below (s₁.setTop (mkF m 35 #[.val (.int ii), .val (.int (3 : Int32)), .val (.int qa), .val (.int qb), .val (.int qc), .val (.int (1 : Int32))] [(.int ii)])) _
        refine XS.iload X0.here hx rfl (hb hby d19_35) rfl ?_
        exact ktg)
      by_cases c_8 : ii = qc
      · skip
        have pre_9 : Rch p.tables e below (s₁.setTop (entryFrame m #[(.int ii), (.int (3 : Int32)), (.int qa), (.int qb), (.int qc)] 6)) (s₁.setTop (mkF m 40 #[.val (.int ii), .val (.int (3 : Int32)), .val (.int qa), .val (.int qb), .val (.int qc), .val (.int (1 : Int32))] [])) := fun tgt ktg => pre_7 tgt (by
          show Steps p.tables e below (s₁.setTop (mkF m 37 #[.val (.int ii), .val (.int (3 : Int32)), .val (.int qa), .val (.int qb), .val (.int qc), .val (.int (1 : Int32))] [(.int qc), (.int ii)])) _
          refine XS.icmpNo X0.here hx rfl (hb hby d19_37) rfl (teq c_8).2 ?_
          exact ktg)
        have pre_10 : Rch p.tables e below (s₁.setTop (entryFrame m #[(.int ii), (.int (3 : Int32)), (.int qa), (.int qb), (.int qc)] 6)) (s₁.setTop (mkF m 53 #[.val (.int ii), .val (.int (3 : Int32)), .val (.int qa), .val (.int qb), .val (.int qc), .val (.int (1 : Int32))] [(.int (0 : Int32))])) := fun tgt ktg => pre_9 tgt (by
          show Steps p.tables e below (s₁.setTop (mkF m 40 #[.val (.int ii), .val (.int (3 : Int32)), .val (.int qa), .val (.int qb), .val (.int qc), .val (.int (1 : Int32))] [])) _
          refine XS.iconst X0.here hx rfl (hb hby d19_40) ?_
          show Steps p.tables e below (s₁.setTop (mkF m 41 #[.val (.int ii), .val (.int (3 : Int32)), .val (.int qa), .val (.int qb), .val (.int qc), .val (.int (1 : Int32))] [(.int (1 : Int32))])) _
          refine XS.istore X0.here hx rfl (hb hby d19_41) rfl (l' := #[.val (.int ii), .val (.int (3 : Int32)), .val (.int qa), .val (.int qb), .val (.int qc), .val (.int (1 : Int32))]) rfl ?_
          show Steps p.tables e below (s₁.setTop (mkF m 43 #[.val (.int ii), .val (.int (3 : Int32)), .val (.int qa), .val (.int qb), .val (.int qc), .val (.int (1 : Int32))] [])) _
          refine XS.iload X0.here hx rfl (hb hby d19_43) rfl ?_
          show Steps p.tables e below (s₁.setTop (mkF m 45 #[.val (.int ii), .val (.int (3 : Int32)), .val (.int qa), .val (.int qb), .val (.int qc), .val (.int (1 : Int32))] [(.int (1 : Int32))])) _
          refine XS.ifYes X0.here hx rfl (pc0 := 45) (pc' := 52) rfl (hb hby d19_45) rfl ((if0 _ _).trans (feq (by decide : ¬ ((1 : Int32) = (0 : Int32)))).2) (by decide) (by decide) ?_
          show Steps p.tables e below (s₁.setTop (mkF m 52 #[.val (.int ii), .val (.int (3 : Int32)), .val (.int qa), .val (.int qb), .val (.int qc), .val (.int (1 : Int32))] [])) _
          refine XS.iconst X0.here hx rfl (hb hby d19_52) ?_
          exact ktg)
        obtain ⟨fs, hr, hrun, hended, hW, hsame⟩ := X0.leave (v := some (.int (0 : Int32))) (fun h => by rw [Bd.returns] at h; cases h)
        refine ⟨_, _, pre_10 _ ?_, hrun, hended, _, _, rfl, ?_, ⟨_, rfl⟩, hW, hsame.mono (by decide) (by decide)⟩
        · show Steps p.tables e below (s₁.setTop (mkF m 53 #[.val (.int ii), .val (.int (3 : Int32)), .val (.int qa), .val (.int qb), .val (.int qc), .val (.int (1 : Int32))] [(.int (0 : Int32))])) _
          exact retN X0 hx (t := .boolean) Bd.returns (by simp) (hb hby d19_53) hr
        · show Qex3 Z ii qa qb qc h0 n0 _ s₁.heap _
          rw [e0]
          exact ⟨by simp only [exl]; rw [if_pos c_2], N0, rfl⟩
      · skip
        have pre_11 : Rch p.tables e below (s₁.setTop (entryFrame m #[(.int ii), (.int (3 : Int32)), (.int qa), (.int qb), (.int qc)] 6)) (s₁.setTop (mkF m 43 #[.val (.int ii), .val (.int (3 : Int32)), .val (.int qa), .val (.int qb), .val (.int qc), .val (.int (1 : Int32))] [])) := fun tgt ktg => pre_7 tgt (by
          show Steps p.tables e below (s₁.setTop (mkF m 37 #[.val (.int ii), .val (.int (3 : Int32)), .val (.int qa), .val (.int qb), .val (.int qc), .val (.int (1 : Int32))] [(.int qc), (.int ii)])) _
          refine XS.icmpYes X0.here hx rfl (pc0 := 37) (pc' := 43) rfl (hb hby d19_37) rfl (feq c_8).2 (by decide) (by decide) ?_
          exact ktg)
        have pre_12 : Rch p.tables e below (s₁.setTop (entryFrame m #[(.int ii), (.int (3 : Int32)), (.int qa), (.int qb), (.int qc)] 6)) (s₁.setTop (mkF m 53 #[.val (.int ii), .val (.int (3 : Int32)), .val (.int qa), .val (.int qb), .val (.int qc), .val (.int (1 : Int32))] [(.int (0 : Int32))])) := fun tgt ktg => pre_11 tgt (by
          show Steps p.tables e below (s₁.setTop (mkF m 43 #[.val (.int ii), .val (.int (3 : Int32)), .val (.int qa), .val (.int qb), .val (.int qc), .val (.int (1 : Int32))] [])) _
          refine XS.iload X0.here hx rfl (hb hby d19_43) rfl ?_
          show Steps p.tables e below (s₁.setTop (mkF m 45 #[.val (.int ii), .val (.int (3 : Int32)), .val (.int qa), .val (.int qb), .val (.int qc), .val (.int (1 : Int32))] [(.int (1 : Int32))])) _
          refine XS.ifYes X0.here hx rfl (pc0 := 45) (pc' := 52) rfl (hb hby d19_45) rfl ((if0 _ _).trans (feq (by decide : ¬ ((1 : Int32) = (0 : Int32)))).2) (by decide) (by decide) ?_
          show Steps p.tables e below (s₁.setTop (mkF m 52 #[.val (.int ii), .val (.int (3 : Int32)), .val (.int qa), .val (.int qb), .val (.int qc), .val (.int (1 : Int32))] [])) _
          refine XS.iconst X0.here hx rfl (hb hby d19_52) ?_
          exact ktg)
        obtain ⟨fs, hr, hrun, hended, hW, hsame⟩ := X0.leave (v := some (.int (0 : Int32))) (fun h => by rw [Bd.returns] at h; cases h)
        refine ⟨_, _, pre_12 _ ?_, hrun, hended, _, _, rfl, ?_, ⟨_, rfl⟩, hW, hsame.mono (by decide) (by decide)⟩
        · show Steps p.tables e below (s₁.setTop (mkF m 53 #[.val (.int ii), .val (.int (3 : Int32)), .val (.int qa), .val (.int qb), .val (.int qc), .val (.int (1 : Int32))] [(.int (0 : Int32))])) _
          exact retN X0 hx (t := .boolean) Bd.returns (by simp) (hb hby d19_53) hr
        · show Qex3 Z ii qa qb qc h0 n0 _ s₁.heap _
          rw [e0]
          exact ⟨by simp only [exl]; rw [if_pos c_2], N0, rfl⟩
    · skip
      have pre_13 : Rch p.tables e below (s₁.setTop (entryFrame m #[(.int ii), (.int (3 : Int32)), (.int qa), (.int qb), (.int qc)] 6)) (s₁.setTop (mkF m 29 #[.val (.int ii), .val (.int (3 : Int32)), .val (.int qa), .val (.int qb), .val (.int qc), .val (.int (1 : Int32))] [])) := fun tgt ktg => pre_4 tgt (by
        show Steps p.tables e below (s₁.setTop (mkF m 23 #[.val (.int ii), .val (.int (3 : Int32)), .val (.int qa), .val (.int qb), .val (.int qc), .val (.int (1 : Int32))] [(.int qb), (.int ii)])) _
        refine XS.icmpYes X0.here hx rfl (pc0 := 23) (pc' := 29) rfl (hb hby d19_23) rfl (feq c_5).2 (by decide) (by decide) ?_
        exact ktg)
      have pre_14 : Rch p.tables e below (s₁.setTop (entryFrame m #[(.int ii), (.int (3 : Int32)), (.int qa), (.int qb), (.int qc)] 6)) (s₁.setTop (mkF m 37 #[.val (.int ii), .val (.int (3 : Int32)), .val (.int qa), .val (.int qb), .val (.int qc), .val (.int (1 : Int32))] [(.int qc), (.int ii)])) := fun tgt ktg => pre_13 tgt (by
        show Steps p.tables e below (s₁.setTop (mkF m 29 #[.val (.int ii), .val (.int (3 : Int32)), .val (.int qa), .val (.int qb), .val (.int qc), .val (.int (1 : Int32))] [])) _
        refine XS.iloadN X0.here hx rfl (hb hby d19_29) rfl ?_
        show Steps p.tables e below (s₁.setTop (mkF m 30 #[.val (.int ii), .val (.int (3 : Int32)), .val (.int qa), .val (.int qb), .val (.int qc), .val (.int (1 : Int32))] [(.int (3 : Int32))])) _
        refine XS.iconst X0.here hx rfl (hb hby d19_30) ?_
        show Steps p.tables e below (s₁.setTop (mkF m 31 #[.val (.int ii), .val (.int (3 : Int32)), .val (.int qa), .val (.int qb), .val (.int qc), .val (.int (1 : Int32))] [(.int (3 : Int32)), (.int (3 : Int32))])) _
        refine XS.icmpNo X0.here hx rfl (hb hby d19_31) rfl (flt (by decide : ¬ ((3 : Int32) < (3 : Int32)))).1 ?_
        show Steps p.tables e below (s₁.setTop (mkF m 34 #[.val (.int ii), .val (.int (3 : Int32)), .val (.int qa), .val (.int qb), .val (.int qc), .val (.int (1 : Int32))] [])) _
        refine XS.iloadN X0.here hx rfl (hb hby d19_34) rfl ?_
        show Steps p.tables e below (s₁.setTop (mkF m 35 #[.val (.int ii), .val (.int (3 : Int32)), .val (.int qa), .val (.int qb), .val (.int qc), .val (.int (1 : Int32))] [(.int ii)])) _
        refine XS.iload X0.here hx rfl (hb hby d19_35) rfl ?_
        exact ktg)
      by_cases c_15 : ii = qc
      · skip
        have pre_16 : Rch p.tables e below (s₁.setTop (entryFrame m #[(.int ii), (.int (3 : Int32)), (.int qa), (.int qb), (.int qc)] 6)) (s₁.setTop (mkF m 40 #[.val (.int ii), .val (.int (3 : Int32)), .val (.int qa), .val (.int qb), .val (.int qc), .val (.int (1 : Int32))] [])) := fun tgt ktg => pre_14 tgt (by
          show Steps p.tables e below (s₁.setTop (mkF m 37 #[.val (.int ii), .val (.int (3 : Int32)), .val (.int qa), .val (.int qb), .val (.int qc), .val (.int (1 : Int32))] [(.int qc), (.int ii)])) _
          refine XS.icmpNo X0.here hx rfl (hb hby d19_37) rfl (teq c_15).2 ?_
          exact ktg)
        have pre_17 : Rch p.tables e below (s₁.setTop (entryFrame m #[(.int ii), (.int (3 : Int32)), (.int qa), (.int qb), (.int qc)] 6)) (s₁.setTop (mkF m 53 #[.val (.int ii), .val (.int (3 : Int32)), .val (.int qa), .val (.int qb), .val (.int qc), .val (.int (1 : Int32))] [(.int (0 : Int32))])) := fun tgt ktg => pre_16 tgt (by
          show Steps p.tables e below (s₁.setTop (mkF m 40 #[.val (.int ii), .val (.int (3 : Int32)), .val (.int qa), .val (.int qb), .val (.int qc), .val (.int (1 : Int32))] [])) _
          refine XS.iconst X0.here hx rfl (hb hby d19_40) ?_
          show Steps p.tables e below (s₁.setTop (mkF m 41 #[.val (.int ii), .val (.int (3 : Int32)), .val (.int qa), .val (.int qb), .val (.int qc), .val (.int (1 : Int32))] [(.int (1 : Int32))])) _
          refine XS.istore X0.here hx rfl (hb hby d19_41) rfl (l' := #[.val (.int ii), .val (.int (3 : Int32)), .val (.int qa), .val (.int qb), .val (.int qc), .val (.int (1 : Int32))]) rfl ?_
          show Steps p.tables e below (s₁.setTop (mkF m 43 #[.val (.int ii), .val (.int (3 : Int32)), .val (.int qa), .val (.int qb), .val (.int qc), .val (.int (1 : Int32))] [])) _
          refine XS.iload X0.here hx rfl (hb hby d19_43) rfl ?_
          show Steps p.tables e below (s₁.setTop (mkF m 45 #[.val (.int ii), .val (.int (3 : Int32)), .val (.int qa), .val (.int qb), .val (.int qc), .val (.int (1 : Int32))] [(.int (1 : Int32))])) _
          refine XS.ifYes X0.here hx rfl (pc0 := 45) (pc' := 52) rfl (hb hby d19_45) rfl ((if0 _ _).trans (feq (by decide : ¬ ((1 : Int32) = (0 : Int32)))).2) (by decide) (by decide) ?_
          show Steps p.tables e below (s₁.setTop (mkF m 52 #[.val (.int ii), .val (.int (3 : Int32)), .val (.int qa), .val (.int qb), .val (.int qc), .val (.int (1 : Int32))] [])) _
          refine XS.iconst X0.here hx rfl (hb hby d19_52) ?_
          exact ktg)
        obtain ⟨fs, hr, hrun, hended, hW, hsame⟩ := X0.leave (v := some (.int (0 : Int32))) (fun h => by rw [Bd.returns] at h; cases h)
        refine ⟨_, _, pre_17 _ ?_, hrun, hended, _, _, rfl, ?_, ⟨_, rfl⟩, hW, hsame.mono (by decide) (by decide)⟩
        · show Steps p.tables e below (s₁.setTop (mkF m 53 #[.val (.int ii), .val (.int (3 : Int32)), .val (.int qa), .val (.int qb), .val (.int qc), .val (.int (1 : Int32))] [(.int (0 : Int32))])) _
          exact retN X0 hx (t := .boolean) Bd.returns (by simp) (hb hby d19_53) hr
        · show Qex3 Z ii qa qb qc h0 n0 _ s₁.heap _
          rw [e0]
          exact ⟨by simp only [exl]; rw [if_pos c_2], N0, rfl⟩
      · skip
        have pre_18 : Rch p.tables e below (s₁.setTop (entryFrame m #[(.int ii), (.int (3 : Int32)), (.int qa), (.int qb), (.int qc)] 6)) (s₁.setTop (mkF m 43 #[.val (.int ii), .val (.int (3 : Int32)), .val (.int qa), .val (.int qb), .val (.int qc), .val (.int (1 : Int32))] [])) := fun tgt ktg => pre_14 tgt (by
          show Steps p.tables e below (s₁.setTop (mkF m 37 #[.val (.int ii), .val (.int (3 : Int32)), .val (.int qa), .val (.int qb), .val (.int qc), .val (.int (1 : Int32))] [(.int qc), (.int ii)])) _
          refine XS.icmpYes X0.here hx rfl (pc0 := 37) (pc' := 43) rfl (hb hby d19_37) rfl (feq c_15).2 (by decide) (by decide) ?_
          exact ktg)
        have pre_19 : Rch p.tables e below (s₁.setTop (entryFrame m #[(.int ii), (.int (3 : Int32)), (.int qa), (.int qb), (.int qc)] 6)) (s₁.setTop (mkF m 53 #[.val (.int ii), .val (.int (3 : Int32)), .val (.int qa), .val (.int qb), .val (.int qc), .val (.int (1 : Int32))] [(.int (0 : Int32))])) := fun tgt ktg => pre_18 tgt (by
          show Steps p.tables e below (s₁.setTop (mkF m 43 #[.val (.int ii), .val (.int (3 : Int32)), .val (.int qa), .val (.int qb), .val (.int qc), .val (.int (1 : Int32))] [])) _
          refine XS.iload X0.here hx rfl (hb hby d19_43) rfl ?_
          show Steps p.tables e below (s₁.setTop (mkF m 45 #[.val (.int ii), .val (.int (3 : Int32)), .val (.int qa), .val (.int qb), .val (.int qc), .val (.int (1 : Int32))] [(.int (1 : Int32))])) _
          refine XS.ifYes X0.here hx rfl (pc0 := 45) (pc' := 52) rfl (hb hby d19_45) rfl ((if0 _ _).trans (feq (by decide : ¬ ((1 : Int32) = (0 : Int32)))).2) (by decide) (by decide) ?_
          show Steps p.tables e below (s₁.setTop (mkF m 52 #[.val (.int ii), .val (.int (3 : Int32)), .val (.int qa), .val (.int qb), .val (.int qc), .val (.int (1 : Int32))] [])) _
          refine XS.iconst X0.here hx rfl (hb hby d19_52) ?_
          exact ktg)
        obtain ⟨fs, hr, hrun, hended, hW, hsame⟩ := X0.leave (v := some (.int (0 : Int32))) (fun h => by rw [Bd.returns] at h; cases h)
        refine ⟨_, _, pre_19 _ ?_, hrun, hended, _, _, rfl, ?_, ⟨_, rfl⟩, hW, hsame.mono (by decide) (by decide)⟩
        · show Steps p.tables e below (s₁.setTop (mkF m 53 #[.val (.int ii), .val (.int (3 : Int32)), .val (.int qa), .val (.int qb), .val (.int qc), .val (.int (1 : Int32))] [(.int (0 : Int32))])) _
          exact retN X0 hx (t := .boolean) Bd.returns (by simp) (hb hby d19_53) hr
        · show Qex3 Z ii qa qb qc h0 n0 _ s₁.heap _
          rw [e0]
          exact ⟨by simp only [exl]; rw [if_pos c_2], N0, rfl⟩
  · skip
    have pre_20 : Rch p.tables e below (s₁.setTop (entryFrame m #[(.int ii), (.int (3 : Int32)), (.int qa), (.int qb), (.int qc)] 6)) (s₁.setTop (mkF m 16 #[.val (.int ii), .val (.int (3 : Int32)), .val (.int qa), .val (.int qb), .val (.int qc), .val (.int (0 : Int32))] [])) := fun tgt ktg => pre_1 tgt (by
      show Steps p.tables e below (s₁.setTop (mkF m 10 #[.val (.int ii), .val (.int (3 : Int32)), .val (.int qa), .val (.int qb), .val (.int qc), .val (.int (0 : Int32))] [(.int qa), (.int ii)])) _
      refine XS.icmpYes X0.here hx rfl (pc0 := 10) (pc' := 16) rfl (hb hby d19_10) rfl (feq c_2).2 (by decide) (by decide) ?_
      exact ktg)
    have pre_21 : Rch p.tables e below (s₁.setTop (entryFrame m #[(.int ii), (.int (3 : Int32)), (.int qa), (.int qb), (.int qc)] 6)) (s₁.setTop (mkF m 23 #[.val (.int ii), .val (.int (3 : Int32)), .val (.int qa), .val (.int qb), .val (.int qc), .val (.int (0 : Int32))] [(.int qb), (.int ii)])) := fun tgt ktg => pre_20 tgt (by
      show Steps p.tables e below (s₁.setTop (mkF m 16 #[.val (.int ii), .val (.int (3 : Int32)), .val (.int qa), .val (.int qb), .val (.int qc), .val (.int (0 : Int32))] [])) _
      refine XS.iloadN X0.here hx rfl (hb hby d19_16) rfl ?_
      show Steps p.tables e below (s₁.setTop (mkF m 17 #[.val (.int ii), .val (.int (3 : Int32)), .val (.int qa), .val (.int qb), .val (.int qc), .val (.int (0 : Int32))] [(.int (3 : Int32))])) _
      refine XS.iconst X0.here hx rfl (hb hby d19_17) ?_
      show Steps p.tables e below (s₁.setTop (mkF m 18 #[.val (.int ii), .val (.int (3 : Int32)), .val (.int qa), .val (.int qb), .val (.int qc), .val (.int (0 : Int32))] [(.int (2 : Int32)), (.int (3 : Int32))])) _
      refine XS.icmpNo X0.here hx rfl (hb hby d19_18) rfl (flt (by decide : ¬ ((3 : Int32) < (2 : Int32)))).1 ?_
      show Steps p.tables e below (s₁.setTop (mkF m 21 #[.val (.int ii), .val (.int (3 : Int32)), .val (.int qa), .val (.int qb), .val (.int qc), .val (.int (0 : Int32))] [])) _
      refine XS.iloadN X0.here hx rfl (hb hby d19_21) rfl ?_
      show Steps p.tables e below (s₁.setTop (mkF m 22 #[.val (.int ii), .val (.int (3 : Int32)), .val (.int qa), .val (.int qb), .val (.int qc), .val (.int (0 : Int32))] [(.int ii)])) _
      refine XS.iloadN X0.here hx rfl (hb hby d19_22) rfl ?_
      exact ktg)
    by_cases c_22 : ii = qb
    · skip
      have pre_23 : Rch p.tables e below (s₁.setTop (entryFrame m #[(.int ii), (.int (3 : Int32)), (.int qa), (.int qb), (.int qc)] 6)) (s₁.setTop (mkF m 26 #[.val (.int ii), .val (.int (3 : Int32)), .val (.int qa), .val (.int qb), .val (.int qc), .val (.int (0 : Int32))] [])) := fun tgt ktg => pre_21 tgt (by
        show Steps p.tables e below (s₁.setTop (mkF m 23 #[.val (.int ii), .val (.int (3 : Int32)), .val (.int qa), .val (.int qb), .val (.int qc), .val (.int (0 : Int32))] [(.int qb), (.int ii)])) _
        refine XS.icmpNo X0.here hx rfl (hb hby d19_23) rfl (teq c_22).2 ?_
        exact ktg)
      have pre_24 : Rch p.tables e below (s₁.setTop (entryFrame m #[(.int ii), (.int (3 : Int32)), (.int qa), (.int qb), (.int qc)] 6)) (s₁.setTop (mkF m 37 #[.val (.int ii), .val (.int (3 : Int32)), .val (.int qa), .val (.int qb), .val (.int qc), .val (.int (1 : Int32))] [(.int qc), (.int ii)])) := fun tgt ktg => pre_23 tgt (by
        show Steps p.tables e below (s₁.setTop (mkF m 26 #[.val (.int ii), .val (.int (3 : Int32)), .val (.int qa), .val (.int qb), .val (.int qc), .val (.int (0 : Int32))] [])) _
        refine XS.iconst X0.here hx rfl (hb hby d19_26) ?_
        show Steps p.tables e below (s₁.setTop (mkF m 27 #[.val (.int ii), .val (.int (3 : Int32)), .val (.int qa), .val (.int qb), .val (.int qc), .val (.int (0 : Int32))] [(.int (1 : Int32))])) _
        refine XS.istore X0.here hx rfl (hb hby d19_27) rfl (l' := #[.val (.int ii), .val (.int (3 : Int32)), .val (.int qa), .val (.int qb), .val (.int qc), .val (.int (1 : Int32))]) rfl ?_
        show Steps p.tables e below (s₁.setTop (mkF m 29 #[.val (.int ii), .val (.int (3 : Int32)), .val (.int qa), .val (.int qb), .val (.int qc), .val (.int (1 : Int32))] [])) _
        refine XS.iloadN X0.here hx rfl (hb hby d19_29) rfl ?_
        show Steps p.tables e below (s₁.setTop (mkF m 30 #[.val (.int ii), .val (.int (3 : Int32)), .val (.int qa), .val (.int qb), .val (.int qc), .val (.int (1 : Int32))] [(.int (3 : Int32))])) _
        refine XS.iconst X0.here hx rfl (hb hby d19_30) ?_
        show Steps p.tables e below (s₁.setTop (mkF m 31 #[.val (.int ii), .val (.int (3 : Int32)), .val (.int qa), .val (.int qb), .val (.int qc), .val (.int (1 : Int32))] [(.int (3 : Int32)), (.int (3 : Int32))])) _
        refine XS.icmpNo X0.here hx rfl (hb hby d19_31) rfl (flt (by decide : ¬ ((3 : Int32) < (3 : Int32)))).1 ?_
        show Steps p.tables e below (s₁.setTop (mkF m 34 #[.val (.int ii), .val (.int (3 : Int32)), .val (.int qa), .val (.int qb), .val (.int qc), .val (.int (1 : Int32))] [])) _
        refine XS.iloadN X0.here hx rfl (hb hby d19_34) rfl ?_
        show Steps p.tables e below (s₁.setTop (mkF m 35 #[.val (.int ii), .val (.int (3 : Int32)), .val (.int qa), .val (.int qb), .val (.int qc), .val (.int (1 : Int32))] [(.int ii)])) _
        refine XS.iload X0.here hx rfl (hb hby d19_35) rfl ?_
        exact ktg)
      by_cases c_25 : ii = qc
      · skip
        have pre_26 : Rch p.tables e below (s₁.setTop (entryFrame m #[(.int ii), (.int (3 : Int32)), (.int qa), (.int qb), (.int qc)] 6)) (s₁.setTop (mkF m 40 #[.val (.int ii), .val (.int (3 : Int32)), .val (.int qa), .val (.int qb), .val (.int qc), .val (.int (1 : Int32))] [])) := fun tgt ktg => pre_24 tgt (by
          show Steps p.tables e below (s₁.setTop (mkF m 37 #[.val (.int ii), .val (.int (3 : Int32)), .val (.int qa), .val (.int qb), .val (.int qc), .val (.int (1 : Int32))] [(.int qc), (.int ii)])) _
          refine XS.icmpNo X0.here hx rfl (hb hby d19_37) rfl (teq c_25).2 ?_
          exact ktg)
        have pre_27 : Rch p.tables e below (s₁.setTop (entryFrame m #[(.int ii), (.int (3 : Int32)), (.int qa), (.int qb), (.int qc)] 6)) (s₁.setTop (mkF m 53 #[.val (.int ii), .val (.int (3 : Int32)), .val (.int qa), .val (.int qb), .val (.int qc), .val (.int (1 : Int32))] [(.int (0 : Int32))])) := fun tgt ktg => pre_26 tgt (by
          show Steps p.tables e below (s₁.setTop (mkF m 40 #[.val (.int ii), .val (.int (3 : Int32)), .val (.int qa), .val (.int qb), .val (.int qc), .val (.int (1 : Int32))] [])) _
          refine XS.iconst X0.here hx rfl (hb hby d19_40) ?_
          show Steps p.tables e below (s₁.setTop (mkF m 41 #[.val (.int ii), .val (.int (3 : Int32)), .val (.int qa), .val (.int qb), .val (.int qc), .val (.int (1 : Int32))] [(.int (1 : Int32))])) _
          refine XS.istore X0.here hx rfl (hb hby d19_41) rfl (l' := #[.val (.int ii), .val (.int (3 : Int32)), .val (.int qa), .val (.int qb), .val (.int qc), .val (.int (1 : Int32))]) rfl ?_
          show Steps p.tables e below (s₁.setTop (mkF m 43 #[.val (.int ii), .val (.int (3 : Int32)), .val (.int qa), .val (.int qb), .val (.int qc), .val (.int (1 : Int32))] [])) _
          refine XS.iload X0.here hx rfl (hb hby d19_43) rfl ?_
          show Steps p.tables e below (s₁.setTop (mkF m 45 #[.val (.int ii), .val (.int (3 : Int32)), .val (.int qa), .val (.int qb), .val (.int qc), .val (.int (1 : Int32))] [(.int (1 : Int32))])) _
          refine XS.ifYes X0.here hx rfl (pc0 := 45) (pc' := 52) rfl (hb hby d19_45) rfl ((if0 _ _).trans (feq (by decide : ¬ ((1 : Int32) = (0 : Int32)))).2) (by decide) (by decide) ?_
          show Steps p.tables e below (s₁.setTop (mkF m 52 #[.val (.int ii), .val (.int (3 : Int32)), .val (.int qa), .val (.int qb), .val (.int qc), .val (.int (1 : Int32))] [])) _
          refine XS.iconst X0.here hx rfl (hb hby d19_52) ?_
          exact ktg)
        obtain ⟨fs, hr, hrun, hended, hW, hsame⟩ := X0.leave (v := some (.int (0 : Int32))) (fun h => by rw [Bd.returns] at h; cases h)
        refine ⟨_, _, pre_27 _ ?_, hrun, hended, _, _, rfl, ?_, ⟨_, rfl⟩, hW, hsame.mono (by decide) (by decide)⟩
        · show Steps p.tables e below (s₁.setTop (mkF m 53 #[.val (.int ii), .val (.int (3 : Int32)), .val (.int qa), .val (.int qb), .val (.int qc), .val (.int (1 : Int32))] [(.int (0 : Int32))])) _
          exact retN X0 hx (t := .boolean) Bd.returns (by simp) (hb hby d19_53) hr
        · show Qex3 Z ii qa qb qc h0 n0 _ s₁.heap _
          rw [e0]
          exact ⟨by simp only [exl]; rw [if_neg c_2, if_pos c_22], N0, rfl⟩
      · skip
        have pre_28 : Rch p.tables e below (s₁.setTop (entryFrame m #[(.int ii), (.int (3 : Int32)), (.int qa), (.int qb), (.int qc)] 6)) (s₁.setTop (mkF m 43 #[.val (.int ii), .val (.int (3 : Int32)), .val (.int qa), .val (.int qb), .val (.int qc), .val (.int (1 : Int32))] [])) := fun tgt ktg => pre_24 tgt (by
          show Steps p.tables e below (s₁.setTop (mkF m 37 #[.val (.int ii), .val (.int (3 : Int32)), .val (.int qa), .val (.int qb), .val (.int qc), .val (.int (1 : Int32))] [(.int qc), (.int ii)])) _
          refine XS.icmpYes X0.here hx rfl (pc0 := 37) (pc' := 43) rfl (hb hby d19_37) rfl (feq c_25).2 (by decide) (by decide) ?_
          exact ktg)
        have pre_29 : Rch p.tables e below (s₁.setTop (entryFrame m #[(.int ii), (.int (3 : Int32)), (.int qa), (.int qb), (.int qc)] 6)) (s₁.setTop (mkF m 53 #[.val (.int ii), .val (.int (3 : Int32)), .val (.int qa), .val (.int qb), .val (.int qc), .val (.int (1 : Int32))] [(.int (0 : Int32))])) := fun tgt ktg => pre_28 tgt (by
          show Steps p.tables e below (s₁.setTop (mkF m 43 #[.val (.int ii), .val (.int (3 : Int32)), .val (.int qa), .val (.int qb), .val (.int qc), .val (.int (1 : Int32))] [])) _
          refine XS.iload X0.here hx rfl (hb hby d19_43) rfl ?_
          show Steps p.tables e below (s₁.setTop (mkF m 45 #[.val (.int ii), .val (.int (3 : Int32)), .val (.int qa), .val (.int qb), .val (.int qc), .val (.int (1 : Int32))] [(.int (1 : Int32))])) _
          refine XS.ifYes X0.here hx rfl (pc0 := 45) (pc' := 52) rfl (hb hby d19_45) rfl ((if0 _ _).trans (feq (by decide : ¬ ((1 : Int32) = (0 : Int32)))).2) (by decide) (by decide) ?_
          show Steps p.tables e below (s₁.setTop (mkF m 52 #[.val (.int ii), .val (.int (3 : Int32)), .val (.int qa), .val (.int qb), .val (.int qc), .val (.int (1 : Int32))] [])) _
          refine XS.iconst X0.here hx rfl (hb hby d19_52) ?_
          exact ktg)
        obtain ⟨fs, hr, hrun, hended, hW, hsame⟩ := X0.leave (v := some (.int (0 : Int32))) (fun h => by rw [Bd.returns] at h; cases h)
        refine ⟨_, _, pre_29 _ ?_, hrun, hended, _, _, rfl, ?_, ⟨_, rfl⟩, hW, hsame.mono (by decide) (by decide)⟩
        · show Steps p.tables e below (s₁.setTop (mkF m 53 #[.val (.int ii), .val (.int (3 : Int32)), .val (.int qa), .val (.int qb), .val (.int qc), .val (.int (1 : Int32))] [(.int (0 : Int32))])) _
          exact retN X0 hx (t := .boolean) Bd.returns (by simp) (hb hby d19_53) hr
        · show Qex3 Z ii qa qb qc h0 n0 _ s₁.heap _
          rw [e0]
          exact ⟨by simp only [exl]; rw [if_neg c_2, if_pos c_22], N0, rfl⟩
    · skip
      have pre_30 : Rch p.tables e below (s₁.setTop (entryFrame m #[(.int ii), (.int (3 : Int32)), (.int qa), (.int qb), (.int qc)] 6)) (s₁.setTop (mkF m 29 #[.val (.int ii), .val (.int (3 : Int32)), .val (.int qa), .val (.int qb), .val (.int qc), .val (.int (0 : Int32))] [])) := fun tgt ktg => pre_21 tgt (by
        show Steps p.tables e below (s₁.setTop (mkF m 23 #[.val (.int ii), .val (.int (3 : Int32)), .val (.int qa), .val (.int qb), .val (.int qc), .val (.int (0 : Int32))] [(.int qb), (.int ii)])) _
        refine XS.icmpYes X0.here hx rfl (pc0 := 23) (pc' := 29) rfl (hb hby d19_23) rfl (feq c_22).2 (by decide) (by decide) ?_
        exact ktg)
      have pre_31 : Rch p.tables e below (s₁.setTop (entryFrame m #[(.int ii), (.int (3 : Int32)), (.int qa), (.int qb), (.int qc)] 6)) (s₁.setTop (mkF m 37 #[.val (.int ii), .val (.int (3 : Int32)), .val (.int qa), .val (.int qb), .val (.int qc), .val (.int (0 : Int32))] [(.int qc), (.int ii)])) := fun tgt ktg => pre_30 tgt (by
        show Steps p.tables e below (s₁.setTop (mkF m 29 #[.val (.int ii), .val (.int (3 : Int32)), .val (.int qa), .val (.int qb), .val (.int qc), .val (.int (0 : Int32))] [])) _
        refine XS.iloadN X0.here hx rfl (hb hby d19_29) rfl ?_
        show Steps p.tables e below (s₁.setTop (mkF m 30 #[.val (.int ii), .val (.int (3 : Int32)), .val (.int qa), .val (.int qb), .val (.int qc), .val (.int (0 : Int32))] [(.int (3 : Int32))])) _
        refine XS.iconst X0.here hx rfl (hb hby d19_30) ?_
        show Steps p.tables e below (s₁.setTop (mkF m 31 #[.val (.int ii), .val (.int (3 : Int32)), .val (.int qa), .val (.int qb), .val (.int qc), .val (.int (0 : Int32))] [(.int (3 : Int32)), (.int (3 : Int32))])) _
        refine XS.icmpNo X0.here hx rfl (hb hby d19_31) rfl (flt (by decide : ¬ ((3 : Int32) < (3 : Int32)))).1 ?_
        show Steps p.tables e below (s₁.setTop (mkF m 34 #[.val (.int ii), .val (.int (3 : Int32)), .val (.int qa), .val (.int qb), .val (.int qc), .val (.int (0 : Int32))] [])) _
        refine XS.iloadN X0.here hx rfl (hb hby d19_34) rfl ?_
        show Steps p.tables e below (s₁.setTop (mkF m 35 #[.val (.int ii), .val (.int (3 : Int32)), .val (.int qa), .val (.int qb), .val (.int qc), .val (.int (0 : Int32))] [(.int ii)])) _
        refine XS.iload X0.here hx rfl (hb hby d19_35) rfl ?_
        exact ktg)
      by_cases c_32 : ii = qc
      · skip
        have pre_33 : Rch p.tables e below (s₁.setTop (entryFrame m #[(.int ii), (.int (3 : Int32)), (.int qa), (.int qb), (.int qc)] 6)) (s₁.setTop (mkF m 40 #[.val (.int ii), .val (.int (3 : Int32)), .val (.int qa), .val (.int qb), .val (.int qc), .val (.int (0 : Int32))] [])) := fun tgt ktg => pre_31 tgt (by
          show Steps p.tables e below (s₁.setTop (mkF m 37 #[.val (.int ii), .val (.int (3 : Int32)), .val (.int qa), .val (.int qb), .val (.int qc), .val (.int (0 : Int32))] [(.int qc), (.int ii)])) _
          refine XS.icmpNo X0.here hx rfl (hb hby d19_37) rfl (teq c_32).2 ?_
          exact ktg)
        have pre_34 : Rch p.tables e below (s₁.setTop (entryFrame m #[(.int ii), (.int (3 : Int32)), (.int qa), (.int qb), (.int qc)] 6)) (s₁.setTop (mkF m 53 #[.val (.int ii), .val (.int (3 : Int32)), .val (.int qa), .val (.int qb), .val (.int qc), .val (.int (1 : Int32))] [(.int (0 : Int32))])) := fun tgt ktg => pre_33 tgt (by
          show Steps p.tables e below (s₁.setTop (mkF m 40 #[.val (.int ii), .val (.int (3 : Int32)), .val (.int qa), .val (.int qb), .val (.int qc), .val (.int (0 : Int32))] [])) _
          refine XS.iconst X0.here hx rfl (hb hby d19_40) ?_
          show Steps p.tables e below (s₁.setTop (mkF m 41 #[.val (.int ii), .val (.int (3 : Int32)), .val (.int qa), .val (.int qb), .val (.int qc), .val (.int (0 : Int32))] [(.int (1 : Int32))])) _
          refine XS.istore X0.here hx rfl (hb hby d19_41) rfl (l' := #[.val (.int ii), .val (.int (3 : Int32)), .val (.int qa), .val (.int qb), .val (.int qc), .val (.int (1 : Int32))]) rfl ?_
          show Steps p.tables e below (s₁.setTop (mkF m 43 #[.val (.int ii), .val (.int (3 : Int32)), .val (.int qa), .val (.int qb), .val (.int qc), .val (.int (1 : Int32))] [])) _
          refine XS.iload X0.here hx rfl (hb hby d19_43) rfl ?_
          show Steps p.tables e below (s₁.setTop (mkF m 45 #[.val (.int ii), .val (.int (3 : Int32)), .val (.int qa), .val (.int qb), .val (.int qc), .val (.int (1 : Int32))] [(.int (1 : Int32))])) _
          refine XS.ifYes X0.here hx rfl (pc0 := 45) (pc' := 52) rfl (hb hby d19_45) rfl ((if0 _ _).trans (feq (by decide : ¬ ((1 : Int32) = (0 : Int32)))).2) (by decide) (by decide) ?_
          show Steps p.tables e below (s₁.setTop (mkF m 52 #[.val (.int ii), .val (.int (3 : Int32)), .val (.int qa), .val (.int qb), .val (.int qc), .val (.int (1 : Int32))] [])) _
          refine XS.iconst X0.here hx rfl (hb hby d19_52) ?_
          exact ktg)
        obtain ⟨fs, hr, hrun, hended, hW, hsame⟩ := X0.leave (v := some (.int (0 : Int32))) (fun h => by rw [Bd.returns] at h; cases h)
        refine ⟨_, _, pre_34 _ ?_, hrun, hended, _, _, rfl, ?_, ⟨_, rfl⟩, hW, hsame.mono (by decide) (by decide)⟩
        · show Steps p.tables e below (s₁.setTop (mkF m 53 #[.val (.int ii), .val (.int (3 : Int32)), .val (.int qa), .val (.int qb), .val (.int qc), .val (.int (1 : Int32))] [(.int (0 : Int32))])) _
          exact retN X0 hx (t := .boolean) Bd.returns (by simp) (hb hby d19_53) hr
        · show Qex3 Z ii qa qb qc h0 n0 _ s₁.heap _
          rw [e0]
          exact ⟨by simp only [exl]; rw [if_neg c_2, if_neg c_22, if_pos c_32], N0, rfl⟩
      · skip
        have pre_35 : Rch p.tables e below (s₁.setTop (entryFrame m #[(.int ii), (.int (3 : Int32)), (.int qa), (.int qb), (.int qc)] 6)) (s₁.setTop (mkF m 43 #[.val (.int ii), .val (.int (3 : Int32)), .val (.int qa), .val (.int qb), .val (.int qc), .val (.int (0 : Int32))] [])) := fun tgt ktg => pre_31 tgt (by
          show Steps p.tables e below (s₁.setTop (mkF m 37 #[.val (.int ii), .val (.int (3 : Int32)), .val (.int qa), .val (.int qb), .val (.int qc), .val (.int (0 : Int32))] [(.int qc), (.int ii)])) _
          refine XS.icmpYes X0.here hx rfl (pc0 := 37) (pc' := 43) rfl (hb hby d19_37) rfl (feq c_32).2 (by decide) (by decide) ?_
          exact ktg)
        have pre_36 : Rch p.tables e below (s₁.setTop (entryFrame m #[(.int ii), (.int (3 : Int32)), (.int qa), (.int qb), (.int qc)] 6)) (s₁.setTop (mkF m 53 #[.val (.int ii), .val (.int (3 : Int32)), .val (.int qa), .val (.int qb), .val (.int qc), .val (.int (0 : Int32))] [(.int (1 : Int32))])) := fun tgt ktg => pre_35 tgt (by
          show Steps p.tables e below (s₁.setTop (mkF m 43 #[.val (.int ii), .val (.int (3 : Int32)), .val (.int qa), .val (.int qb), .val (.int qc), .val (.int (0 : Int32))] [])) _
          refine XS.iload X0.here hx rfl (hb hby d19_43) rfl ?_
          show Steps p.tables e below (s₁.setTop (mkF m 45 #[.val (.int ii), .val (.int (3 : Int32)), .val (.int qa), .val (.int qb), .val (.int qc), .val (.int (0 : Int32))] [(.int (0 : Int32))])) _
          refine XS.ifNo X0.here hx rfl (hb hby d19_45) rfl ((if0 _ _).trans (teq (rfl : (0 : Int32) = (0 : Int32))).2) ?_
          show Steps p.tables e below (s₁.setTop (mkF m 48 #[.val (.int ii), .val (.int (3 : Int32)), .val (.int qa), .val (.int qb), .val (.int qc), .val (.int (0 : Int32))] [])) _
          refine XS.iconst X0.here hx rfl (hb hby d19_48) ?_
          show Steps p.tables e below (s₁.setTop (mkF m 49 #[.val (.int ii), .val (.int (3 : Int32)), .val (.int qa), .val (.int qb), .val (.int qc), .val (.int (0 : Int32))] [(.int (1 : Int32))])) _
          refine XS.goto X0.here hx rfl (pc0 := 49) (pc' := 53) rfl (hb hby d19_49) (by decide) (by decide) ?_
          exact ktg)
        obtain ⟨fs, hr, hrun, hended, hW, hsame⟩ := X0.leave (v := some (.int (1 : Int32))) (fun h => by rw [Bd.returns] at h; cases h)
        refine ⟨_, _, pre_36 _ ?_, hrun, hended, _, _, rfl, ?_, ⟨_, rfl⟩, hW, hsame.mono (by decide) (by decide)⟩
        · show Steps p.tables e below (s₁.setTop (mkF m 53 #[.val (.int ii), .val (.int (3 : Int32)), .val (.int qa), .val (.int qb), .val (.int qc), .val (.int (0 : Int32))] [(.int (1 : Int32))])) _
          exact retN X0 hx (t := .boolean) Bd.returns (by simp) (hb hby d19_53) hr
        · show Qex3 Z ii qa qb qc h0 n0 _ s₁.heap _
          rw [e0]
          exact ⟨by simp only [exl]; rw [if_neg c_2, if_neg c_22, if_neg c_32], N0, rfl⟩
theorem pd_12 : parseMethodDescriptor "(ICCC)Ljava/lang/String;" = some ⟨[.int, .char, .char, .char], some (.object "java/lang/String")⟩ := by decide +kernel
theorem pd_13 : parseMethodDescriptor "(Ljava/lang/String;)[Z" = some ⟨[(.object "java/lang/String")], some (.array .boolean)⟩ := by decide +kernel
theorem pd_14 : parseMethodDescriptor "(IICCC)Z" = some ⟨[.int, .int, .char, .char, .char], some .boolean⟩ := by decide +kernel
theorem ef_0 (m : MethodId) (x0 : Int32) (x1 : Int32) (x2 : Int32) (x3 : Int32) (x4 : Int32) (x5 : Int32) : entryFrame m #[(.int x0), (.int x1), (.int x2), (.int x3), (.int x4), (.int x5)] maxLocals = mkF m 0 #[.val (.int x0), .val (.int x1), .val (.int x2), .val (.int x3), .val (.int x4), .val (.int x5), .unset, .unset, .unset, .unset, .unset, .unset, .unset, .unset] [] := by first | (simp [entryFrame, mkF, argsToLocals, Value.category, maxLocals]; done) | rfl
def Q0 (Z : State) (p0 : Int32) (p1 : Int32) (p2 : Int32) (p3 : Int32) (p4 : Int32) (p5 : Int32) (h0 : Heap) (n0 : Nat) (v : Option Value) (h : Heap) (L : List Loc) : Prop := v = some (.int 1) ∧ Fr n0 L
set_option maxRecDepth 65536 in
set_option maxHeartbeats 40000000 in
theorem rm0 (l : Launch) (Z : State) (a0 : Array Value) (hw : ∀ d ∈ tables_1, d.before a0 Z = true) (ws : List Jvm.Cond) (p0 : Int32) (p1 : Int32) (p2 : Int32) (p3 : Int32) (p4 : Int32) (p5 : Int32) (h0 : Heap) (n0 : Nat) (Z0 : n0 ≤ h0.size) (cs : Int32) (hcs : ¬ cs = 0) (S1 : Sta Z h0 "java/lang/String" "COMPACT_STRINGS" "Z" (.int cs)) :
    MetFree l x (head1 (Jvm.Cond.code x code maxLocals ret :: ws) room_1) (fun aA U => aA = #[(.int p0), (.int p1), (.int p2), (.int p3), (.int p4), (.int p5)] ∧ Z.Warmed39 U.vm ∧ U.heap = h0 ∧ CHv Z consts_1 U.vm h0) (fun _ _ _ _ _ => True) (fun _ U oO U' => ∃ vV LL, oO = .returned vV ∧ Q0 Z p0 p1 p2 p3 p4 p5 h0 n0 vV U'.heap LL ∧ CHr Z consts_1 U.vm U.heap U'.vm U'.heap ∧ ReturnedEndW U oO U' LL room_1.cells room_1.slots) := by
  refine MetFree.of_bodySF (plainFor_of_name pn_4) hisR ?_
  intro p e s m args below meth c s₁ Bd hml0 hP hK
  obtain ⟨rfl, hZ, hh, hC⟩ := hP
  have hx := Bd.exec
  have hby := Bd.bytes
  have hml : c.maxLocals = 14 := hml0
  have hown : s.vm.findClass "com/example/termwell/termwell/tables/XmlTextPlainAsciiPinLaw" = some m.cls := findClass_of_methodNamed Bd.named
  have hnm := (name_of_methodNamed Bd.named Bd.method).1
  have X0 : Stand p l e room_1 (s.setVm s.vm) m #[(.int p0), (.int p1), (.int p2), (.int p3), (.int p4), (.int p5)] below meth c s₁ [] 0 0 := Stand.of_body Bd
  have e0 : s₁.heap = h0 := by rw [← hh, Bd.state]; rfl
  have N0 := Fr.nil n0
  have K0 : Keep h0 h0 [] := Keep.refl _ _
  have hS0 : s.Since s.vm 0 := (State.WarmedH.refl s).since _
  have hk0 : 0 ≤ h0.size := Nat.zero_le _
  have C0 : CHr Z consts_1 s.vm h0 s.vm h0 := CHr.refl hC
  have hEL := own_EW hw
  have wS := own_wS hw
  have pre0 : Rch p.tables e below (s₁.setTop (entryFrame m #[(.int p0), (.int p1), (.int p2), (.int p3), (.int p4), (.int p5)] maxLocals)) (s₁.setTop (mkF m 0 #[.val (.int p0), .val (.int p1), .val (.int p2), .val (.int p3), .val (.int p4), .val (.int p5), .unset, .unset, .unset, .unset, .unset, .unset, .unset, .unset] [])) := fun tgt ktg => castTop (ef_0 m p0 p1 p2 p3 p4 p5) ktg
  have pre_1 : Rch p.tables e below (s₁.setTop (entryFrame m #[(.int p0), (.int p1), (.int p2), (.int p3), (.int p4), (.int p5)] maxLocals)) (s₁.setTop (mkF m 6 #[.val (.int p0), .val (.int p1), .val (.int p2), .val (.int p3), .val (.int p4), .val (.int p5), .unset, .unset, .unset, .unset, .unset, .unset, .unset, .unset] [(.int ((p0 &&& (255 : Int32)).toUInt32.toUInt16.toUInt32.toInt32))])) := fun tgt ktg => pre0 tgt (by
    show Steps p.tables e below (s₁.setTop (mkF m 0 #[.val (.int p0), .val (.int p1), .val (.int p2), .val (.int p3), .val (.int p4), .val (.int p5), .unset, .unset, .unset, .unset, .unset, .unset, .unset, .unset] [])) _
    refine XS.iloadN X0.here hx rfl (hb hby at_0) rfl ?_
    show Steps p.tables e below (s₁.setTop (mkF m 1 #[.val (.int p0), .val (.int p1), .val (.int p2), .val (.int p3), .val (.int p4), .val (.int p5), .unset, .unset, .unset, .unset, .unset, .unset, .unset, .unset] [(.int p0)])) _
    refine XS.sipush X0.here hx rfl (hb hby at_1) ?_
    show Steps p.tables e below (s₁.setTop (mkF m 4 #[.val (.int p0), .val (.int p1), .val (.int p2), .val (.int p3), .val (.int p4), .val (.int p5), .unset, .unset, .unset, .unset, .unset, .unset, .unset, .unset] [(.int (255 : Int32)), (.int p0)])) _
    refine XS.iand X0.here hx rfl (hb hby at_4) rfl ?_
    show Steps p.tables e below (s₁.setTop (mkF m 5 #[.val (.int p0), .val (.int p1), .val (.int p2), .val (.int p3), .val (.int p4), .val (.int p5), .unset, .unset, .unset, .unset, .unset, .unset, .unset, .unset] [(.int (p0 &&& (255 : Int32)))])) _
    refine XT.i2c X0.here hx rfl (hb hby at_5) rfl ?_
    exact ktg)
  obtain ⟨qa, hv_qa⟩ : ∃ nm_ : Int32, nm_ = ((p0 &&& (255 : Int32)).toUInt32.toUInt16.toUInt32.toInt32) := ⟨_, rfl⟩
  have pre_2 : Rch p.tables e below (s₁.setTop (entryFrame m #[(.int p0), (.int p1), (.int p2), (.int p3), (.int p4), (.int p5)] maxLocals)) (s₁.setTop (mkF m 6 #[.val (.int p0), .val (.int p1), .val (.int p2), .val (.int p3), .val (.int p4), .val (.int p5), .unset, .unset, .unset, .unset, .unset, .unset, .unset, .unset] [(.int qa)])) := fun tgt ktg => pre_1 tgt (by rw [hv_qa] at ktg; exact ktg)
  obtain ⟨hqa0, hqa⟩ := own_byte hv_qa
  have pre_3 : Rch p.tables e below (s₁.setTop (entryFrame m #[(.int p0), (.int p1), (.int p2), (.int p3), (.int p4), (.int p5)] maxLocals)) (s₁.setTop (mkF m 14 #[.val (.int p0), .val (.int p1), .val (.int p2), .val (.int p3), .val (.int p4), .val (.int p5), .val (.int qa), .unset, .unset, .unset, .unset, .unset, .unset, .unset] [(.int ((p1 &&& (255 : Int32)).toUInt32.toUInt16.toUInt32.toInt32))])) := fun tgt ktg => pre_2 tgt (by
    show Steps p.tables e below (s₁.setTop (mkF m 6 #[.val (.int p0), .val (.int p1), .val (.int p2), .val (.int p3), .val (.int p4), .val (.int p5), .unset, .unset, .unset, .unset, .unset, .unset, .unset, .unset] [(.int qa)])) _
    refine XS.istore X0.here hx rfl (hb hby at_6) rfl (l' := #[.val (.int p0), .val (.int p1), .val (.int p2), .val (.int p3), .val (.int p4), .val (.int p5), .val (.int qa), .unset, .unset, .unset, .unset, .unset, .unset, .unset]) rfl ?_
    show Steps p.tables e below (s₁.setTop (mkF m 8 #[.val (.int p0), .val (.int p1), .val (.int p2), .val (.int p3), .val (.int p4), .val (.int p5), .val (.int qa), .unset, .unset, .unset, .unset, .unset, .unset, .unset] [])) _
    refine XS.iloadN X0.here hx rfl (hb hby at_8) rfl ?_
    show Steps p.tables e below (s₁.setTop (mkF m 9 #[.val (.int p0), .val (.int p1), .val (.int p2), .val (.int p3), .val (.int p4), .val (.int p5), .val (.int qa), .unset, .unset, .unset, .unset, .unset, .unset, .unset] [(.int p1)])) _
    refine XS.sipush X0.here hx rfl (hb hby at_9) ?_
    show Steps p.tables e below (s₁.setTop (mkF m 12 #[.val (.int p0), .val (.int p1), .val (.int p2), .val (.int p3), .val (.int p4), .val (.int p5), .val (.int qa), .unset, .unset, .unset, .unset, .unset, .unset, .unset] [(.int (255 : Int32)), (.int p1)])) _
    refine XS.iand X0.here hx rfl (hb hby at_12) rfl ?_
    show Steps p.tables e below (s₁.setTop (mkF m 13 #[.val (.int p0), .val (.int p1), .val (.int p2), .val (.int p3), .val (.int p4), .val (.int p5), .val (.int qa), .unset, .unset, .unset, .unset, .unset, .unset, .unset] [(.int (p1 &&& (255 : Int32)))])) _
    refine XT.i2c X0.here hx rfl (hb hby at_13) rfl ?_
    exact ktg)
  obtain ⟨qb, hv_qb⟩ : ∃ nm_ : Int32, nm_ = ((p1 &&& (255 : Int32)).toUInt32.toUInt16.toUInt32.toInt32) := ⟨_, rfl⟩
  have pre_4 : Rch p.tables e below (s₁.setTop (entryFrame m #[(.int p0), (.int p1), (.int p2), (.int p3), (.int p4), (.int p5)] maxLocals)) (s₁.setTop (mkF m 14 #[.val (.int p0), .val (.int p1), .val (.int p2), .val (.int p3), .val (.int p4), .val (.int p5), .val (.int qa), .unset, .unset, .unset, .unset, .unset, .unset, .unset] [(.int qb)])) := fun tgt ktg => pre_3 tgt (by rw [hv_qb] at ktg; exact ktg)
  obtain ⟨hqb0, hqb⟩ := own_byte hv_qb
  have pre_5 : Rch p.tables e below (s₁.setTop (entryFrame m #[(.int p0), (.int p1), (.int p2), (.int p3), (.int p4), (.int p5)] maxLocals)) (s₁.setTop (mkF m 22 #[.val (.int p0), .val (.int p1), .val (.int p2), .val (.int p3), .val (.int p4), .val (.int p5), .val (.int qa), .val (.int qb), .unset, .unset, .unset, .unset, .unset, .unset] [(.int ((p2 &&& (255 : Int32)).toUInt32.toUInt16.toUInt32.toInt32))])) := fun tgt ktg => pre_4 tgt (by
    show Steps p.tables e below (s₁.setTop (mkF m 14 #[.val (.int p0), .val (.int p1), .val (.int p2), .val (.int p3), .val (.int p4), .val (.int p5), .val (.int qa), .unset, .unset, .unset, .unset, .unset, .unset, .unset] [(.int qb)])) _
    refine XS.istore X0.here hx rfl (hb hby at_14) rfl (l' := #[.val (.int p0), .val (.int p1), .val (.int p2), .val (.int p3), .val (.int p4), .val (.int p5), .val (.int qa), .val (.int qb), .unset, .unset, .unset, .unset, .unset, .unset]) rfl ?_
    show Steps p.tables e below (s₁.setTop (mkF m 16 #[.val (.int p0), .val (.int p1), .val (.int p2), .val (.int p3), .val (.int p4), .val (.int p5), .val (.int qa), .val (.int qb), .unset, .unset, .unset, .unset, .unset, .unset] [])) _
    refine XS.iloadN X0.here hx rfl (hb hby at_16) rfl ?_
    show Steps p.tables e below (s₁.setTop (mkF m 17 #[.val (.int p0), .val (.int p1), .val (.int p2), .val (.int p3), .val (.int p4), .val (.int p5), .val (.int qa), .val (.int qb), .unset, .unset, .unset, .unset, .unset, .unset] [(.int p2)])) _
    refine XS.sipush X0.here hx rfl (hb hby at_17) ?_
    show Steps p.tables e below (s₁.setTop (mkF m 20 #[.val (.int p0), .val (.int p1), .val (.int p2), .val (.int p3), .val (.int p4), .val (.int p5), .val (.int qa), .val (.int qb), .unset, .unset, .unset, .unset, .unset, .unset] [(.int (255 : Int32)), (.int p2)])) _
    refine XS.iand X0.here hx rfl (hb hby at_20) rfl ?_
    show Steps p.tables e below (s₁.setTop (mkF m 21 #[.val (.int p0), .val (.int p1), .val (.int p2), .val (.int p3), .val (.int p4), .val (.int p5), .val (.int qa), .val (.int qb), .unset, .unset, .unset, .unset, .unset, .unset] [(.int (p2 &&& (255 : Int32)))])) _
    refine XT.i2c X0.here hx rfl (hb hby at_21) rfl ?_
    exact ktg)
  obtain ⟨qc, hv_qc⟩ : ∃ nm_ : Int32, nm_ = ((p2 &&& (255 : Int32)).toUInt32.toUInt16.toUInt32.toInt32) := ⟨_, rfl⟩
  have pre_6 : Rch p.tables e below (s₁.setTop (entryFrame m #[(.int p0), (.int p1), (.int p2), (.int p3), (.int p4), (.int p5)] maxLocals)) (s₁.setTop (mkF m 22 #[.val (.int p0), .val (.int p1), .val (.int p2), .val (.int p3), .val (.int p4), .val (.int p5), .val (.int qa), .val (.int qb), .unset, .unset, .unset, .unset, .unset, .unset] [(.int qc)])) := fun tgt ktg => pre_5 tgt (by rw [hv_qc] at ktg; exact ktg)
  obtain ⟨hqc0, hqc⟩ := own_byte hv_qc
  have pre_7 : Rch p.tables e below (s₁.setTop (entryFrame m #[(.int p0), (.int p1), (.int p2), (.int p3), (.int p4), (.int p5)] maxLocals)) (s₁.setTop (mkF m 27 #[.val (.int p0), .val (.int p1), .val (.int p2), .val (.int p3), .val (.int p4), .val (.int p5), .val (.int qa), .val (.int qb), .val (.int qc), .unset, .unset, .unset, .unset, .unset] [(.int (p3 &&& (3 : Int32)))])) := fun tgt ktg => pre_6 tgt (by
    show Steps p.tables e below (s₁.setTop (mkF m 22 #[.val (.int p0), .val (.int p1), .val (.int p2), .val (.int p3), .val (.int p4), .val (.int p5), .val (.int qa), .val (.int qb), .unset, .unset, .unset, .unset, .unset, .unset] [(.int qc)])) _
    refine XS.istore X0.here hx rfl (hb hby at_22) rfl (l' := #[.val (.int p0), .val (.int p1), .val (.int p2), .val (.int p3), .val (.int p4), .val (.int p5), .val (.int qa), .val (.int qb), .val (.int qc), .unset, .unset, .unset, .unset, .unset]) rfl ?_
    show Steps p.tables e below (s₁.setTop (mkF m 24 #[.val (.int p0), .val (.int p1), .val (.int p2), .val (.int p3), .val (.int p4), .val (.int p5), .val (.int qa), .val (.int qb), .val (.int qc), .unset, .unset, .unset, .unset, .unset] [])) _
    refine XS.iloadN X0.here hx rfl (hb hby at_24) rfl ?_
    show Steps p.tables e below (s₁.setTop (mkF m 25 #[.val (.int p0), .val (.int p1), .val (.int p2), .val (.int p3), .val (.int p4), .val (.int p5), .val (.int qa), .val (.int qb), .val (.int qc), .unset, .unset, .unset, .unset, .unset] [(.int p3)])) _
    refine XS.iconst X0.here hx rfl (hb hby at_25) ?_
    show Steps p.tables e below (s₁.setTop (mkF m 26 #[.val (.int p0), .val (.int p1), .val (.int p2), .val (.int p3), .val (.int p4), .val (.int p5), .val (.int qa), .val (.int qb), .val (.int qc), .unset, .unset, .unset, .unset, .unset] [(.int (3 : Int32)), (.int p3)])) _
    refine XS.iand X0.here hx rfl (hb hby at_26) rfl ?_
    exact ktg)
  obtain ⟨nn, hv_nn⟩ : ∃ nm_ : Int32, nm_ = (p3 &&& (3 : Int32)) := ⟨_, rfl⟩
  have pre_8 : Rch p.tables e below (s₁.setTop (entryFrame m #[(.int p0), (.int p1), (.int p2), (.int p3), (.int p4), (.int p5)] maxLocals)) (s₁.setTop (mkF m 27 #[.val (.int p0), .val (.int p1), .val (.int p2), .val (.int p3), .val (.int p4), .val (.int p5), .val (.int qa), .val (.int qb), .val (.int qc), .unset, .unset, .unset, .unset, .unset] [(.int nn)])) := fun tgt ktg => pre_7 tgt (by rw [hv_nn] at ktg; exact ktg)
  rcases own_n3 hv_nn with r0 | r1 | r2 | r3
  · skip
    subst r0
    have pre_9 : Rch p.tables e below (s₁.setTop (entryFrame m #[(.int p0), (.int p1), (.int p2), (.int p3), (.int p4), (.int p5)] maxLocals)) (s₁.setTop (mkF m 37 #[.val (.int p0), .val (.int p1), .val (.int p2), .val (.int p3), .val (.int p4), .val (.int p5), .val (.int qa), .val (.int qb), .val (.int qc), .val (.int (0 : Int32)), .unset, .unset, .unset, .unset] [(.int qc), (.int qb), (.int qa), (.int (0 : Int32))])) := fun tgt ktg => pre_8 tgt (by
      show Steps p.tables e below (s₁.setTop (mkF m 27 #[.val (.int p0), .val (.int p1), .val (.int p2), .val (.int p3), .val (.int p4), .val (.int p5), .val (.int qa), .val (.int qb), .val (.int qc), .unset, .unset, .unset, .unset, .unset] [(.int (0 : Int32))])) _
      refine XS.istore X0.here hx rfl (hb hby at_27) rfl (l' := #[.val (.int p0), .val (.int p1), .val (.int p2), .val (.int p3), .val (.int p4), .val (.int p5), .val (.int qa), .val (.int qb), .val (.int qc), .val (.int (0 : Int32)), .unset, .unset, .unset, .unset]) rfl ?_
      show Steps p.tables e below (s₁.setTop (mkF m 29 #[.val (.int p0), .val (.int p1), .val (.int p2), .val (.int p3), .val (.int p4), .val (.int p5), .val (.int qa), .val (.int qb), .val (.int qc), .val (.int (0 : Int32)), .unset, .unset, .unset, .unset] [])) _
      refine XS.iload X0.here hx rfl (hb hby at_29) rfl ?_
      show Steps p.tables e below (s₁.setTop (mkF m 31 #[.val (.int p0), .val (.int p1), .val (.int p2), .val (.int p3), .val (.int p4), .val (.int p5), .val (.int qa), .val (.int qb), .val (.int qc), .val (.int (0 : Int32)), .unset, .unset, .unset, .unset] [(.int (0 : Int32))])) _
      refine XS.iload X0.here hx rfl (hb hby at_31) rfl ?_
      show Steps p.tables e below (s₁.setTop (mkF m 33 #[.val (.int p0), .val (.int p1), .val (.int p2), .val (.int p3), .val (.int p4), .val (.int p5), .val (.int qa), .val (.int qb), .val (.int qc), .val (.int (0 : Int32)), .unset, .unset, .unset, .unset] [(.int qa), (.int (0 : Int32))])) _
      refine XS.iload X0.here hx rfl (hb hby at_33) rfl ?_
      show Steps p.tables e below (s₁.setTop (mkF m 35 #[.val (.int p0), .val (.int p1), .val (.int p2), .val (.int p3), .val (.int p4), .val (.int p5), .val (.int qa), .val (.int qb), .val (.int qc), .val (.int (0 : Int32)), .unset, .unset, .unset, .unset] [(.int qb), (.int qa), (.int (0 : Int32))])) _
      refine XS.iload X0.here hx rfl (hb hby at_35) rfl ?_
      exact ktg)
    obtain ⟨_, _, ⟨T_10, L_10, k_10, n_10⟩, -, X_10, hSn_10, hgr_10, ⟨Lc_10, hQ_10, l_10, y_10, z_10, hCn_10⟩, st_10⟩ := callSS X0 hx (y := (⟨"com/example/termwell/termwell/tables/XmlTextPlainAsciiPinLaw", "make", "(ICCC)Ljava/lang/String;"⟩ : MethodName)) hown (mvT hZ (hw _ (List.mem_of_getElem? (i := 0) rfl))) (mvT hZ (hw _ (List.mem_of_getElem? (i := 1) rfl))) (mvT hZ (hw _ (List.mem_of_getElem? (i := 2) rfl))) (mvT hZ (hw _ (List.mem_of_getElem? (i := 3) rfl))) (by decide) (backOfSH (W := 0) (rmmk0 l Z a0 hw [] qa qb qc h0 n0 Z0) hZ (hw _ (List.mem_of_getElem? (i := 3) rfl)) (hw _ (List.mem_of_getElem? (i := 2) rfl)) (by decide) (by decide) hEL C0.1) (g := (mkF m 37 #[.val (.int p0), .val (.int p1), .val (.int p2), .val (.int p3), .val (.int p4), .val (.int p5), .val (.int qa), .val (.int qb), .val (.int qc), .val (.int (0 : Int32)), .unset, .unset, .unset, .unset] [(.int qc), (.int qb), (.int qa), (.int (0 : Int32))])) rfl (by rw [hml]; rfl) (argsL := [(.int (0 : Int32)), (.int qa), (.int qb), (.int qc)]) (rest := []) (lenOf pd_12 rfl) rfl (by show 2 * 0 + _ ≤ _; exact Nat.le_of_eq rfl) (hb hby at_37) (fun _ _ => ⟨rfl, e0, (by decide : 0 + 6 ≤ _), (by decide : 0 + 12 ≤ _)⟩)
    dsimp only [Pt.U, Pt.locs, Pt.cells, Pt.slots] at X_10 l_10 y_10 z_10 st_10 hQ_10 hSn_10 hgr_10 hCn_10
    subst l_10 y_10 z_10
    obtain ⟨a, b, kb, rfl, Nq_10, Kq_10, b1, b2, b3, b4⟩ := hQ_10
    have N_11 := Fr.app N0 Nq_10
    have pre_10 : Rch p.tables e below (s₁.setTop (entryFrame m #[(.int p0), (.int p1), (.int p2), (.int p3), (.int p4), (.int p5)] maxLocals)) (T_10.setTop (mkF m 40 #[.val (.int p0), .val (.int p1), .val (.int p2), .val (.int p3), .val (.int p4), .val (.int p5), .val (.int qa), .val (.int qb), .val (.int qc), .val (.int (0 : Int32)), .unset, .unset, .unset, .unset] [(.ref a)])) := fun tgt ktg => pre_9 tgt (st_10.trans ktg)
    have hS_10 : s.Since T_10.vm T_10.heap.size := hS0.trans hSn_10 (Nat.le_trans hk0 (by rw [← e0]; exact hgr_10))
    have hk_10 := Nat.le_refl T_10.heap.size
    have hZn_10 : Z.Warmed39 T_10.vm := State.Warmed39.trans (t := s.setVm s.vm) hZ hSn_10.1
    have hownn_10 : T_10.vm.findClass "com/example/termwell/termwell/tables/XmlTextPlainAsciiPinLaw" = some m.cls := by rw [hSn_10.1.alike.findClass]; exact hown
    have hZ := hZn_10
    have hown := hownn_10
    have C_12 : CHr Z consts_1 s.vm h0 T_10.vm T_10.heap := C0.trans hCn_10
    have f_13 : Sta Z T_10.heap "java/lang/String" "COMPACT_STRINGS" "Z" (.int cs) := own_sta_keep S1 Kq_10 ns0
    have z_14 : n0 ≤ T_10.heap.size := Nat.le_trans Z0 Kq_10.1
    have pre_15 : Rch p.tables e below (s₁.setTop (entryFrame m #[(.int p0), (.int p1), (.int p2), (.int p3), (.int p4), (.int p5)] maxLocals)) (T_10.setTop (mkF m 44 #[.val (.int p0), .val (.int p1), .val (.int p2), .val (.int p3), .val (.int p4), .val (.int p5), .val (.int qa), .val (.int qb), .val (.int qc), .val (.int (0 : Int32)), .val (.ref a), .unset, .unset, .unset] [(.ref a)])) := fun tgt ktg => pre_10 tgt (by
      show Steps p.tables e below (T_10.setTop (mkF m 40 #[.val (.int p0), .val (.int p1), .val (.int p2), .val (.int p3), .val (.int p4), .val (.int p5), .val (.int qa), .val (.int qb), .val (.int qc), .val (.int (0 : Int32)), .unset, .unset, .unset, .unset] [(.ref a)])) _
      refine XS.astore X_10.here hx rfl (hb hby at_40) rfl rfl (l' := #[.val (.int p0), .val (.int p1), .val (.int p2), .val (.int p3), .val (.int p4), .val (.int p5), .val (.int qa), .val (.int qb), .val (.int qc), .val (.int (0 : Int32)), .val (.ref a), .unset, .unset, .unset]) rfl ?_
      show Steps p.tables e below (T_10.setTop (mkF m 42 #[.val (.int p0), .val (.int p1), .val (.int p2), .val (.int p3), .val (.int p4), .val (.int p5), .val (.int qa), .val (.int qb), .val (.int qc), .val (.int (0 : Int32)), .val (.ref a), .unset, .unset, .unset] [])) _
      refine XS.aload X_10.here hx rfl (hb hby at_42) rfl rfl ?_
      exact ktg)
    obtain ⟨_, _, ⟨T_16, L_16, k_16, n_16⟩, -, X_16, ⟨Lc_16, hQ_16, l_16, y_16, z_16⟩, st_16⟩ := Jvm.LawKit.callS X_10 hx (y := (⟨"com/example/termwell/termwell/tables/XmlText", "plainAscii", "(Ljava/lang/String;)[Z"⟩ : MethodName)) hown (mvT hZ (hw _ (List.mem_of_getElem? (i := 34) rfl))) (mvT hZ (hw _ (List.mem_of_getElem? (i := 35) rfl))) (mvT hZ (hw _ (List.mem_of_getElem? (i := 36) rfl))) (mvT hZ (hw _ (List.mem_of_getElem? (i := 37) rfl))) (by decide) (backOf (W := 0) (rmpa0 l Z a0 hw [] a  b kb T_10.heap n0 z_14 b1 b2 b3 b4 cs hcs f_13) hZ (hw _ (List.mem_of_getElem? (i := 37) rfl)) (hw _ (List.mem_of_getElem? (i := 36) rfl)) (by decide) (by decide)) (g := (mkF m 44 #[.val (.int p0), .val (.int p1), .val (.int p2), .val (.int p3), .val (.int p4), .val (.int p5), .val (.int qa), .val (.int qb), .val (.int qc), .val (.int (0 : Int32)), .val (.ref a), .unset, .unset, .unset] [(.ref a)])) rfl (by rw [hml]; rfl) (argsL := [(.ref a)]) (rest := []) (lenOf pd_13 rfl) rfl (by show 2 * 0 + _ ≤ _; exact Nat.le_of_eq rfl) (hb hby at_44) (fun _ _ => ⟨rfl, rfl, (by decide : 6 + 1 ≤ _), (by decide : 12 + 128 ≤ _)⟩)
    dsimp only [Pt.U, Pt.locs, Pt.cells, Pt.slots] at X_16 l_16 y_16 z_16 st_16 hQ_16
    subst l_16 y_16 z_16
    obtain ⟨r, kr, rfl, Nq_16, Kq_16, us, AR, hus, HI⟩ := hQ_16
    have N_17 := Fr.app N_11 Nq_16
    have pre_16 : Rch p.tables e below (s₁.setTop (entryFrame m #[(.int p0), (.int p1), (.int p2), (.int p3), (.int p4), (.int p5)] maxLocals)) (T_16.setTop (mkF m 47 #[.val (.int p0), .val (.int p1), .val (.int p2), .val (.int p3), .val (.int p4), .val (.int p5), .val (.int qa), .val (.int qb), .val (.int qc), .val (.int (0 : Int32)), .val (.ref a), .unset, .unset, .unset] [(.ref r)])) := fun tgt ktg => pre_15 tgt (st_16 tgt ktg)
    have C_18 : CHr Z consts_1 s.vm h0 T_10.vm T_16.heap := C_12.trans (CHr.keep Kq_16 sf0 C_12.1)
    have hk_18 := Nat.le_trans hk_10 Kq_16.1
    have f_19 : Sta Z T_16.heap "java/lang/String" "COMPACT_STRINGS" "Z" (.int cs) := own_sta_keep f_13 Kq_16 ns0
    have z_20 : n0 ≤ T_16.heap.size := Nat.le_trans z_14 Kq_16.1
    have pre_21 : Rch p.tables e below (s₁.setTop (entryFrame m #[(.int p0), (.int p1), (.int p2), (.int p3), (.int p4), (.int p5)] maxLocals)) (T_16.setTop (mkF m 56 #[.val (.int p0), .val (.int p1), .val (.int p2), .val (.int p3), .val (.int p4), .val (.int p5), .val (.int qa), .val (.int qb), .val (.int qc), .val (.int (0 : Int32)), .val (.ref a), .val (.ref r), .unset, .unset] [(.ref r)])) := fun tgt ktg => pre_16 tgt (by
      show Steps p.tables e below (T_16.setTop (mkF m 47 #[.val (.int p0), .val (.int p1), .val (.int p2), .val (.int p3), .val (.int p4), .val (.int p5), .val (.int qa), .val (.int qb), .val (.int qc), .val (.int (0 : Int32)), .val (.ref a), .unset, .unset, .unset] [(.ref r)])) _
      refine XS.astore X_16.here hx rfl (hb hby at_47) rfl rfl (l' := #[.val (.int p0), .val (.int p1), .val (.int p2), .val (.int p3), .val (.int p4), .val (.int p5), .val (.int qa), .val (.int qb), .val (.int qc), .val (.int (0 : Int32)), .val (.ref a), .val (.ref r), .unset, .unset]) rfl ?_
      show Steps p.tables e below (T_16.setTop (mkF m 49 #[.val (.int p0), .val (.int p1), .val (.int p2), .val (.int p3), .val (.int p4), .val (.int p5), .val (.int qa), .val (.int qb), .val (.int qc), .val (.int (0 : Int32)), .val (.ref a), .val (.ref r), .unset, .unset] [])) _
      refine XS.aload X_16.here hx rfl (hb hby at_49) rfl rfl ?_
      show Steps p.tables e below (T_16.setTop (mkF m 51 #[.val (.int p0), .val (.int p1), .val (.int p2), .val (.int p3), .val (.int p4), .val (.int p5), .val (.int qa), .val (.int qb), .val (.int qc), .val (.int (0 : Int32)), .val (.ref a), .val (.ref r), .unset, .unset] [(.ref r)])) _
      refine XS.ifnullNo X_16.here hx rfl (hb hby at_51) rfl ?_
      show Steps p.tables e below (T_16.setTop (mkF m 54 #[.val (.int p0), .val (.int p1), .val (.int p2), .val (.int p3), .val (.int p4), .val (.int p5), .val (.int qa), .val (.int qb), .val (.int qc), .val (.int (0 : Int32)), .val (.ref a), .val (.ref r), .unset, .unset] [])) _
      refine XS.aload X_16.here hx rfl (hb hby at_54) rfl rfl ?_
      exact ktg)
    obtain ⟨cl__22, Ar__22, q__22, S__22, N__22, H__22, G__22⟩ := id AR
    have pre_23 : Rch p.tables e below (s₁.setTop (entryFrame m #[(.int p0), (.int p1), (.int p2), (.int p3), (.int p4), (.int p5)] maxLocals)) (T_16.setTop (mkF m 57 #[.val (.int p0), .val (.int p1), .val (.int p2), .val (.int p3), .val (.int p4), .val (.int p5), .val (.int qa), .val (.int qb), .val (.int qc), .val (.int (0 : Int32)), .val (.ref a), .val (.ref r), .unset, .unset] [(.int (128 : Int32))])) := fun tgt ktg => pre_21 tgt (X_16.arraylength hx Ar__22.1 (State.isArrayOf_alike hZ.alike Ar__22.2.1) (g := (mkF m 56 #[.val (.int p0), .val (.int p1), .val (.int p2), .val (.int p3), .val (.int p4), .val (.int p5), .val (.int qa), .val (.int qb), .val (.int qc), .val (.int (0 : Int32)), .val (.ref a), .val (.ref r), .unset, .unset] [(.ref r)])) rfl rfl (hb hby at_56) _ (by rw [len_of S__22 N__22]; exact ktg))
    have pre_24 : Rch p.tables e below (s₁.setTop (entryFrame m #[(.int p0), (.int p1), (.int p2), (.int p3), (.int p4), (.int p5)] maxLocals)) (T_16.setTop (mkF m 70 #[.val (.int p0), .val (.int p1), .val (.int p2), .val (.int p3), .val (.int p4), .val (.int p5), .val (.int qa), .val (.int qb), .val (.int qc), .val (.int (0 : Int32)), .val (.ref a), .val (.ref r), .unset, .unset] [(.int (p4 &&& (127 : Int32)))])) := fun tgt ktg => pre_23 tgt (by
      show Steps p.tables e below (T_16.setTop (mkF m 57 #[.val (.int p0), .val (.int p1), .val (.int p2), .val (.int p3), .val (.int p4), .val (.int p5), .val (.int qa), .val (.int qb), .val (.int qc), .val (.int (0 : Int32)), .val (.ref a), .val (.ref r), .unset, .unset] [(.int (128 : Int32))])) _
      refine XS.sipush X_16.here hx rfl (hb hby at_57) ?_
      show Steps p.tables e below (T_16.setTop (mkF m 60 #[.val (.int p0), .val (.int p1), .val (.int p2), .val (.int p3), .val (.int p4), .val (.int p5), .val (.int qa), .val (.int qb), .val (.int qc), .val (.int (0 : Int32)), .val (.ref a), .val (.ref r), .unset, .unset] [(.int (128 : Int32)), (.int (128 : Int32))])) _
      refine XS.icmpYes X_16.here hx rfl (pc0 := 60) (pc' := 65) rfl (hb hby at_60) rfl (teq (rfl : (128 : Int32) = (128 : Int32))).1 (by decide) (by decide) ?_
      show Steps p.tables e below (T_16.setTop (mkF m 65 #[.val (.int p0), .val (.int p1), .val (.int p2), .val (.int p3), .val (.int p4), .val (.int p5), .val (.int qa), .val (.int qb), .val (.int qc), .val (.int (0 : Int32)), .val (.ref a), .val (.ref r), .unset, .unset] [])) _
      refine XS.iload X_16.here hx rfl (hb hby at_65) rfl ?_
      show Steps p.tables e below (T_16.setTop (mkF m 67 #[.val (.int p0), .val (.int p1), .val (.int p2), .val (.int p3), .val (.int p4), .val (.int p5), .val (.int qa), .val (.int qb), .val (.int qc), .val (.int (0 : Int32)), .val (.ref a), .val (.ref r), .unset, .unset] [(.int p4)])) _
      refine XS.bipush X_16.here hx rfl (hb hby at_67) ?_
      show Steps p.tables e below (T_16.setTop (mkF m 69 #[.val (.int p0), .val (.int p1), .val (.int p2), .val (.int p3), .val (.int p4), .val (.int p5), .val (.int qa), .val (.int qb), .val (.int qc), .val (.int (0 : Int32)), .val (.ref a), .val (.ref r), .unset, .unset] [(.int (127 : Int32)), (.int p4)])) _
      refine XS.iand X_16.here hx rfl (hb hby at_69) rfl ?_
      exact ktg)
    obtain ⟨ii, hv_ii⟩ : ∃ nm_ : Int32, nm_ = (p4 &&& (127 : Int32)) := ⟨_, rfl⟩
    have pre_25 : Rch p.tables e below (s₁.setTop (entryFrame m #[(.int p0), (.int p1), (.int p2), (.int p3), (.int p4), (.int p5)] maxLocals)) (T_16.setTop (mkF m 70 #[.val (.int p0), .val (.int p1), .val (.int p2), .val (.int p3), .val (.int p4), .val (.int p5), .val (.int qa), .val (.int qb), .val (.int qc), .val (.int (0 : Int32)), .val (.ref a), .val (.ref r), .unset, .unset] [(.int ii)])) := fun tgt ktg => pre_24 tgt (by rw [hv_ii] at ktg; exact ktg)
    have pre_26 : Rch p.tables e below (s₁.setTop (entryFrame m #[(.int p0), (.int p1), (.int p2), (.int p3), (.int p4), (.int p5)] maxLocals)) (T_16.setTop (mkF m 77 #[.val (.int p0), .val (.int p1), .val (.int p2), .val (.int p3), .val (.int p4), .val (.int p5), .val (.int qa), .val (.int qb), .val (.int qc), .val (.int (0 : Int32)), .val (.ref a), .val (.ref r), .val (.int ii), .unset] [(.int (p5 &&& (127 : Int32)))])) := fun tgt ktg => pre_25 tgt (by
      show Steps p.tables e below (T_16.setTop (mkF m 70 #[.val (.int p0), .val (.int p1), .val (.int p2), .val (.int p3), .val (.int p4), .val (.int p5), .val (.int qa), .val (.int qb), .val (.int qc), .val (.int (0 : Int32)), .val (.ref a), .val (.ref r), .unset, .unset] [(.int ii)])) _
      refine XS.istore X_16.here hx rfl (hb hby at_70) rfl (l' := #[.val (.int p0), .val (.int p1), .val (.int p2), .val (.int p3), .val (.int p4), .val (.int p5), .val (.int qa), .val (.int qb), .val (.int qc), .val (.int (0 : Int32)), .val (.ref a), .val (.ref r), .val (.int ii), .unset]) rfl ?_
      show Steps p.tables e below (T_16.setTop (mkF m 72 #[.val (.int p0), .val (.int p1), .val (.int p2), .val (.int p3), .val (.int p4), .val (.int p5), .val (.int qa), .val (.int qb), .val (.int qc), .val (.int (0 : Int32)), .val (.ref a), .val (.ref r), .val (.int ii), .unset] [])) _
      refine XS.iload X_16.here hx rfl (hb hby at_72) rfl ?_
      show Steps p.tables e below (T_16.setTop (mkF m 74 #[.val (.int p0), .val (.int p1), .val (.int p2), .val (.int p3), .val (.int p4), .val (.int p5), .val (.int qa), .val (.int qb), .val (.int qc), .val (.int (0 : Int32)), .val (.ref a), .val (.ref r), .val (.int ii), .unset] [(.int p5)])) _
      refine XS.bipush X_16.here hx rfl (hb hby at_74) ?_
      show Steps p.tables e below (T_16.setTop (mkF m 76 #[.val (.int p0), .val (.int p1), .val (.int p2), .val (.int p3), .val (.int p4), .val (.int p5), .val (.int qa), .val (.int qb), .val (.int qc), .val (.int (0 : Int32)), .val (.ref a), .val (.ref r), .val (.int ii), .unset] [(.int (127 : Int32)), (.int p5)])) _
      refine XS.iand X_16.here hx rfl (hb hby at_76) rfl ?_
      exact ktg)
    obtain ⟨jj, hv_jj⟩ : ∃ nm_ : Int32, nm_ = (p5 &&& (127 : Int32)) := ⟨_, rfl⟩
    have pre_27 : Rch p.tables e below (s₁.setTop (entryFrame m #[(.int p0), (.int p1), (.int p2), (.int p3), (.int p4), (.int p5)] maxLocals)) (T_16.setTop (mkF m 77 #[.val (.int p0), .val (.int p1), .val (.int p2), .val (.int p3), .val (.int p4), .val (.int p5), .val (.int qa), .val (.int qb), .val (.int qc), .val (.int (0 : Int32)), .val (.ref a), .val (.ref r), .val (.int ii), .unset] [(.int jj)])) := fun tgt ktg => pre_26 tgt (by rw [hv_jj] at ktg; exact ktg)
    have hii := own_i127 hv_ii
    have hjj := own_i127 hv_jj
    have hqs : ∀ q ∈ ([] : List Int32), ¬ q < 0 ∧ ¬ (255 : Int32) < q := by simp
    have pre_28 : Rch p.tables e below (s₁.setTop (entryFrame m #[(.int p0), (.int p1), (.int p2), (.int p3), (.int p4), (.int p5)] maxLocals)) (T_16.setTop (mkF m 83 #[.val (.int p0), .val (.int p1), .val (.int p2), .val (.int p3), .val (.int p4), .val (.int p5), .val (.int qa), .val (.int qb), .val (.int qc), .val (.int (0 : Int32)), .val (.ref a), .val (.ref r), .val (.int ii), .val (.int jj)] [(.int ii), (.ref r)])) := fun tgt ktg => pre_27 tgt (by
      show Steps p.tables e below (T_16.setTop (mkF m 77 #[.val (.int p0), .val (.int p1), .val (.int p2), .val (.int p3), .val (.int p4), .val (.int p5), .val (.int qa), .val (.int qb), .val (.int qc), .val (.int (0 : Int32)), .val (.ref a), .val (.ref r), .val (.int ii), .unset] [(.int jj)])) _
      refine XS.istore X_16.here hx rfl (hb hby at_77) rfl (l' := #[.val (.int p0), .val (.int p1), .val (.int p2), .val (.int p3), .val (.int p4), .val (.int p5), .val (.int qa), .val (.int qb), .val (.int qc), .val (.int (0 : Int32)), .val (.ref a), .val (.ref r), .val (.int ii), .val (.int jj)]) rfl ?_
      show Steps p.tables e below (T_16.setTop (mkF m 79 #[.val (.int p0), .val (.int p1), .val (.int p2), .val (.int p3), .val (.int p4), .val (.int p5), .val (.int qa), .val (.int qb), .val (.int qc), .val (.int (0 : Int32)), .val (.ref a), .val (.ref r), .val (.int ii), .val (.int jj)] [])) _
      refine XS.aload X_16.here hx rfl (hb hby at_79) rfl rfl ?_
      show Steps p.tables e below (T_16.setTop (mkF m 81 #[.val (.int p0), .val (.int p1), .val (.int p2), .val (.int p3), .val (.int p4), .val (.int p5), .val (.int qa), .val (.int qb), .val (.int qc), .val (.int (0 : Int32)), .val (.ref a), .val (.ref r), .val (.int ii), .val (.int jj)] [(.ref r)])) _
      refine XS.iload X_16.here hx rfl (hb hby at_81) rfl ?_
      exact ktg)
    obtain ⟨cl__29, Ar__29, q__29, S__29, N__29, H__29, G__29⟩ := id AR
    have hin__29 : ¬ (ii < 0 ∨ cl__29.slots.size ≤ (ii).toNatClampNeg) := inb_of S__29 hii
    have hat__29 : cl__29.slots[(ii).toNatClampNeg]? = some (.int (pl [] ii)) := H__29.at hin__29 (HI ii hii.1 hii.2)
    have pre_30 : Rch p.tables e below (s₁.setTop (entryFrame m #[(.int p0), (.int p1), (.int p2), (.int p3), (.int p4), (.int p5)] maxLocals)) (T_16.setTop (mkF m 84 #[.val (.int p0), .val (.int p1), .val (.int p2), .val (.int p3), .val (.int p4), .val (.int p5), .val (.int qa), .val (.int qb), .val (.int qc), .val (.int (0 : Int32)), .val (.ref a), .val (.ref r), .val (.int ii), .val (.int jj)] [(.int (pl [] ii))])) := fun tgt ktg => pre_28 tgt (X_16.baloadBooleans hx (j := ii) (v := (.int (pl [] ii))) Ar__29.1 (State.isArrayOf_alike hZ.alike Ar__29.2.1) Ar__29.2.2 hin__29 hat__29 (g := (mkF m 83 #[.val (.int p0), .val (.int p1), .val (.int p2), .val (.int p3), .val (.int p4), .val (.int p5), .val (.int qa), .val (.int qb), .val (.int qc), .val (.int (0 : Int32)), .val (.ref a), .val (.ref r), .val (.int ii), .val (.int jj)] [(.int ii), (.ref r)])) rfl rfl (hb hby at_83) _ ktg)
    have pre_31 : Rch p.tables e below (s₁.setTop (entryFrame m #[(.int p0), (.int p1), (.int p2), (.int p3), (.int p4), (.int p5)] maxLocals)) (T_16.setTop (mkF m 94 #[.val (.int p0), .val (.int p1), .val (.int p2), .val (.int p3), .val (.int p4), .val (.int p5), .val (.int qa), .val (.int qb), .val (.int qc), .val (.int (0 : Int32)), .val (.ref a), .val (.ref r), .val (.int ii), .val (.int jj)] [(.int qc), (.int qb), (.int qa), (.int (0 : Int32)), (.int ii), (.int (pl [] ii))])) := fun tgt ktg => pre_30 tgt (by
      show Steps p.tables e below (T_16.setTop (mkF m 84 #[.val (.int p0), .val (.int p1), .val (.int p2), .val (.int p3), .val (.int p4), .val (.int p5), .val (.int qa), .val (.int qb), .val (.int qc), .val (.int (0 : Int32)), .val (.ref a), .val (.ref r), .val (.int ii), .val (.int jj)] [(.int (pl [] ii))])) _
      refine XS.iload X_16.here hx rfl (hb hby at_84) rfl ?_
      show Steps p.tables e below (T_16.setTop (mkF m 86 #[.val (.int p0), .val (.int p1), .val (.int p2), .val (.int p3), .val (.int p4), .val (.int p5), .val (.int qa), .val (.int qb), .val (.int qc), .val (.int (0 : Int32)), .val (.ref a), .val (.ref r), .val (.int ii), .val (.int jj)] [(.int ii), (.int (pl [] ii))])) _
      refine XS.iload X_16.here hx rfl (hb hby at_86) rfl ?_
      show Steps p.tables e below (T_16.setTop (mkF m 88 #[.val (.int p0), .val (.int p1), .val (.int p2), .val (.int p3), .val (.int p4), .val (.int p5), .val (.int qa), .val (.int qb), .val (.int qc), .val (.int (0 : Int32)), .val (.ref a), .val (.ref r), .val (.int ii), .val (.int jj)] [(.int (0 : Int32)), (.int ii), (.int (pl [] ii))])) _
      refine XS.iload X_16.here hx rfl (hb hby at_88) rfl ?_
      show Steps p.tables e below (T_16.setTop (mkF m 90 #[.val (.int p0), .val (.int p1), .val (.int p2), .val (.int p3), .val (.int p4), .val (.int p5), .val (.int qa), .val (.int qb), .val (.int qc), .val (.int (0 : Int32)), .val (.ref a), .val (.ref r), .val (.int ii), .val (.int jj)] [(.int qa), (.int (0 : Int32)), (.int ii), (.int (pl [] ii))])) _
      refine XS.iload X_16.here hx rfl (hb hby at_90) rfl ?_
      show Steps p.tables e below (T_16.setTop (mkF m 92 #[.val (.int p0), .val (.int p1), .val (.int p2), .val (.int p3), .val (.int p4), .val (.int p5), .val (.int qa), .val (.int qb), .val (.int qc), .val (.int (0 : Int32)), .val (.ref a), .val (.ref r), .val (.int ii), .val (.int jj)] [(.int qb), (.int qa), (.int (0 : Int32)), (.int ii), (.int (pl [] ii))])) _
      refine XS.iload X_16.here hx rfl (hb hby at_92) rfl ?_
      exact ktg)
    obtain ⟨_, _, ⟨T_32, L_32, k_32, n_32⟩, -, X_32, ⟨Lc_32, hQ_32, l_32, y_32, z_32⟩, st_32⟩ := Jvm.LawKit.callS X_16 hx (y := (⟨"com/example/termwell/termwell/tables/XmlTextPlainAsciiPinLaw", "expected", "(IICCC)Z"⟩ : MethodName)) hown (mvT hZ (hw _ (List.mem_of_getElem? (i := 81) rfl))) (mvT hZ (hw _ (List.mem_of_getElem? (i := 82) rfl))) (mvT hZ (hw _ (List.mem_of_getElem? (i := 2) rfl))) (mvT hZ (hw _ (List.mem_of_getElem? (i := 83) rfl))) (by decide) (backOf (W := 1) (rmex0 l Z a0 hw [] ii qa qb qc T_16.heap n0 z_20) hZ (hw _ (List.mem_of_getElem? (i := 83) rfl)) (hw _ (List.mem_of_getElem? (i := 2) rfl)) (by decide) (by decide)) (g := (mkF m 94 #[.val (.int p0), .val (.int p1), .val (.int p2), .val (.int p3), .val (.int p4), .val (.int p5), .val (.int qa), .val (.int qb), .val (.int qc), .val (.int (0 : Int32)), .val (.ref a), .val (.ref r), .val (.int ii), .val (.int jj)] [(.int qc), (.int qb), (.int qa), (.int (0 : Int32)), (.int ii), (.int (pl [] ii))])) rfl (by rw [hml]; rfl) (argsL := [(.int ii), (.int (0 : Int32)), (.int qa), (.int qb), (.int qc)]) (rest := [(.int (pl [] ii))]) (lenOf pd_14 rfl) rfl (by show 2 * 0 + _ ≤ _; exact Nat.le_of_eq rfl) (hb hby at_94) (fun _ _ => ⟨rfl, rfl, (by decide : 7 + 0 ≤ _), (by decide : 140 + 0 ≤ _)⟩)
    dsimp only [Pt.U, Pt.locs, Pt.cells, Pt.slots] at X_32 l_32 y_32 z_32 st_32 hQ_32
    subst l_32 y_32 z_32
    obtain ⟨rfl, Nq_32, eh_32⟩ := hQ_32
    have N_33 := Fr.app N_17 Nq_32
    have pre_32 : Rch p.tables e below (s₁.setTop (entryFrame m #[(.int p0), (.int p1), (.int p2), (.int p3), (.int p4), (.int p5)] maxLocals)) (T_32.setTop (mkF m 97 #[.val (.int p0), .val (.int p1), .val (.int p2), .val (.int p3), .val (.int p4), .val (.int p5), .val (.int qa), .val (.int qb), .val (.int qc), .val (.int (0 : Int32)), .val (.ref a), .val (.ref r), .val (.int ii), .val (.int jj)] [(.int (exl [] ii)), (.int (pl [] ii))])) := fun tgt ktg => pre_31 tgt (st_32 tgt ktg)
    have pre_34 : Rch p.tables e below (s₁.setTop (entryFrame m #[(.int p0), (.int p1), (.int p2), (.int p3), (.int p4), (.int p5)] maxLocals)) (T_32.setTop (mkF m 104 #[.val (.int p0), .val (.int p1), .val (.int p2), .val (.int p3), .val (.int p4), .val (.int p5), .val (.int qa), .val (.int qb), .val (.int qc), .val (.int (0 : Int32)), .val (.ref a), .val (.ref r), .val (.int ii), .val (.int jj)] [(.int jj), (.ref r)])) := fun tgt ktg => pre_32 tgt (by
      show Steps p.tables e below (T_32.setTop (mkF m 97 #[.val (.int p0), .val (.int p1), .val (.int p2), .val (.int p3), .val (.int p4), .val (.int p5), .val (.int qa), .val (.int qb), .val (.int qc), .val (.int (0 : Int32)), .val (.ref a), .val (.ref r), .val (.int ii), .val (.int jj)] [(.int (exl [] ii)), (.int (pl [] ii))])) _
      refine XS.icmpNo X_32.here hx rfl (hb hby at_97) rfl (teq (own_plex [] (0 : Int32) hii hqs (by decide) (by rw [show (0 : Int32).toInt = 0 from by decide]; first | decide | (simp; done)) : pl [] ii = exl [] ii)).2 ?_
      show Steps p.tables e below (T_32.setTop (mkF m 100 #[.val (.int p0), .val (.int p1), .val (.int p2), .val (.int p3), .val (.int p4), .val (.int p5), .val (.int qa), .val (.int qb), .val (.int qc), .val (.int (0 : Int32)), .val (.ref a), .val (.ref r), .val (.int ii), .val (.int jj)] [])) _
      refine XS.aload X_32.here hx rfl (hb hby at_100) rfl rfl ?_
      show Steps p.tables e below (T_32.setTop (mkF m 102 #[.val (.int p0), .val (.int p1), .val (.int p2), .val (.int p3), .val (.int p4), .val (.int p5), .val (.int qa), .val (.int qb), .val (.int qc), .val (.int (0 : Int32)), .val (.ref a), .val (.ref r), .val (.int ii), .val (.int jj)] [(.ref r)])) _
      refine XS.iload X_32.here hx rfl (hb hby at_102) rfl ?_
      exact ktg)
    obtain ⟨cl__35, Ar__35, q__35, S__35, N__35, H__35, G__35⟩ := id AR
    have hin__35 : ¬ (jj < 0 ∨ cl__35.slots.size ≤ (jj).toNatClampNeg) := inb_of S__35 hjj
    have hat__35 : cl__35.slots[(jj).toNatClampNeg]? = some (.int (pl [] jj)) := H__35.at hin__35 (HI jj hjj.1 hjj.2)
    have pre_36 : Rch p.tables e below (s₁.setTop (entryFrame m #[(.int p0), (.int p1), (.int p2), (.int p3), (.int p4), (.int p5)] maxLocals)) (T_32.setTop (mkF m 105 #[.val (.int p0), .val (.int p1), .val (.int p2), .val (.int p3), .val (.int p4), .val (.int p5), .val (.int qa), .val (.int qb), .val (.int qc), .val (.int (0 : Int32)), .val (.ref a), .val (.ref r), .val (.int ii), .val (.int jj)] [(.int (pl [] jj))])) := fun tgt ktg => pre_34 tgt (X_32.baloadBooleans hx (j := jj) (v := (.int (pl [] jj))) (by rw [eh_32]; exact Ar__35.1) (State.isArrayOf_alike hZ.alike Ar__35.2.1) Ar__35.2.2 hin__35 hat__35 (g := (mkF m 104 #[.val (.int p0), .val (.int p1), .val (.int p2), .val (.int p3), .val (.int p4), .val (.int p5), .val (.int qa), .val (.int qb), .val (.int qc), .val (.int (0 : Int32)), .val (.ref a), .val (.ref r), .val (.int ii), .val (.int jj)] [(.int jj), (.ref r)])) rfl rfl (hb hby at_104) _ ktg)
    have pre_37 : Rch p.tables e below (s₁.setTop (entryFrame m #[(.int p0), (.int p1), (.int p2), (.int p3), (.int p4), (.int p5)] maxLocals)) (T_32.setTop (mkF m 115 #[.val (.int p0), .val (.int p1), .val (.int p2), .val (.int p3), .val (.int p4), .val (.int p5), .val (.int qa), .val (.int qb), .val (.int qc), .val (.int (0 : Int32)), .val (.ref a), .val (.ref r), .val (.int ii), .val (.int jj)] [(.int qc), (.int qb), (.int qa), (.int (0 : Int32)), (.int jj), (.int (pl [] jj))])) := fun tgt ktg => pre_36 tgt (by
      show Steps p.tables e below (T_32.setTop (mkF m 105 #[.val (.int p0), .val (.int p1), .val (.int p2), .val (.int p3), .val (.int p4), .val (.int p5), .val (.int qa), .val (.int qb), .val (.int qc), .val (.int (0 : Int32)), .val (.ref a), .val (.ref r), .val (.int ii), .val (.int jj)] [(.int (pl [] jj))])) _
      refine XS.iload X_32.here hx rfl (hb hby at_105) rfl ?_
      show Steps p.tables e below (T_32.setTop (mkF m 107 #[.val (.int p0), .val (.int p1), .val (.int p2), .val (.int p3), .val (.int p4), .val (.int p5), .val (.int qa), .val (.int qb), .val (.int qc), .val (.int (0 : Int32)), .val (.ref a), .val (.ref r), .val (.int ii), .val (.int jj)] [(.int jj), (.int (pl [] jj))])) _
      refine XS.iload X_32.here hx rfl (hb hby at_107) rfl ?_
      show Steps p.tables e below (T_32.setTop (mkF m 109 #[.val (.int p0), .val (.int p1), .val (.int p2), .val (.int p3), .val (.int p4), .val (.int p5), .val (.int qa), .val (.int qb), .val (.int qc), .val (.int (0 : Int32)), .val (.ref a), .val (.ref r), .val (.int ii), .val (.int jj)] [(.int (0 : Int32)), (.int jj), (.int (pl [] jj))])) _
      refine XS.iload X_32.here hx rfl (hb hby at_109) rfl ?_
      show Steps p.tables e below (T_32.setTop (mkF m 111 #[.val (.int p0), .val (.int p1), .val (.int p2), .val (.int p3), .val (.int p4), .val (.int p5), .val (.int qa), .val (.int qb), .val (.int qc), .val (.int (0 : Int32)), .val (.ref a), .val (.ref r), .val (.int ii), .val (.int jj)] [(.int qa), (.int (0 : Int32)), (.int jj), (.int (pl [] jj))])) _
      refine XS.iload X_32.here hx rfl (hb hby at_111) rfl ?_
      show Steps p.tables e below (T_32.setTop (mkF m 113 #[.val (.int p0), .val (.int p1), .val (.int p2), .val (.int p3), .val (.int p4), .val (.int p5), .val (.int qa), .val (.int qb), .val (.int qc), .val (.int (0 : Int32)), .val (.ref a), .val (.ref r), .val (.int ii), .val (.int jj)] [(.int qb), (.int qa), (.int (0 : Int32)), (.int jj), (.int (pl [] jj))])) _
      refine XS.iload X_32.here hx rfl (hb hby at_113) rfl ?_
      exact ktg)
    obtain ⟨_, _, ⟨T_38, L_38, k_38, n_38⟩, -, X_38, ⟨Lc_38, hQ_38, l_38, y_38, z_38⟩, st_38⟩ := Jvm.LawKit.callS X_32 hx (y := (⟨"com/example/termwell/termwell/tables/XmlTextPlainAsciiPinLaw", "expected", "(IICCC)Z"⟩ : MethodName)) hown (mvT hZ (hw _ (List.mem_of_getElem? (i := 81) rfl))) (mvT hZ (hw _ (List.mem_of_getElem? (i := 82) rfl))) (mvT hZ (hw _ (List.mem_of_getElem? (i := 2) rfl))) (mvT hZ (hw _ (List.mem_of_getElem? (i := 83) rfl))) (by decide) (backOf (W := 1) (rmex0 l Z a0 hw [] jj qa qb qc T_16.heap n0 z_20) hZ (hw _ (List.mem_of_getElem? (i := 83) rfl)) (hw _ (List.mem_of_getElem? (i := 2) rfl)) (by decide) (by decide)) (g := (mkF m 115 #[.val (.int p0), .val (.int p1), .val (.int p2), .val (.int p3), .val (.int p4), .val (.int p5), .val (.int qa), .val (.int qb), .val (.int qc), .val (.int (0 : Int32)), .val (.ref a), .val (.ref r), .val (.int ii), .val (.int jj)] [(.int qc), (.int qb), (.int qa), (.int (0 : Int32)), (.int jj), (.int (pl [] jj))])) rfl (by rw [hml]; rfl) (argsL := [(.int jj), (.int (0 : Int32)), (.int qa), (.int qb), (.int qc)]) (rest := [(.int (pl [] jj))]) (lenOf pd_14 rfl) rfl (by show 2 * 0 + _ ≤ _; exact Nat.le_of_eq rfl) (hb hby at_115) (fun _ _ => ⟨rfl, eh_32, (by decide : 7 + 0 ≤ _), (by decide : 140 + 0 ≤ _)⟩)
    dsimp only [Pt.U, Pt.locs, Pt.cells, Pt.slots] at X_38 l_38 y_38 z_38 st_38 hQ_38
    subst l_38 y_38 z_38
    obtain ⟨rfl, Nq_38, eh_38⟩ := hQ_38
    have N_39 := Fr.app N_33 Nq_38
    have pre_38 : Rch p.tables e below (s₁.setTop (entryFrame m #[(.int p0), (.int p1), (.int p2), (.int p3), (.int p4), (.int p5)] maxLocals)) (T_38.setTop (mkF m 118 #[.val (.int p0), .val (.int p1), .val (.int p2), .val (.int p3), .val (.int p4), .val (.int p5), .val (.int qa), .val (.int qb), .val (.int qc), .val (.int (0 : Int32)), .val (.ref a), .val (.ref r), .val (.int ii), .val (.int jj)] [(.int (exl [] jj)), (.int (pl [] jj))])) := fun tgt ktg => pre_37 tgt (st_38 tgt ktg)
    have pre_40 : Rch p.tables e below (s₁.setTop (entryFrame m #[(.int p0), (.int p1), (.int p2), (.int p3), (.int p4), (.int p5)] maxLocals)) (T_38.setTop (mkF m 126 #[.val (.int p0), .val (.int p1), .val (.int p2), .val (.int p3), .val (.int p4), .val (.int p5), .val (.int qa), .val (.int qb), .val (.int qc), .val (.int (0 : Int32)), .val (.ref a), .val (.ref r), .val (.int ii), .val (.int jj)] [(.int (1 : Int32))])) := fun tgt ktg => pre_38 tgt (by
      show Steps p.tables e below (T_38.setTop (mkF m 118 #[.val (.int p0), .val (.int p1), .val (.int p2), .val (.int p3), .val (.int p4), .val (.int p5), .val (.int qa), .val (.int qb), .val (.int qc), .val (.int (0 : Int32)), .val (.ref a), .val (.ref r), .val (.int ii), .val (.int jj)] [(.int (exl [] jj)), (.int (pl [] jj))])) _
      refine XS.icmpNo X_38.here hx rfl (hb hby at_118) rfl (teq (own_plex [] (0 : Int32) hjj hqs (by decide) (by rw [show (0 : Int32).toInt = 0 from by decide]; first | decide | (simp; done)) : pl [] jj = exl [] jj)).2 ?_
      show Steps p.tables e below (T_38.setTop (mkF m 121 #[.val (.int p0), .val (.int p1), .val (.int p2), .val (.int p3), .val (.int p4), .val (.int p5), .val (.int qa), .val (.int qb), .val (.int qc), .val (.int (0 : Int32)), .val (.ref a), .val (.ref r), .val (.int ii), .val (.int jj)] [])) _
      refine XS.iconst X_38.here hx rfl (hb hby at_121) ?_
      show Steps p.tables e below (T_38.setTop (mkF m 122 #[.val (.int p0), .val (.int p1), .val (.int p2), .val (.int p3), .val (.int p4), .val (.int p5), .val (.int qa), .val (.int qb), .val (.int qc), .val (.int (0 : Int32)), .val (.ref a), .val (.ref r), .val (.int ii), .val (.int jj)] [(.int (1 : Int32))])) _
      refine XS.goto X_38.here hx rfl (pc0 := 122) (pc' := 126) rfl (hb hby at_122) (by decide) (by decide) ?_
      exact ktg)
    obtain ⟨fs, hr, hrun, hended, hW⟩ := X_38.leaveW hS_10 (by rw [eh_38]; exact hk_18) (v := some (.int (1 : Int32))) (fun h => by rw [Bd.returns] at h; cases h)
    refine ⟨_, _, pre_40 _ ?_, hrun, hended, _, _, rfl, ?_, ?_, hW.1, hW.2.1, hW.2.2.1, hW.2.2.2.mono (by decide) (by decide)⟩
    · show Steps p.tables e below (T_38.setTop (mkF m 126 #[.val (.int p0), .val (.int p1), .val (.int p2), .val (.int p3), .val (.int p4), .val (.int p5), .val (.int qa), .val (.int qb), .val (.int qc), .val (.int (0 : Int32)), .val (.ref a), .val (.ref r), .val (.int ii), .val (.int jj)] [(.int (1 : Int32))])) _
      exact retN X_38 hx (t := .boolean) Bd.returns (by simp) (hb hby at_126) hr
    · show Q0 Z p0 p1 p2 p3 p4 p5 h0 n0 _ T_38.heap _
      rw [eh_38]
      exact ⟨rfl, N_39⟩
    · show CHr Z consts_1 s.vm s.heap T_38.vm T_38.heap
      rw [hh, eh_38]
      exact C_18.trans (CHv.at X_38 hZ hEL C_18.1)
  · skip
    subst r1
    have pre_41 : Rch p.tables e below (s₁.setTop (entryFrame m #[(.int p0), (.int p1), (.int p2), (.int p3), (.int p4), (.int p5)] maxLocals)) (s₁.setTop (mkF m 37 #[.val (.int p0), .val (.int p1), .val (.int p2), .val (.int p3), .val (.int p4), .val (.int p5), .val (.int qa), .val (.int qb), .val (.int qc), .val (.int (1 : Int32)), .unset, .unset, .unset, .unset] [(.int qc), (.int qb), (.int qa), (.int (1 : Int32))])) := fun tgt ktg => pre_8 tgt (by
      show Steps p.tables e below (s₁.setTop (mkF m 27 #[.val (.int p0), .val (.int p1), .val (.int p2), .val (.int p3), .val (.int p4), .val (.int p5), .val (.int qa), .val (.int qb), .val (.int qc), .unset, .unset, .unset, .unset, .unset] [(.int (1 : Int32))])) _
      refine XS.istore X0.here hx rfl (hb hby at_27) rfl (l' := #[.val (.int p0), .val (.int p1), .val (.int p2), .val (.int p3), .val (.int p4), .val (.int p5), .val (.int qa), .val (.int qb), .val (.int qc), .val (.int (1 : Int32)), .unset, .unset, .unset, .unset]) rfl ?_
      show Steps p.tables e below (s₁.setTop (mkF m 29 #[.val (.int p0), .val (.int p1), .val (.int p2), .val (.int p3), .val (.int p4), .val (.int p5), .val (.int qa), .val (.int qb), .val (.int qc), .val (.int (1 : Int32)), .unset, .unset, .unset, .unset] [])) _
      refine XS.iload X0.here hx rfl (hb hby at_29) rfl ?_
      show Steps p.tables e below (s₁.setTop (mkF m 31 #[.val (.int p0), .val (.int p1), .val (.int p2), .val (.int p3), .val (.int p4), .val (.int p5), .val (.int qa), .val (.int qb), .val (.int qc), .val (.int (1 : Int32)), .unset, .unset, .unset, .unset] [(.int (1 : Int32))])) _
      refine XS.iload X0.here hx rfl (hb hby at_31) rfl ?_
      show Steps p.tables e below (s₁.setTop (mkF m 33 #[.val (.int p0), .val (.int p1), .val (.int p2), .val (.int p3), .val (.int p4), .val (.int p5), .val (.int qa), .val (.int qb), .val (.int qc), .val (.int (1 : Int32)), .unset, .unset, .unset, .unset] [(.int qa), (.int (1 : Int32))])) _
      refine XS.iload X0.here hx rfl (hb hby at_33) rfl ?_
      show Steps p.tables e below (s₁.setTop (mkF m 35 #[.val (.int p0), .val (.int p1), .val (.int p2), .val (.int p3), .val (.int p4), .val (.int p5), .val (.int qa), .val (.int qb), .val (.int qc), .val (.int (1 : Int32)), .unset, .unset, .unset, .unset] [(.int qb), (.int qa), (.int (1 : Int32))])) _
      refine XS.iload X0.here hx rfl (hb hby at_35) rfl ?_
      exact ktg)
    obtain ⟨_, _, ⟨T_42, L_42, k_42, n_42⟩, -, X_42, ⟨Lc_42, hQ_42, l_42, y_42, z_42⟩, st_42⟩ := Jvm.LawKit.callS X0 hx (y := (⟨"com/example/termwell/termwell/tables/XmlTextPlainAsciiPinLaw", "make", "(ICCC)Ljava/lang/String;"⟩ : MethodName)) hown (mvT hZ (hw _ (List.mem_of_getElem? (i := 0) rfl))) (mvT hZ (hw _ (List.mem_of_getElem? (i := 1) rfl))) (mvT hZ (hw _ (List.mem_of_getElem? (i := 2) rfl))) (mvT hZ (hw _ (List.mem_of_getElem? (i := 3) rfl))) (by decide) (backOf (W := 0) (rmmk1 l Z a0 hw [] qa qb qc h0 n0 Z0 cs hcs S1 hqa0 hqa) hZ (hw _ (List.mem_of_getElem? (i := 3) rfl)) (hw _ (List.mem_of_getElem? (i := 2) rfl)) (by decide) (by decide)) (g := (mkF m 37 #[.val (.int p0), .val (.int p1), .val (.int p2), .val (.int p3), .val (.int p4), .val (.int p5), .val (.int qa), .val (.int qb), .val (.int qc), .val (.int (1 : Int32)), .unset, .unset, .unset, .unset] [(.int qc), (.int qb), (.int qa), (.int (1 : Int32))])) rfl (by rw [hml]; rfl) (argsL := [(.int (1 : Int32)), (.int qa), (.int qb), (.int qc)]) (rest := []) (lenOf pd_12 rfl) rfl (by show 2 * 0 + _ ≤ _; exact Nat.le_of_eq rfl) (hb hby at_37) (fun _ _ => ⟨rfl, e0, (by decide : 0 + 3 ≤ _), (by decide : 0 + 6 ≤ _)⟩)
    dsimp only [Pt.U, Pt.locs, Pt.cells, Pt.slots] at X_42 l_42 y_42 z_42 st_42 hQ_42
    subst l_42 y_42 z_42
    obtain ⟨a, b, kb, rfl, Nq_42, Kq_42, b1, b2, b3, b4⟩ := hQ_42
    have N_43 := Fr.app N0 Nq_42
    have pre_42 : Rch p.tables e below (s₁.setTop (entryFrame m #[(.int p0), (.int p1), (.int p2), (.int p3), (.int p4), (.int p5)] maxLocals)) (T_42.setTop (mkF m 40 #[.val (.int p0), .val (.int p1), .val (.int p2), .val (.int p3), .val (.int p4), .val (.int p5), .val (.int qa), .val (.int qb), .val (.int qc), .val (.int (1 : Int32)), .unset, .unset, .unset, .unset] [(.ref a)])) := fun tgt ktg => pre_41 tgt (st_42 tgt ktg)
    have C_44 : CHr Z consts_1 s.vm h0 s.vm T_42.heap := C0.trans (CHr.keep Kq_42 sf0 C0.1)
    have hk_44 := Nat.le_trans hk0 Kq_42.1
    have f_45 : Sta Z T_42.heap "java/lang/String" "COMPACT_STRINGS" "Z" (.int cs) := own_sta_keep S1 Kq_42 ns0
    have z_46 : n0 ≤ T_42.heap.size := Nat.le_trans Z0 Kq_42.1
    have pre_47 : Rch p.tables e below (s₁.setTop (entryFrame m #[(.int p0), (.int p1), (.int p2), (.int p3), (.int p4), (.int p5)] maxLocals)) (T_42.setTop (mkF m 44 #[.val (.int p0), .val (.int p1), .val (.int p2), .val (.int p3), .val (.int p4), .val (.int p5), .val (.int qa), .val (.int qb), .val (.int qc), .val (.int (1 : Int32)), .val (.ref a), .unset, .unset, .unset] [(.ref a)])) := fun tgt ktg => pre_42 tgt (by
      show Steps p.tables e below (T_42.setTop (mkF m 40 #[.val (.int p0), .val (.int p1), .val (.int p2), .val (.int p3), .val (.int p4), .val (.int p5), .val (.int qa), .val (.int qb), .val (.int qc), .val (.int (1 : Int32)), .unset, .unset, .unset, .unset] [(.ref a)])) _
      refine XS.astore X_42.here hx rfl (hb hby at_40) rfl rfl (l' := #[.val (.int p0), .val (.int p1), .val (.int p2), .val (.int p3), .val (.int p4), .val (.int p5), .val (.int qa), .val (.int qb), .val (.int qc), .val (.int (1 : Int32)), .val (.ref a), .unset, .unset, .unset]) rfl ?_
      show Steps p.tables e below (T_42.setTop (mkF m 42 #[.val (.int p0), .val (.int p1), .val (.int p2), .val (.int p3), .val (.int p4), .val (.int p5), .val (.int qa), .val (.int qb), .val (.int qc), .val (.int (1 : Int32)), .val (.ref a), .unset, .unset, .unset] [])) _
      refine XS.aload X_42.here hx rfl (hb hby at_42) rfl rfl ?_
      exact ktg)
    obtain ⟨_, _, ⟨T_48, L_48, k_48, n_48⟩, -, X_48, ⟨Lc_48, hQ_48, l_48, y_48, z_48⟩, st_48⟩ := Jvm.LawKit.callS X_42 hx (y := (⟨"com/example/termwell/termwell/tables/XmlText", "plainAscii", "(Ljava/lang/String;)[Z"⟩ : MethodName)) hown (mvT hZ (hw _ (List.mem_of_getElem? (i := 34) rfl))) (mvT hZ (hw _ (List.mem_of_getElem? (i := 35) rfl))) (mvT hZ (hw _ (List.mem_of_getElem? (i := 36) rfl))) (mvT hZ (hw _ (List.mem_of_getElem? (i := 37) rfl))) (by decide) (backOf (W := 0) (rmpa1 l Z a0 hw [] a (qa.toInt8.toInt32) b kb T_42.heap n0 z_46 b1 b2 b3 b4 cs hcs f_45) hZ (hw _ (List.mem_of_getElem? (i := 37) rfl)) (hw _ (List.mem_of_getElem? (i := 36) rfl)) (by decide) (by decide)) (g := (mkF m 44 #[.val (.int p0), .val (.int p1), .val (.int p2), .val (.int p3), .val (.int p4), .val (.int p5), .val (.int qa), .val (.int qb), .val (.int qc), .val (.int (1 : Int32)), .val (.ref a), .unset, .unset, .unset] [(.ref a)])) rfl (by rw [hml]; rfl) (argsL := [(.ref a)]) (rest := []) (lenOf pd_13 rfl) rfl (by show 2 * 0 + _ ≤ _; exact Nat.le_of_eq rfl) (hb hby at_44) (fun _ _ => ⟨rfl, rfl, (by decide : 3 + 1 ≤ _), (by decide : 6 + 128 ≤ _)⟩)
    dsimp only [Pt.U, Pt.locs, Pt.cells, Pt.slots] at X_48 l_48 y_48 z_48 st_48 hQ_48
    subst l_48 y_48 z_48
    obtain ⟨r, kr, rfl, Nq_48, Kq_48, us, AR, hus, HI⟩ := hQ_48
    have N_49 := Fr.app N_43 Nq_48
    have pre_48 : Rch p.tables e below (s₁.setTop (entryFrame m #[(.int p0), (.int p1), (.int p2), (.int p3), (.int p4), (.int p5)] maxLocals)) (T_48.setTop (mkF m 47 #[.val (.int p0), .val (.int p1), .val (.int p2), .val (.int p3), .val (.int p4), .val (.int p5), .val (.int qa), .val (.int qb), .val (.int qc), .val (.int (1 : Int32)), .val (.ref a), .unset, .unset, .unset] [(.ref r)])) := fun tgt ktg => pre_47 tgt (st_48 tgt ktg)
    have C_50 : CHr Z consts_1 s.vm h0 s.vm T_48.heap := C_44.trans (CHr.keep Kq_48 sf0 C_44.1)
    have hk_50 := Nat.le_trans hk_44 Kq_48.1
    have f_51 : Sta Z T_48.heap "java/lang/String" "COMPACT_STRINGS" "Z" (.int cs) := own_sta_keep f_45 Kq_48 ns0
    have z_52 : n0 ≤ T_48.heap.size := Nat.le_trans z_46 Kq_48.1
    have pre_53 : Rch p.tables e below (s₁.setTop (entryFrame m #[(.int p0), (.int p1), (.int p2), (.int p3), (.int p4), (.int p5)] maxLocals)) (T_48.setTop (mkF m 56 #[.val (.int p0), .val (.int p1), .val (.int p2), .val (.int p3), .val (.int p4), .val (.int p5), .val (.int qa), .val (.int qb), .val (.int qc), .val (.int (1 : Int32)), .val (.ref a), .val (.ref r), .unset, .unset] [(.ref r)])) := fun tgt ktg => pre_48 tgt (by
      show Steps p.tables e below (T_48.setTop (mkF m 47 #[.val (.int p0), .val (.int p1), .val (.int p2), .val (.int p3), .val (.int p4), .val (.int p5), .val (.int qa), .val (.int qb), .val (.int qc), .val (.int (1 : Int32)), .val (.ref a), .unset, .unset, .unset] [(.ref r)])) _
      refine XS.astore X_48.here hx rfl (hb hby at_47) rfl rfl (l' := #[.val (.int p0), .val (.int p1), .val (.int p2), .val (.int p3), .val (.int p4), .val (.int p5), .val (.int qa), .val (.int qb), .val (.int qc), .val (.int (1 : Int32)), .val (.ref a), .val (.ref r), .unset, .unset]) rfl ?_
      show Steps p.tables e below (T_48.setTop (mkF m 49 #[.val (.int p0), .val (.int p1), .val (.int p2), .val (.int p3), .val (.int p4), .val (.int p5), .val (.int qa), .val (.int qb), .val (.int qc), .val (.int (1 : Int32)), .val (.ref a), .val (.ref r), .unset, .unset] [])) _
      refine XS.aload X_48.here hx rfl (hb hby at_49) rfl rfl ?_
      show Steps p.tables e below (T_48.setTop (mkF m 51 #[.val (.int p0), .val (.int p1), .val (.int p2), .val (.int p3), .val (.int p4), .val (.int p5), .val (.int qa), .val (.int qb), .val (.int qc), .val (.int (1 : Int32)), .val (.ref a), .val (.ref r), .unset, .unset] [(.ref r)])) _
      refine XS.ifnullNo X_48.here hx rfl (hb hby at_51) rfl ?_
      show Steps p.tables e below (T_48.setTop (mkF m 54 #[.val (.int p0), .val (.int p1), .val (.int p2), .val (.int p3), .val (.int p4), .val (.int p5), .val (.int qa), .val (.int qb), .val (.int qc), .val (.int (1 : Int32)), .val (.ref a), .val (.ref r), .unset, .unset] [])) _
      refine XS.aload X_48.here hx rfl (hb hby at_54) rfl rfl ?_
      exact ktg)
    obtain ⟨cl__54, Ar__54, q__54, S__54, N__54, H__54, G__54⟩ := id AR
    have pre_55 : Rch p.tables e below (s₁.setTop (entryFrame m #[(.int p0), (.int p1), (.int p2), (.int p3), (.int p4), (.int p5)] maxLocals)) (T_48.setTop (mkF m 57 #[.val (.int p0), .val (.int p1), .val (.int p2), .val (.int p3), .val (.int p4), .val (.int p5), .val (.int qa), .val (.int qb), .val (.int qc), .val (.int (1 : Int32)), .val (.ref a), .val (.ref r), .unset, .unset] [(.int (128 : Int32))])) := fun tgt ktg => pre_53 tgt (X_48.arraylength hx Ar__54.1 (State.isArrayOf_alike hZ.alike Ar__54.2.1) (g := (mkF m 56 #[.val (.int p0), .val (.int p1), .val (.int p2), .val (.int p3), .val (.int p4), .val (.int p5), .val (.int qa), .val (.int qb), .val (.int qc), .val (.int (1 : Int32)), .val (.ref a), .val (.ref r), .unset, .unset] [(.ref r)])) rfl rfl (hb hby at_56) _ (by rw [len_of S__54 N__54]; exact ktg))
    have pre_56 : Rch p.tables e below (s₁.setTop (entryFrame m #[(.int p0), (.int p1), (.int p2), (.int p3), (.int p4), (.int p5)] maxLocals)) (T_48.setTop (mkF m 70 #[.val (.int p0), .val (.int p1), .val (.int p2), .val (.int p3), .val (.int p4), .val (.int p5), .val (.int qa), .val (.int qb), .val (.int qc), .val (.int (1 : Int32)), .val (.ref a), .val (.ref r), .unset, .unset] [(.int (p4 &&& (127 : Int32)))])) := fun tgt ktg => pre_55 tgt (by
      show Steps p.tables e below (T_48.setTop (mkF m 57 #[.val (.int p0), .val (.int p1), .val (.int p2), .val (.int p3), .val (.int p4), .val (.int p5), .val (.int qa), .val (.int qb), .val (.int qc), .val (.int (1 : Int32)), .val (.ref a), .val (.ref r), .unset, .unset] [(.int (128 : Int32))])) _
      refine XS.sipush X_48.here hx rfl (hb hby at_57) ?_
      show Steps p.tables e below (T_48.setTop (mkF m 60 #[.val (.int p0), .val (.int p1), .val (.int p2), .val (.int p3), .val (.int p4), .val (.int p5), .val (.int qa), .val (.int qb), .val (.int qc), .val (.int (1 : Int32)), .val (.ref a), .val (.ref r), .unset, .unset] [(.int (128 : Int32)), (.int (128 : Int32))])) _
      refine XS.icmpYes X_48.here hx rfl (pc0 := 60) (pc' := 65) rfl (hb hby at_60) rfl (teq (rfl : (128 : Int32) = (128 : Int32))).1 (by decide) (by decide) ?_
      show Steps p.tables e below (T_48.setTop (mkF m 65 #[.val (.int p0), .val (.int p1), .val (.int p2), .val (.int p3), .val (.int p4), .val (.int p5), .val (.int qa), .val (.int qb), .val (.int qc), .val (.int (1 : Int32)), .val (.ref a), .val (.ref r), .unset, .unset] [])) _
      refine XS.iload X_48.here hx rfl (hb hby at_65) rfl ?_
      show Steps p.tables e below (T_48.setTop (mkF m 67 #[.val (.int p0), .val (.int p1), .val (.int p2), .val (.int p3), .val (.int p4), .val (.int p5), .val (.int qa), .val (.int qb), .val (.int qc), .val (.int (1 : Int32)), .val (.ref a), .val (.ref r), .unset, .unset] [(.int p4)])) _
      refine XS.bipush X_48.here hx rfl (hb hby at_67) ?_
      show Steps p.tables e below (T_48.setTop (mkF m 69 #[.val (.int p0), .val (.int p1), .val (.int p2), .val (.int p3), .val (.int p4), .val (.int p5), .val (.int qa), .val (.int qb), .val (.int qc), .val (.int (1 : Int32)), .val (.ref a), .val (.ref r), .unset, .unset] [(.int (127 : Int32)), (.int p4)])) _
      refine XS.iand X_48.here hx rfl (hb hby at_69) rfl ?_
      exact ktg)
    obtain ⟨ii, hv_ii⟩ : ∃ nm_ : Int32, nm_ = (p4 &&& (127 : Int32)) := ⟨_, rfl⟩
    have pre_57 : Rch p.tables e below (s₁.setTop (entryFrame m #[(.int p0), (.int p1), (.int p2), (.int p3), (.int p4), (.int p5)] maxLocals)) (T_48.setTop (mkF m 70 #[.val (.int p0), .val (.int p1), .val (.int p2), .val (.int p3), .val (.int p4), .val (.int p5), .val (.int qa), .val (.int qb), .val (.int qc), .val (.int (1 : Int32)), .val (.ref a), .val (.ref r), .unset, .unset] [(.int ii)])) := fun tgt ktg => pre_56 tgt (by rw [hv_ii] at ktg; exact ktg)
    have pre_58 : Rch p.tables e below (s₁.setTop (entryFrame m #[(.int p0), (.int p1), (.int p2), (.int p3), (.int p4), (.int p5)] maxLocals)) (T_48.setTop (mkF m 77 #[.val (.int p0), .val (.int p1), .val (.int p2), .val (.int p3), .val (.int p4), .val (.int p5), .val (.int qa), .val (.int qb), .val (.int qc), .val (.int (1 : Int32)), .val (.ref a), .val (.ref r), .val (.int ii), .unset] [(.int (p5 &&& (127 : Int32)))])) := fun tgt ktg => pre_57 tgt (by
      show Steps p.tables e below (T_48.setTop (mkF m 70 #[.val (.int p0), .val (.int p1), .val (.int p2), .val (.int p3), .val (.int p4), .val (.int p5), .val (.int qa), .val (.int qb), .val (.int qc), .val (.int (1 : Int32)), .val (.ref a), .val (.ref r), .unset, .unset] [(.int ii)])) _
      refine XS.istore X_48.here hx rfl (hb hby at_70) rfl (l' := #[.val (.int p0), .val (.int p1), .val (.int p2), .val (.int p3), .val (.int p4), .val (.int p5), .val (.int qa), .val (.int qb), .val (.int qc), .val (.int (1 : Int32)), .val (.ref a), .val (.ref r), .val (.int ii), .unset]) rfl ?_
      show Steps p.tables e below (T_48.setTop (mkF m 72 #[.val (.int p0), .val (.int p1), .val (.int p2), .val (.int p3), .val (.int p4), .val (.int p5), .val (.int qa), .val (.int qb), .val (.int qc), .val (.int (1 : Int32)), .val (.ref a), .val (.ref r), .val (.int ii), .unset] [])) _
      refine XS.iload X_48.here hx rfl (hb hby at_72) rfl ?_
      show Steps p.tables e below (T_48.setTop (mkF m 74 #[.val (.int p0), .val (.int p1), .val (.int p2), .val (.int p3), .val (.int p4), .val (.int p5), .val (.int qa), .val (.int qb), .val (.int qc), .val (.int (1 : Int32)), .val (.ref a), .val (.ref r), .val (.int ii), .unset] [(.int p5)])) _
      refine XS.bipush X_48.here hx rfl (hb hby at_74) ?_
      show Steps p.tables e below (T_48.setTop (mkF m 76 #[.val (.int p0), .val (.int p1), .val (.int p2), .val (.int p3), .val (.int p4), .val (.int p5), .val (.int qa), .val (.int qb), .val (.int qc), .val (.int (1 : Int32)), .val (.ref a), .val (.ref r), .val (.int ii), .unset] [(.int (127 : Int32)), (.int p5)])) _
      refine XS.iand X_48.here hx rfl (hb hby at_76) rfl ?_
      exact ktg)
    obtain ⟨jj, hv_jj⟩ : ∃ nm_ : Int32, nm_ = (p5 &&& (127 : Int32)) := ⟨_, rfl⟩
    have pre_59 : Rch p.tables e below (s₁.setTop (entryFrame m #[(.int p0), (.int p1), (.int p2), (.int p3), (.int p4), (.int p5)] maxLocals)) (T_48.setTop (mkF m 77 #[.val (.int p0), .val (.int p1), .val (.int p2), .val (.int p3), .val (.int p4), .val (.int p5), .val (.int qa), .val (.int qb), .val (.int qc), .val (.int (1 : Int32)), .val (.ref a), .val (.ref r), .val (.int ii), .unset] [(.int jj)])) := fun tgt ktg => pre_58 tgt (by rw [hv_jj] at ktg; exact ktg)
    have hii := own_i127 hv_ii
    have hjj := own_i127 hv_jj
    have hqs : ∀ q ∈ ([qa] : List Int32), ¬ q < 0 ∧ ¬ (255 : Int32) < q := by
          intro q hq; simp only [List.mem_cons, List.not_mem_nil, or_false] at hq
          rcases hq with rfl
          · exact ⟨hqa0, hqa⟩
    have pre_60 : Rch p.tables e below (s₁.setTop (entryFrame m #[(.int p0), (.int p1), (.int p2), (.int p3), (.int p4), (.int p5)] maxLocals)) (T_48.setTop (mkF m 83 #[.val (.int p0), .val (.int p1), .val (.int p2), .val (.int p3), .val (.int p4), .val (.int p5), .val (.int qa), .val (.int qb), .val (.int qc), .val (.int (1 : Int32)), .val (.ref a), .val (.ref r), .val (.int ii), .val (.int jj)] [(.int ii), (.ref r)])) := fun tgt ktg => pre_59 tgt (by
      show Steps p.tables e below (T_48.setTop (mkF m 77 #[.val (.int p0), .val (.int p1), .val (.int p2), .val (.int p3), .val (.int p4), .val (.int p5), .val (.int qa), .val (.int qb), .val (.int qc), .val (.int (1 : Int32)), .val (.ref a), .val (.ref r), .val (.int ii), .unset] [(.int jj)])) _
      refine XS.istore X_48.here hx rfl (hb hby at_77) rfl (l' := #[.val (.int p0), .val (.int p1), .val (.int p2), .val (.int p3), .val (.int p4), .val (.int p5), .val (.int qa), .val (.int qb), .val (.int qc), .val (.int (1 : Int32)), .val (.ref a), .val (.ref r), .val (.int ii), .val (.int jj)]) rfl ?_
      show Steps p.tables e below (T_48.setTop (mkF m 79 #[.val (.int p0), .val (.int p1), .val (.int p2), .val (.int p3), .val (.int p4), .val (.int p5), .val (.int qa), .val (.int qb), .val (.int qc), .val (.int (1 : Int32)), .val (.ref a), .val (.ref r), .val (.int ii), .val (.int jj)] [])) _
      refine XS.aload X_48.here hx rfl (hb hby at_79) rfl rfl ?_
      show Steps p.tables e below (T_48.setTop (mkF m 81 #[.val (.int p0), .val (.int p1), .val (.int p2), .val (.int p3), .val (.int p4), .val (.int p5), .val (.int qa), .val (.int qb), .val (.int qc), .val (.int (1 : Int32)), .val (.ref a), .val (.ref r), .val (.int ii), .val (.int jj)] [(.ref r)])) _
      refine XS.iload X_48.here hx rfl (hb hby at_81) rfl ?_
      exact ktg)
    obtain ⟨cl__61, Ar__61, q__61, S__61, N__61, H__61, G__61⟩ := id AR
    have hin__61 : ¬ (ii < 0 ∨ cl__61.slots.size ≤ (ii).toNatClampNeg) := inb_of S__61 hii
    have hat__61 : cl__61.slots[(ii).toNatClampNeg]? = some (.int (pl [(qa.toInt8.toInt32)] ii)) := H__61.at hin__61 (HI ii hii.1 hii.2)
    have pre_62 : Rch p.tables e below (s₁.setTop (entryFrame m #[(.int p0), (.int p1), (.int p2), (.int p3), (.int p4), (.int p5)] maxLocals)) (T_48.setTop (mkF m 84 #[.val (.int p0), .val (.int p1), .val (.int p2), .val (.int p3), .val (.int p4), .val (.int p5), .val (.int qa), .val (.int qb), .val (.int qc), .val (.int (1 : Int32)), .val (.ref a), .val (.ref r), .val (.int ii), .val (.int jj)] [(.int (pl [(qa.toInt8.toInt32)] ii))])) := fun tgt ktg => pre_60 tgt (X_48.baloadBooleans hx (j := ii) (v := (.int (pl [(qa.toInt8.toInt32)] ii))) Ar__61.1 (State.isArrayOf_alike hZ.alike Ar__61.2.1) Ar__61.2.2 hin__61 hat__61 (g := (mkF m 83 #[.val (.int p0), .val (.int p1), .val (.int p2), .val (.int p3), .val (.int p4), .val (.int p5), .val (.int qa), .val (.int qb), .val (.int qc), .val (.int (1 : Int32)), .val (.ref a), .val (.ref r), .val (.int ii), .val (.int jj)] [(.int ii), (.ref r)])) rfl rfl (hb hby at_83) _ ktg)
    have pre_63 : Rch p.tables e below (s₁.setTop (entryFrame m #[(.int p0), (.int p1), (.int p2), (.int p3), (.int p4), (.int p5)] maxLocals)) (T_48.setTop (mkF m 94 #[.val (.int p0), .val (.int p1), .val (.int p2), .val (.int p3), .val (.int p4), .val (.int p5), .val (.int qa), .val (.int qb), .val (.int qc), .val (.int (1 : Int32)), .val (.ref a), .val (.ref r), .val (.int ii), .val (.int jj)] [(.int qc), (.int qb), (.int qa), (.int (1 : Int32)), (.int ii), (.int (pl [(qa.toInt8.toInt32)] ii))])) := fun tgt ktg => pre_62 tgt (by
      show Steps p.tables e below (T_48.setTop (mkF m 84 #[.val (.int p0), .val (.int p1), .val (.int p2), .val (.int p3), .val (.int p4), .val (.int p5), .val (.int qa), .val (.int qb), .val (.int qc), .val (.int (1 : Int32)), .val (.ref a), .val (.ref r), .val (.int ii), .val (.int jj)] [(.int (pl [(qa.toInt8.toInt32)] ii))])) _
      refine XS.iload X_48.here hx rfl (hb hby at_84) rfl ?_
      show Steps p.tables e below (T_48.setTop (mkF m 86 #[.val (.int p0), .val (.int p1), .val (.int p2), .val (.int p3), .val (.int p4), .val (.int p5), .val (.int qa), .val (.int qb), .val (.int qc), .val (.int (1 : Int32)), .val (.ref a), .val (.ref r), .val (.int ii), .val (.int jj)] [(.int ii), (.int (pl [(qa.toInt8.toInt32)] ii))])) _
      refine XS.iload X_48.here hx rfl (hb hby at_86) rfl ?_
      show Steps p.tables e below (T_48.setTop (mkF m 88 #[.val (.int p0), .val (.int p1), .val (.int p2), .val (.int p3), .val (.int p4), .val (.int p5), .val (.int qa), .val (.int qb), .val (.int qc), .val (.int (1 : Int32)), .val (.ref a), .val (.ref r), .val (.int ii), .val (.int jj)] [(.int (1 : Int32)), (.int ii), (.int (pl [(qa.toInt8.toInt32)] ii))])) _
      refine XS.iload X_48.here hx rfl (hb hby at_88) rfl ?_
      show Steps p.tables e below (T_48.setTop (mkF m 90 #[.val (.int p0), .val (.int p1), .val (.int p2), .val (.int p3), .val (.int p4), .val (.int p5), .val (.int qa), .val (.int qb), .val (.int qc), .val (.int (1 : Int32)), .val (.ref a), .val (.ref r), .val (.int ii), .val (.int jj)] [(.int qa), (.int (1 : Int32)), (.int ii), (.int (pl [(qa.toInt8.toInt32)] ii))])) _
      refine XS.iload X_48.here hx rfl (hb hby at_90) rfl ?_
      show Steps p.tables e below (T_48.setTop (mkF m 92 #[.val (.int p0), .val (.int p1), .val (.int p2), .val (.int p3), .val (.int p4), .val (.int p5), .val (.int qa), .val (.int qb), .val (.int qc), .val (.int (1 : Int32)), .val (.ref a), .val (.ref r), .val (.int ii), .val (.int jj)] [(.int qb), (.int qa), (.int (1 : Int32)), (.int ii), (.int (pl [(qa.toInt8.toInt32)] ii))])) _
      refine XS.iload X_48.here hx rfl (hb hby at_92) rfl ?_
      exact ktg)
    obtain ⟨_, _, ⟨T_64, L_64, k_64, n_64⟩, -, X_64, ⟨Lc_64, hQ_64, l_64, y_64, z_64⟩, st_64⟩ := Jvm.LawKit.callS X_48 hx (y := (⟨"com/example/termwell/termwell/tables/XmlTextPlainAsciiPinLaw", "expected", "(IICCC)Z"⟩ : MethodName)) hown (mvT hZ (hw _ (List.mem_of_getElem? (i := 81) rfl))) (mvT hZ (hw _ (List.mem_of_getElem? (i := 82) rfl))) (mvT hZ (hw _ (List.mem_of_getElem? (i := 2) rfl))) (mvT hZ (hw _ (List.mem_of_getElem? (i := 83) rfl))) (by decide) (backOf (W := 1) (rmex1 l Z a0 hw [] ii qa qb qc T_48.heap n0 z_52) hZ (hw _ (List.mem_of_getElem? (i := 83) rfl)) (hw _ (List.mem_of_getElem? (i := 2) rfl)) (by decide) (by decide)) (g := (mkF m 94 #[.val (.int p0), .val (.int p1), .val (.int p2), .val (.int p3), .val (.int p4), .val (.int p5), .val (.int qa), .val (.int qb), .val (.int qc), .val (.int (1 : Int32)), .val (.ref a), .val (.ref r), .val (.int ii), .val (.int jj)] [(.int qc), (.int qb), (.int qa), (.int (1 : Int32)), (.int ii), (.int (pl [(qa.toInt8.toInt32)] ii))])) rfl (by rw [hml]; rfl) (argsL := [(.int ii), (.int (1 : Int32)), (.int qa), (.int qb), (.int qc)]) (rest := [(.int (pl [(qa.toInt8.toInt32)] ii))]) (lenOf pd_14 rfl) rfl (by show 2 * 0 + _ ≤ _; exact Nat.le_of_eq rfl) (hb hby at_94) (fun _ _ => ⟨rfl, rfl, (by decide : 4 + 0 ≤ _), (by decide : 134 + 0 ≤ _)⟩)
    dsimp only [Pt.U, Pt.locs, Pt.cells, Pt.slots] at X_64 l_64 y_64 z_64 st_64 hQ_64
    subst l_64 y_64 z_64
    obtain ⟨rfl, Nq_64, eh_64⟩ := hQ_64
    have N_65 := Fr.app N_49 Nq_64
    have pre_64 : Rch p.tables e below (s₁.setTop (entryFrame m #[(.int p0), (.int p1), (.int p2), (.int p3), (.int p4), (.int p5)] maxLocals)) (T_64.setTop (mkF m 97 #[.val (.int p0), .val (.int p1), .val (.int p2), .val (.int p3), .val (.int p4), .val (.int p5), .val (.int qa), .val (.int qb), .val (.int qc), .val (.int (1 : Int32)), .val (.ref a), .val (.ref r), .val (.int ii), .val (.int jj)] [(.int (exl [qa] ii)), (.int (pl [(qa.toInt8.toInt32)] ii))])) := fun tgt ktg => pre_63 tgt (st_64 tgt ktg)
    have pre_66 : Rch p.tables e below (s₁.setTop (entryFrame m #[(.int p0), (.int p1), (.int p2), (.int p3), (.int p4), (.int p5)] maxLocals)) (T_64.setTop (mkF m 104 #[.val (.int p0), .val (.int p1), .val (.int p2), .val (.int p3), .val (.int p4), .val (.int p5), .val (.int qa), .val (.int qb), .val (.int qc), .val (.int (1 : Int32)), .val (.ref a), .val (.ref r), .val (.int ii), .val (.int jj)] [(.int jj), (.ref r)])) := fun tgt ktg => pre_64 tgt (by
      show Steps p.tables e below (T_64.setTop (mkF m 97 #[.val (.int p0), .val (.int p1), .val (.int p2), .val (.int p3), .val (.int p4), .val (.int p5), .val (.int qa), .val (.int qb), .val (.int qc), .val (.int (1 : Int32)), .val (.ref a), .val (.ref r), .val (.int ii), .val (.int jj)] [(.int (exl [qa] ii)), (.int (pl [(qa.toInt8.toInt32)] ii))])) _
      refine XS.icmpNo X_64.here hx rfl (hb hby at_97) rfl (teq (own_plex [qa] (0 : Int32) hii hqs (by decide) (by rw [show (0 : Int32).toInt = 0 from by decide]; first | decide | (simp; done)) : pl [(qa.toInt8.toInt32)] ii = exl [qa] ii)).2 ?_
      show Steps p.tables e below (T_64.setTop (mkF m 100 #[.val (.int p0), .val (.int p1), .val (.int p2), .val (.int p3), .val (.int p4), .val (.int p5), .val (.int qa), .val (.int qb), .val (.int qc), .val (.int (1 : Int32)), .val (.ref a), .val (.ref r), .val (.int ii), .val (.int jj)] [])) _
      refine XS.aload X_64.here hx rfl (hb hby at_100) rfl rfl ?_
      show Steps p.tables e below (T_64.setTop (mkF m 102 #[.val (.int p0), .val (.int p1), .val (.int p2), .val (.int p3), .val (.int p4), .val (.int p5), .val (.int qa), .val (.int qb), .val (.int qc), .val (.int (1 : Int32)), .val (.ref a), .val (.ref r), .val (.int ii), .val (.int jj)] [(.ref r)])) _
      refine XS.iload X_64.here hx rfl (hb hby at_102) rfl ?_
      exact ktg)
    obtain ⟨cl__67, Ar__67, q__67, S__67, N__67, H__67, G__67⟩ := id AR
    have hin__67 : ¬ (jj < 0 ∨ cl__67.slots.size ≤ (jj).toNatClampNeg) := inb_of S__67 hjj
    have hat__67 : cl__67.slots[(jj).toNatClampNeg]? = some (.int (pl [(qa.toInt8.toInt32)] jj)) := H__67.at hin__67 (HI jj hjj.1 hjj.2)
    have pre_68 : Rch p.tables e below (s₁.setTop (entryFrame m #[(.int p0), (.int p1), (.int p2), (.int p3), (.int p4), (.int p5)] maxLocals)) (T_64.setTop (mkF m 105 #[.val (.int p0), .val (.int p1), .val (.int p2), .val (.int p3), .val (.int p4), .val (.int p5), .val (.int qa), .val (.int qb), .val (.int qc), .val (.int (1 : Int32)), .val (.ref a), .val (.ref r), .val (.int ii), .val (.int jj)] [(.int (pl [(qa.toInt8.toInt32)] jj))])) := fun tgt ktg => pre_66 tgt (X_64.baloadBooleans hx (j := jj) (v := (.int (pl [(qa.toInt8.toInt32)] jj))) (by rw [eh_64]; exact Ar__67.1) (State.isArrayOf_alike hZ.alike Ar__67.2.1) Ar__67.2.2 hin__67 hat__67 (g := (mkF m 104 #[.val (.int p0), .val (.int p1), .val (.int p2), .val (.int p3), .val (.int p4), .val (.int p5), .val (.int qa), .val (.int qb), .val (.int qc), .val (.int (1 : Int32)), .val (.ref a), .val (.ref r), .val (.int ii), .val (.int jj)] [(.int jj), (.ref r)])) rfl rfl (hb hby at_104) _ ktg)
    have pre_69 : Rch p.tables e below (s₁.setTop (entryFrame m #[(.int p0), (.int p1), (.int p2), (.int p3), (.int p4), (.int p5)] maxLocals)) (T_64.setTop (mkF m 115 #[.val (.int p0), .val (.int p1), .val (.int p2), .val (.int p3), .val (.int p4), .val (.int p5), .val (.int qa), .val (.int qb), .val (.int qc), .val (.int (1 : Int32)), .val (.ref a), .val (.ref r), .val (.int ii), .val (.int jj)] [(.int qc), (.int qb), (.int qa), (.int (1 : Int32)), (.int jj), (.int (pl [(qa.toInt8.toInt32)] jj))])) := fun tgt ktg => pre_68 tgt (by
      show Steps p.tables e below (T_64.setTop (mkF m 105 #[.val (.int p0), .val (.int p1), .val (.int p2), .val (.int p3), .val (.int p4), .val (.int p5), .val (.int qa), .val (.int qb), .val (.int qc), .val (.int (1 : Int32)), .val (.ref a), .val (.ref r), .val (.int ii), .val (.int jj)] [(.int (pl [(qa.toInt8.toInt32)] jj))])) _
      refine XS.iload X_64.here hx rfl (hb hby at_105) rfl ?_
      show Steps p.tables e below (T_64.setTop (mkF m 107 #[.val (.int p0), .val (.int p1), .val (.int p2), .val (.int p3), .val (.int p4), .val (.int p5), .val (.int qa), .val (.int qb), .val (.int qc), .val (.int (1 : Int32)), .val (.ref a), .val (.ref r), .val (.int ii), .val (.int jj)] [(.int jj), (.int (pl [(qa.toInt8.toInt32)] jj))])) _
      refine XS.iload X_64.here hx rfl (hb hby at_107) rfl ?_
      show Steps p.tables e below (T_64.setTop (mkF m 109 #[.val (.int p0), .val (.int p1), .val (.int p2), .val (.int p3), .val (.int p4), .val (.int p5), .val (.int qa), .val (.int qb), .val (.int qc), .val (.int (1 : Int32)), .val (.ref a), .val (.ref r), .val (.int ii), .val (.int jj)] [(.int (1 : Int32)), (.int jj), (.int (pl [(qa.toInt8.toInt32)] jj))])) _
      refine XS.iload X_64.here hx rfl (hb hby at_109) rfl ?_
      show Steps p.tables e below (T_64.setTop (mkF m 111 #[.val (.int p0), .val (.int p1), .val (.int p2), .val (.int p3), .val (.int p4), .val (.int p5), .val (.int qa), .val (.int qb), .val (.int qc), .val (.int (1 : Int32)), .val (.ref a), .val (.ref r), .val (.int ii), .val (.int jj)] [(.int qa), (.int (1 : Int32)), (.int jj), (.int (pl [(qa.toInt8.toInt32)] jj))])) _
      refine XS.iload X_64.here hx rfl (hb hby at_111) rfl ?_
      show Steps p.tables e below (T_64.setTop (mkF m 113 #[.val (.int p0), .val (.int p1), .val (.int p2), .val (.int p3), .val (.int p4), .val (.int p5), .val (.int qa), .val (.int qb), .val (.int qc), .val (.int (1 : Int32)), .val (.ref a), .val (.ref r), .val (.int ii), .val (.int jj)] [(.int qb), (.int qa), (.int (1 : Int32)), (.int jj), (.int (pl [(qa.toInt8.toInt32)] jj))])) _
      refine XS.iload X_64.here hx rfl (hb hby at_113) rfl ?_
      exact ktg)
    obtain ⟨_, _, ⟨T_70, L_70, k_70, n_70⟩, -, X_70, ⟨Lc_70, hQ_70, l_70, y_70, z_70⟩, st_70⟩ := Jvm.LawKit.callS X_64 hx (y := (⟨"com/example/termwell/termwell/tables/XmlTextPlainAsciiPinLaw", "expected", "(IICCC)Z"⟩ : MethodName)) hown (mvT hZ (hw _ (List.mem_of_getElem? (i := 81) rfl))) (mvT hZ (hw _ (List.mem_of_getElem? (i := 82) rfl))) (mvT hZ (hw _ (List.mem_of_getElem? (i := 2) rfl))) (mvT hZ (hw _ (List.mem_of_getElem? (i := 83) rfl))) (by decide) (backOf (W := 1) (rmex1 l Z a0 hw [] jj qa qb qc T_48.heap n0 z_52) hZ (hw _ (List.mem_of_getElem? (i := 83) rfl)) (hw _ (List.mem_of_getElem? (i := 2) rfl)) (by decide) (by decide)) (g := (mkF m 115 #[.val (.int p0), .val (.int p1), .val (.int p2), .val (.int p3), .val (.int p4), .val (.int p5), .val (.int qa), .val (.int qb), .val (.int qc), .val (.int (1 : Int32)), .val (.ref a), .val (.ref r), .val (.int ii), .val (.int jj)] [(.int qc), (.int qb), (.int qa), (.int (1 : Int32)), (.int jj), (.int (pl [(qa.toInt8.toInt32)] jj))])) rfl (by rw [hml]; rfl) (argsL := [(.int jj), (.int (1 : Int32)), (.int qa), (.int qb), (.int qc)]) (rest := [(.int (pl [(qa.toInt8.toInt32)] jj))]) (lenOf pd_14 rfl) rfl (by show 2 * 0 + _ ≤ _; exact Nat.le_of_eq rfl) (hb hby at_115) (fun _ _ => ⟨rfl, eh_64, (by decide : 4 + 0 ≤ _), (by decide : 134 + 0 ≤ _)⟩)
    dsimp only [Pt.U, Pt.locs, Pt.cells, Pt.slots] at X_70 l_70 y_70 z_70 st_70 hQ_70
    subst l_70 y_70 z_70
    obtain ⟨rfl, Nq_70, eh_70⟩ := hQ_70
    have N_71 := Fr.app N_65 Nq_70
    have pre_70 : Rch p.tables e below (s₁.setTop (entryFrame m #[(.int p0), (.int p1), (.int p2), (.int p3), (.int p4), (.int p5)] maxLocals)) (T_70.setTop (mkF m 118 #[.val (.int p0), .val (.int p1), .val (.int p2), .val (.int p3), .val (.int p4), .val (.int p5), .val (.int qa), .val (.int qb), .val (.int qc), .val (.int (1 : Int32)), .val (.ref a), .val (.ref r), .val (.int ii), .val (.int jj)] [(.int (exl [qa] jj)), (.int (pl [(qa.toInt8.toInt32)] jj))])) := fun tgt ktg => pre_69 tgt (st_70 tgt ktg)
    have pre_72 : Rch p.tables e below (s₁.setTop (entryFrame m #[(.int p0), (.int p1), (.int p2), (.int p3), (.int p4), (.int p5)] maxLocals)) (T_70.setTop (mkF m 126 #[.val (.int p0), .val (.int p1), .val (.int p2), .val (.int p3), .val (.int p4), .val (.int p5), .val (.int qa), .val (.int qb), .val (.int qc), .val (.int (1 : Int32)), .val (.ref a), .val (.ref r), .val (.int ii), .val (.int jj)] [(.int (1 : Int32))])) := fun tgt ktg => pre_70 tgt (by
      show Steps p.tables e below (T_70.setTop (mkF m 118 #[.val (.int p0), .val (.int p1), .val (.int p2), .val (.int p3), .val (.int p4), .val (.int p5), .val (.int qa), .val (.int qb), .val (.int qc), .val (.int (1 : Int32)), .val (.ref a), .val (.ref r), .val (.int ii), .val (.int jj)] [(.int (exl [qa] jj)), (.int (pl [(qa.toInt8.toInt32)] jj))])) _
      refine XS.icmpNo X_70.here hx rfl (hb hby at_118) rfl (teq (own_plex [qa] (0 : Int32) hjj hqs (by decide) (by rw [show (0 : Int32).toInt = 0 from by decide]; first | decide | (simp; done)) : pl [(qa.toInt8.toInt32)] jj = exl [qa] jj)).2 ?_
      show Steps p.tables e below (T_70.setTop (mkF m 121 #[.val (.int p0), .val (.int p1), .val (.int p2), .val (.int p3), .val (.int p4), .val (.int p5), .val (.int qa), .val (.int qb), .val (.int qc), .val (.int (1 : Int32)), .val (.ref a), .val (.ref r), .val (.int ii), .val (.int jj)] [])) _
      refine XS.iconst X_70.here hx rfl (hb hby at_121) ?_
      show Steps p.tables e below (T_70.setTop (mkF m 122 #[.val (.int p0), .val (.int p1), .val (.int p2), .val (.int p3), .val (.int p4), .val (.int p5), .val (.int qa), .val (.int qb), .val (.int qc), .val (.int (1 : Int32)), .val (.ref a), .val (.ref r), .val (.int ii), .val (.int jj)] [(.int (1 : Int32))])) _
      refine XS.goto X_70.here hx rfl (pc0 := 122) (pc' := 126) rfl (hb hby at_122) (by decide) (by decide) ?_
      exact ktg)
    obtain ⟨fs, hr, hrun, hended, hW⟩ := X_70.leaveW hS0 (by rw [eh_70]; exact hk_50) (v := some (.int (1 : Int32))) (fun h => by rw [Bd.returns] at h; cases h)
    refine ⟨_, _, pre_72 _ ?_, hrun, hended, _, _, rfl, ?_, ?_, hW.1, hW.2.1, hW.2.2.1, hW.2.2.2.mono (by decide) (by decide)⟩
    · show Steps p.tables e below (T_70.setTop (mkF m 126 #[.val (.int p0), .val (.int p1), .val (.int p2), .val (.int p3), .val (.int p4), .val (.int p5), .val (.int qa), .val (.int qb), .val (.int qc), .val (.int (1 : Int32)), .val (.ref a), .val (.ref r), .val (.int ii), .val (.int jj)] [(.int (1 : Int32))])) _
      exact retN X_70 hx (t := .boolean) Bd.returns (by simp) (hb hby at_126) hr
    · show Q0 Z p0 p1 p2 p3 p4 p5 h0 n0 _ T_70.heap _
      rw [eh_70]
      exact ⟨rfl, N_71⟩
    · show CHr Z consts_1 s.vm s.heap T_70.vm T_70.heap
      rw [hh, eh_70]
      exact C_50.trans (CHv.at X_70 hZ hEL C_50.1)
  · skip
    subst r2
    have pre_73 : Rch p.tables e below (s₁.setTop (entryFrame m #[(.int p0), (.int p1), (.int p2), (.int p3), (.int p4), (.int p5)] maxLocals)) (s₁.setTop (mkF m 37 #[.val (.int p0), .val (.int p1), .val (.int p2), .val (.int p3), .val (.int p4), .val (.int p5), .val (.int qa), .val (.int qb), .val (.int qc), .val (.int (2 : Int32)), .unset, .unset, .unset, .unset] [(.int qc), (.int qb), (.int qa), (.int (2 : Int32))])) := fun tgt ktg => pre_8 tgt (by
      show Steps p.tables e below (s₁.setTop (mkF m 27 #[.val (.int p0), .val (.int p1), .val (.int p2), .val (.int p3), .val (.int p4), .val (.int p5), .val (.int qa), .val (.int qb), .val (.int qc), .unset, .unset, .unset, .unset, .unset] [(.int (2 : Int32))])) _
      refine XS.istore X0.here hx rfl (hb hby at_27) rfl (l' := #[.val (.int p0), .val (.int p1), .val (.int p2), .val (.int p3), .val (.int p4), .val (.int p5), .val (.int qa), .val (.int qb), .val (.int qc), .val (.int (2 : Int32)), .unset, .unset, .unset, .unset]) rfl ?_
      show Steps p.tables e below (s₁.setTop (mkF m 29 #[.val (.int p0), .val (.int p1), .val (.int p2), .val (.int p3), .val (.int p4), .val (.int p5), .val (.int qa), .val (.int qb), .val (.int qc), .val (.int (2 : Int32)), .unset, .unset, .unset, .unset] [])) _
      refine XS.iload X0.here hx rfl (hb hby at_29) rfl ?_
      show Steps p.tables e below (s₁.setTop (mkF m 31 #[.val (.int p0), .val (.int p1), .val (.int p2), .val (.int p3), .val (.int p4), .val (.int p5), .val (.int qa), .val (.int qb), .val (.int qc), .val (.int (2 : Int32)), .unset, .unset, .unset, .unset] [(.int (2 : Int32))])) _
      refine XS.iload X0.here hx rfl (hb hby at_31) rfl ?_
      show Steps p.tables e below (s₁.setTop (mkF m 33 #[.val (.int p0), .val (.int p1), .val (.int p2), .val (.int p3), .val (.int p4), .val (.int p5), .val (.int qa), .val (.int qb), .val (.int qc), .val (.int (2 : Int32)), .unset, .unset, .unset, .unset] [(.int qa), (.int (2 : Int32))])) _
      refine XS.iload X0.here hx rfl (hb hby at_33) rfl ?_
      show Steps p.tables e below (s₁.setTop (mkF m 35 #[.val (.int p0), .val (.int p1), .val (.int p2), .val (.int p3), .val (.int p4), .val (.int p5), .val (.int qa), .val (.int qb), .val (.int qc), .val (.int (2 : Int32)), .unset, .unset, .unset, .unset] [(.int qb), (.int qa), (.int (2 : Int32))])) _
      refine XS.iload X0.here hx rfl (hb hby at_35) rfl ?_
      exact ktg)
    obtain ⟨_, _, ⟨T_74, L_74, k_74, n_74⟩, -, X_74, ⟨Lc_74, hQ_74, l_74, y_74, z_74⟩, st_74⟩ := Jvm.LawKit.callS X0 hx (y := (⟨"com/example/termwell/termwell/tables/XmlTextPlainAsciiPinLaw", "make", "(ICCC)Ljava/lang/String;"⟩ : MethodName)) hown (mvT hZ (hw _ (List.mem_of_getElem? (i := 0) rfl))) (mvT hZ (hw _ (List.mem_of_getElem? (i := 1) rfl))) (mvT hZ (hw _ (List.mem_of_getElem? (i := 2) rfl))) (mvT hZ (hw _ (List.mem_of_getElem? (i := 3) rfl))) (by decide) (backOf (W := 0) (rmmk2 l Z a0 hw [] qa qb qc h0 n0 Z0 cs hcs S1 hqa0 hqa hqb0 hqb) hZ (hw _ (List.mem_of_getElem? (i := 3) rfl)) (hw _ (List.mem_of_getElem? (i := 2) rfl)) (by decide) (by decide)) (g := (mkF m 37 #[.val (.int p0), .val (.int p1), .val (.int p2), .val (.int p3), .val (.int p4), .val (.int p5), .val (.int qa), .val (.int qb), .val (.int qc), .val (.int (2 : Int32)), .unset, .unset, .unset, .unset] [(.int qc), (.int qb), (.int qa), (.int (2 : Int32))])) rfl (by rw [hml]; rfl) (argsL := [(.int (2 : Int32)), (.int qa), (.int qb), (.int qc)]) (rest := []) (lenOf pd_12 rfl) rfl (by show 2 * 0 + _ ≤ _; exact Nat.le_of_eq rfl) (hb hby at_37) (fun _ _ => ⟨rfl, e0, (by decide : 0 + 3 ≤ _), (by decide : 0 + 8 ≤ _)⟩)
    dsimp only [Pt.U, Pt.locs, Pt.cells, Pt.slots] at X_74 l_74 y_74 z_74 st_74 hQ_74
    subst l_74 y_74 z_74
    obtain ⟨a, b, kb, rfl, Nq_74, Kq_74, b1, b2, b3, b4⟩ := hQ_74
    have N_75 := Fr.app N0 Nq_74
    have pre_74 : Rch p.tables e below (s₁.setTop (entryFrame m #[(.int p0), (.int p1), (.int p2), (.int p3), (.int p4), (.int p5)] maxLocals)) (T_74.setTop (mkF m 40 #[.val (.int p0), .val (.int p1), .val (.int p2), .val (.int p3), .val (.int p4), .val (.int p5), .val (.int qa), .val (.int qb), .val (.int qc), .val (.int (2 : Int32)), .unset, .unset, .unset, .unset] [(.ref a)])) := fun tgt ktg => pre_73 tgt (st_74 tgt ktg)
    have C_76 : CHr Z consts_1 s.vm h0 s.vm T_74.heap := C0.trans (CHr.keep Kq_74 sf0 C0.1)
    have hk_76 := Nat.le_trans hk0 Kq_74.1
    have f_77 : Sta Z T_74.heap "java/lang/String" "COMPACT_STRINGS" "Z" (.int cs) := own_sta_keep S1 Kq_74 ns0
    have z_78 : n0 ≤ T_74.heap.size := Nat.le_trans Z0 Kq_74.1
    have pre_79 : Rch p.tables e below (s₁.setTop (entryFrame m #[(.int p0), (.int p1), (.int p2), (.int p3), (.int p4), (.int p5)] maxLocals)) (T_74.setTop (mkF m 44 #[.val (.int p0), .val (.int p1), .val (.int p2), .val (.int p3), .val (.int p4), .val (.int p5), .val (.int qa), .val (.int qb), .val (.int qc), .val (.int (2 : Int32)), .val (.ref a), .unset, .unset, .unset] [(.ref a)])) := fun tgt ktg => pre_74 tgt (by
      show Steps p.tables e below (T_74.setTop (mkF m 40 #[.val (.int p0), .val (.int p1), .val (.int p2), .val (.int p3), .val (.int p4), .val (.int p5), .val (.int qa), .val (.int qb), .val (.int qc), .val (.int (2 : Int32)), .unset, .unset, .unset, .unset] [(.ref a)])) _
      refine XS.astore X_74.here hx rfl (hb hby at_40) rfl rfl (l' := #[.val (.int p0), .val (.int p1), .val (.int p2), .val (.int p3), .val (.int p4), .val (.int p5), .val (.int qa), .val (.int qb), .val (.int qc), .val (.int (2 : Int32)), .val (.ref a), .unset, .unset, .unset]) rfl ?_
      show Steps p.tables e below (T_74.setTop (mkF m 42 #[.val (.int p0), .val (.int p1), .val (.int p2), .val (.int p3), .val (.int p4), .val (.int p5), .val (.int qa), .val (.int qb), .val (.int qc), .val (.int (2 : Int32)), .val (.ref a), .unset, .unset, .unset] [])) _
      refine XS.aload X_74.here hx rfl (hb hby at_42) rfl rfl ?_
      exact ktg)
    obtain ⟨_, _, ⟨T_80, L_80, k_80, n_80⟩, -, X_80, ⟨Lc_80, hQ_80, l_80, y_80, z_80⟩, st_80⟩ := Jvm.LawKit.callS X_74 hx (y := (⟨"com/example/termwell/termwell/tables/XmlText", "plainAscii", "(Ljava/lang/String;)[Z"⟩ : MethodName)) hown (mvT hZ (hw _ (List.mem_of_getElem? (i := 34) rfl))) (mvT hZ (hw _ (List.mem_of_getElem? (i := 35) rfl))) (mvT hZ (hw _ (List.mem_of_getElem? (i := 36) rfl))) (mvT hZ (hw _ (List.mem_of_getElem? (i := 37) rfl))) (by decide) (backOf (W := 0) (rmpa2 l Z a0 hw [] a (qa.toInt8.toInt32) (qb.toInt8.toInt32) b kb T_74.heap n0 z_78 b1 b2 b3 b4 cs hcs f_77) hZ (hw _ (List.mem_of_getElem? (i := 37) rfl)) (hw _ (List.mem_of_getElem? (i := 36) rfl)) (by decide) (by decide)) (g := (mkF m 44 #[.val (.int p0), .val (.int p1), .val (.int p2), .val (.int p3), .val (.int p4), .val (.int p5), .val (.int qa), .val (.int qb), .val (.int qc), .val (.int (2 : Int32)), .val (.ref a), .unset, .unset, .unset] [(.ref a)])) rfl (by rw [hml]; rfl) (argsL := [(.ref a)]) (rest := []) (lenOf pd_13 rfl) rfl (by show 2 * 0 + _ ≤ _; exact Nat.le_of_eq rfl) (hb hby at_44) (fun _ _ => ⟨rfl, rfl, (by decide : 3 + 1 ≤ _), (by decide : 8 + 128 ≤ _)⟩)
    dsimp only [Pt.U, Pt.locs, Pt.cells, Pt.slots] at X_80 l_80 y_80 z_80 st_80 hQ_80
    subst l_80 y_80 z_80
    obtain ⟨r, kr, rfl, Nq_80, Kq_80, us, AR, hus, HI⟩ := hQ_80
    have N_81 := Fr.app N_75 Nq_80
    have pre_80 : Rch p.tables e below (s₁.setTop (entryFrame m #[(.int p0), (.int p1), (.int p2), (.int p3), (.int p4), (.int p5)] maxLocals)) (T_80.setTop (mkF m 47 #[.val (.int p0), .val (.int p1), .val (.int p2), .val (.int p3), .val (.int p4), .val (.int p5), .val (.int qa), .val (.int qb), .val (.int qc), .val (.int (2 : Int32)), .val (.ref a), .unset, .unset, .unset] [(.ref r)])) := fun tgt ktg => pre_79 tgt (st_80 tgt ktg)
    have C_82 : CHr Z consts_1 s.vm h0 s.vm T_80.heap := C_76.trans (CHr.keep Kq_80 sf0 C_76.1)
    have hk_82 := Nat.le_trans hk_76 Kq_80.1
    have f_83 : Sta Z T_80.heap "java/lang/String" "COMPACT_STRINGS" "Z" (.int cs) := own_sta_keep f_77 Kq_80 ns0
    have z_84 : n0 ≤ T_80.heap.size := Nat.le_trans z_78 Kq_80.1
    have pre_85 : Rch p.tables e below (s₁.setTop (entryFrame m #[(.int p0), (.int p1), (.int p2), (.int p3), (.int p4), (.int p5)] maxLocals)) (T_80.setTop (mkF m 56 #[.val (.int p0), .val (.int p1), .val (.int p2), .val (.int p3), .val (.int p4), .val (.int p5), .val (.int qa), .val (.int qb), .val (.int qc), .val (.int (2 : Int32)), .val (.ref a), .val (.ref r), .unset, .unset] [(.ref r)])) := fun tgt ktg => pre_80 tgt (by
      show Steps p.tables e below (T_80.setTop (mkF m 47 #[.val (.int p0), .val (.int p1), .val (.int p2), .val (.int p3), .val (.int p4), .val (.int p5), .val (.int qa), .val (.int qb), .val (.int qc), .val (.int (2 : Int32)), .val (.ref a), .unset, .unset, .unset] [(.ref r)])) _
      refine XS.astore X_80.here hx rfl (hb hby at_47) rfl rfl (l' := #[.val (.int p0), .val (.int p1), .val (.int p2), .val (.int p3), .val (.int p4), .val (.int p5), .val (.int qa), .val (.int qb), .val (.int qc), .val (.int (2 : Int32)), .val (.ref a), .val (.ref r), .unset, .unset]) rfl ?_
      show Steps p.tables e below (T_80.setTop (mkF m 49 #[.val (.int p0), .val (.int p1), .val (.int p2), .val (.int p3), .val (.int p4), .val (.int p5), .val (.int qa), .val (.int qb), .val (.int qc), .val (.int (2 : Int32)), .val (.ref a), .val (.ref r), .unset, .unset] [])) _
      refine XS.aload X_80.here hx rfl (hb hby at_49) rfl rfl ?_
      show Steps p.tables e below (T_80.setTop (mkF m 51 #[.val (.int p0), .val (.int p1), .val (.int p2), .val (.int p3), .val (.int p4), .val (.int p5), .val (.int qa), .val (.int qb), .val (.int qc), .val (.int (2 : Int32)), .val (.ref a), .val (.ref r), .unset, .unset] [(.ref r)])) _
      refine XS.ifnullNo X_80.here hx rfl (hb hby at_51) rfl ?_
      show Steps p.tables e below (T_80.setTop (mkF m 54 #[.val (.int p0), .val (.int p1), .val (.int p2), .val (.int p3), .val (.int p4), .val (.int p5), .val (.int qa), .val (.int qb), .val (.int qc), .val (.int (2 : Int32)), .val (.ref a), .val (.ref r), .unset, .unset] [])) _
      refine XS.aload X_80.here hx rfl (hb hby at_54) rfl rfl ?_
      exact ktg)
    obtain ⟨cl__86, Ar__86, q__86, S__86, N__86, H__86, G__86⟩ := id AR
    have pre_87 : Rch p.tables e below (s₁.setTop (entryFrame m #[(.int p0), (.int p1), (.int p2), (.int p3), (.int p4), (.int p5)] maxLocals)) (T_80.setTop (mkF m 57 #[.val (.int p0), .val (.int p1), .val (.int p2), .val (.int p3), .val (.int p4), .val (.int p5), .val (.int qa), .val (.int qb), .val (.int qc), .val (.int (2 : Int32)), .val (.ref a), .val (.ref r), .unset, .unset] [(.int (128 : Int32))])) := fun tgt ktg => pre_85 tgt (X_80.arraylength hx Ar__86.1 (State.isArrayOf_alike hZ.alike Ar__86.2.1) (g := (mkF m 56 #[.val (.int p0), .val (.int p1), .val (.int p2), .val (.int p3), .val (.int p4), .val (.int p5), .val (.int qa), .val (.int qb), .val (.int qc), .val (.int (2 : Int32)), .val (.ref a), .val (.ref r), .unset, .unset] [(.ref r)])) rfl rfl (hb hby at_56) _ (by rw [len_of S__86 N__86]; exact ktg))
    have pre_88 : Rch p.tables e below (s₁.setTop (entryFrame m #[(.int p0), (.int p1), (.int p2), (.int p3), (.int p4), (.int p5)] maxLocals)) (T_80.setTop (mkF m 70 #[.val (.int p0), .val (.int p1), .val (.int p2), .val (.int p3), .val (.int p4), .val (.int p5), .val (.int qa), .val (.int qb), .val (.int qc), .val (.int (2 : Int32)), .val (.ref a), .val (.ref r), .unset, .unset] [(.int (p4 &&& (127 : Int32)))])) := fun tgt ktg => pre_87 tgt (by
      show Steps p.tables e below (T_80.setTop (mkF m 57 #[.val (.int p0), .val (.int p1), .val (.int p2), .val (.int p3), .val (.int p4), .val (.int p5), .val (.int qa), .val (.int qb), .val (.int qc), .val (.int (2 : Int32)), .val (.ref a), .val (.ref r), .unset, .unset] [(.int (128 : Int32))])) _
      refine XS.sipush X_80.here hx rfl (hb hby at_57) ?_
      show Steps p.tables e below (T_80.setTop (mkF m 60 #[.val (.int p0), .val (.int p1), .val (.int p2), .val (.int p3), .val (.int p4), .val (.int p5), .val (.int qa), .val (.int qb), .val (.int qc), .val (.int (2 : Int32)), .val (.ref a), .val (.ref r), .unset, .unset] [(.int (128 : Int32)), (.int (128 : Int32))])) _
      refine XS.icmpYes X_80.here hx rfl (pc0 := 60) (pc' := 65) rfl (hb hby at_60) rfl (teq (rfl : (128 : Int32) = (128 : Int32))).1 (by decide) (by decide) ?_
      show Steps p.tables e below (T_80.setTop (mkF m 65 #[.val (.int p0), .val (.int p1), .val (.int p2), .val (.int p3), .val (.int p4), .val (.int p5), .val (.int qa), .val (.int qb), .val (.int qc), .val (.int (2 : Int32)), .val (.ref a), .val (.ref r), .unset, .unset] [])) _
      refine XS.iload X_80.here hx rfl (hb hby at_65) rfl ?_
      show Steps p.tables e below (T_80.setTop (mkF m 67 #[.val (.int p0), .val (.int p1), .val (.int p2), .val (.int p3), .val (.int p4), .val (.int p5), .val (.int qa), .val (.int qb), .val (.int qc), .val (.int (2 : Int32)), .val (.ref a), .val (.ref r), .unset, .unset] [(.int p4)])) _
      refine XS.bipush X_80.here hx rfl (hb hby at_67) ?_
      show Steps p.tables e below (T_80.setTop (mkF m 69 #[.val (.int p0), .val (.int p1), .val (.int p2), .val (.int p3), .val (.int p4), .val (.int p5), .val (.int qa), .val (.int qb), .val (.int qc), .val (.int (2 : Int32)), .val (.ref a), .val (.ref r), .unset, .unset] [(.int (127 : Int32)), (.int p4)])) _
      refine XS.iand X_80.here hx rfl (hb hby at_69) rfl ?_
      exact ktg)
    obtain ⟨ii, hv_ii⟩ : ∃ nm_ : Int32, nm_ = (p4 &&& (127 : Int32)) := ⟨_, rfl⟩
    have pre_89 : Rch p.tables e below (s₁.setTop (entryFrame m #[(.int p0), (.int p1), (.int p2), (.int p3), (.int p4), (.int p5)] maxLocals)) (T_80.setTop (mkF m 70 #[.val (.int p0), .val (.int p1), .val (.int p2), .val (.int p3), .val (.int p4), .val (.int p5), .val (.int qa), .val (.int qb), .val (.int qc), .val (.int (2 : Int32)), .val (.ref a), .val (.ref r), .unset, .unset] [(.int ii)])) := fun tgt ktg => pre_88 tgt (by rw [hv_ii] at ktg; exact ktg)
    have pre_90 : Rch p.tables e below (s₁.setTop (entryFrame m #[(.int p0), (.int p1), (.int p2), (.int p3), (.int p4), (.int p5)] maxLocals)) (T_80.setTop (mkF m 77 #[.val (.int p0), .val (.int p1), .val (.int p2), .val (.int p3), .val (.int p4), .val (.int p5), .val (.int qa), .val (.int qb), .val (.int qc), .val (.int (2 : Int32)), .val (.ref a), .val (.ref r), .val (.int ii), .unset] [(.int (p5 &&& (127 : Int32)))])) := fun tgt ktg => pre_89 tgt (by
      show Steps p.tables e below (T_80.setTop (mkF m 70 #[.val (.int p0), .val (.int p1), .val (.int p2), .val (.int p3), .val (.int p4), .val (.int p5), .val (.int qa), .val (.int qb), .val (.int qc), .val (.int (2 : Int32)), .val (.ref a), .val (.ref r), .unset, .unset] [(.int ii)])) _
      refine XS.istore X_80.here hx rfl (hb hby at_70) rfl (l' := #[.val (.int p0), .val (.int p1), .val (.int p2), .val (.int p3), .val (.int p4), .val (.int p5), .val (.int qa), .val (.int qb), .val (.int qc), .val (.int (2 : Int32)), .val (.ref a), .val (.ref r), .val (.int ii), .unset]) rfl ?_
      show Steps p.tables e below (T_80.setTop (mkF m 72 #[.val (.int p0), .val (.int p1), .val (.int p2), .val (.int p3), .val (.int p4), .val (.int p5), .val (.int qa), .val (.int qb), .val (.int qc), .val (.int (2 : Int32)), .val (.ref a), .val (.ref r), .val (.int ii), .unset] [])) _
      refine XS.iload X_80.here hx rfl (hb hby at_72) rfl ?_
      show Steps p.tables e below (T_80.setTop (mkF m 74 #[.val (.int p0), .val (.int p1), .val (.int p2), .val (.int p3), .val (.int p4), .val (.int p5), .val (.int qa), .val (.int qb), .val (.int qc), .val (.int (2 : Int32)), .val (.ref a), .val (.ref r), .val (.int ii), .unset] [(.int p5)])) _
      refine XS.bipush X_80.here hx rfl (hb hby at_74) ?_
      show Steps p.tables e below (T_80.setTop (mkF m 76 #[.val (.int p0), .val (.int p1), .val (.int p2), .val (.int p3), .val (.int p4), .val (.int p5), .val (.int qa), .val (.int qb), .val (.int qc), .val (.int (2 : Int32)), .val (.ref a), .val (.ref r), .val (.int ii), .unset] [(.int (127 : Int32)), (.int p5)])) _
      refine XS.iand X_80.here hx rfl (hb hby at_76) rfl ?_
      exact ktg)
    obtain ⟨jj, hv_jj⟩ : ∃ nm_ : Int32, nm_ = (p5 &&& (127 : Int32)) := ⟨_, rfl⟩
    have pre_91 : Rch p.tables e below (s₁.setTop (entryFrame m #[(.int p0), (.int p1), (.int p2), (.int p3), (.int p4), (.int p5)] maxLocals)) (T_80.setTop (mkF m 77 #[.val (.int p0), .val (.int p1), .val (.int p2), .val (.int p3), .val (.int p4), .val (.int p5), .val (.int qa), .val (.int qb), .val (.int qc), .val (.int (2 : Int32)), .val (.ref a), .val (.ref r), .val (.int ii), .unset] [(.int jj)])) := fun tgt ktg => pre_90 tgt (by rw [hv_jj] at ktg; exact ktg)
    have hii := own_i127 hv_ii
    have hjj := own_i127 hv_jj
    have hqs : ∀ q ∈ ([qa, qb] : List Int32), ¬ q < 0 ∧ ¬ (255 : Int32) < q := by
          intro q hq; simp only [List.mem_cons, List.not_mem_nil, or_false] at hq
          rcases hq with rfl | rfl
          · exact ⟨hqa0, hqa⟩
          · exact ⟨hqb0, hqb⟩
    have pre_92 : Rch p.tables e below (s₁.setTop (entryFrame m #[(.int p0), (.int p1), (.int p2), (.int p3), (.int p4), (.int p5)] maxLocals)) (T_80.setTop (mkF m 83 #[.val (.int p0), .val (.int p1), .val (.int p2), .val (.int p3), .val (.int p4), .val (.int p5), .val (.int qa), .val (.int qb), .val (.int qc), .val (.int (2 : Int32)), .val (.ref a), .val (.ref r), .val (.int ii), .val (.int jj)] [(.int ii), (.ref r)])) := fun tgt ktg => pre_91 tgt (by
      show Steps p.tables e below (T_80.setTop (mkF m 77 #[.val (.int p0), .val (.int p1), .val (.int p2), .val (.int p3), .val (.int p4), .val (.int p5), .val (.int qa), .val (.int qb), .val (.int qc), .val (.int (2 : Int32)), .val (.ref a), .val (.ref r), .val (.int ii), .unset] [(.int jj)])) _
      refine XS.istore X_80.here hx rfl (hb hby at_77) rfl (l' := #[.val (.int p0), .val (.int p1), .val (.int p2), .val (.int p3), .val (.int p4), .val (.int p5), .val (.int qa), .val (.int qb), .val (.int qc), .val (.int (2 : Int32)), .val (.ref a), .val (.ref r), .val (.int ii), .val (.int jj)]) rfl ?_
      show Steps p.tables e below (T_80.setTop (mkF m 79 #[.val (.int p0), .val (.int p1), .val (.int p2), .val (.int p3), .val (.int p4), .val (.int p5), .val (.int qa), .val (.int qb), .val (.int qc), .val (.int (2 : Int32)), .val (.ref a), .val (.ref r), .val (.int ii), .val (.int jj)] [])) _
      refine XS.aload X_80.here hx rfl (hb hby at_79) rfl rfl ?_
      show Steps p.tables e below (T_80.setTop (mkF m 81 #[.val (.int p0), .val (.int p1), .val (.int p2), .val (.int p3), .val (.int p4), .val (.int p5), .val (.int qa), .val (.int qb), .val (.int qc), .val (.int (2 : Int32)), .val (.ref a), .val (.ref r), .val (.int ii), .val (.int jj)] [(.ref r)])) _
      refine XS.iload X_80.here hx rfl (hb hby at_81) rfl ?_
      exact ktg)
    obtain ⟨cl__93, Ar__93, q__93, S__93, N__93, H__93, G__93⟩ := id AR
    have hin__93 : ¬ (ii < 0 ∨ cl__93.slots.size ≤ (ii).toNatClampNeg) := inb_of S__93 hii
    have hat__93 : cl__93.slots[(ii).toNatClampNeg]? = some (.int (pl [(qa.toInt8.toInt32), (qb.toInt8.toInt32)] ii)) := H__93.at hin__93 (HI ii hii.1 hii.2)
    have pre_94 : Rch p.tables e below (s₁.setTop (entryFrame m #[(.int p0), (.int p1), (.int p2), (.int p3), (.int p4), (.int p5)] maxLocals)) (T_80.setTop (mkF m 84 #[.val (.int p0), .val (.int p1), .val (.int p2), .val (.int p3), .val (.int p4), .val (.int p5), .val (.int qa), .val (.int qb), .val (.int qc), .val (.int (2 : Int32)), .val (.ref a), .val (.ref r), .val (.int ii), .val (.int jj)] [(.int (pl [(qa.toInt8.toInt32), (qb.toInt8.toInt32)] ii))])) := fun tgt ktg => pre_92 tgt (X_80.baloadBooleans hx (j := ii) (v := (.int (pl [(qa.toInt8.toInt32), (qb.toInt8.toInt32)] ii))) Ar__93.1 (State.isArrayOf_alike hZ.alike Ar__93.2.1) Ar__93.2.2 hin__93 hat__93 (g := (mkF m 83 #[.val (.int p0), .val (.int p1), .val (.int p2), .val (.int p3), .val (.int p4), .val (.int p5), .val (.int qa), .val (.int qb), .val (.int qc), .val (.int (2 : Int32)), .val (.ref a), .val (.ref r), .val (.int ii), .val (.int jj)] [(.int ii), (.ref r)])) rfl rfl (hb hby at_83) _ ktg)
    have pre_95 : Rch p.tables e below (s₁.setTop (entryFrame m #[(.int p0), (.int p1), (.int p2), (.int p3), (.int p4), (.int p5)] maxLocals)) (T_80.setTop (mkF m 94 #[.val (.int p0), .val (.int p1), .val (.int p2), .val (.int p3), .val (.int p4), .val (.int p5), .val (.int qa), .val (.int qb), .val (.int qc), .val (.int (2 : Int32)), .val (.ref a), .val (.ref r), .val (.int ii), .val (.int jj)] [(.int qc), (.int qb), (.int qa), (.int (2 : Int32)), (.int ii), (.int (pl [(qa.toInt8.toInt32), (qb.toInt8.toInt32)] ii))])) := fun tgt ktg => pre_94 tgt (by
      show Steps p.tables e below (T_80.setTop (mkF m 84 #[.val (.int p0), .val (.int p1), .val (.int p2), .val (.int p3), .val (.int p4), .val (.int p5), .val (.int qa), .val (.int qb), .val (.int qc), .val (.int (2 : Int32)), .val (.ref a), .val (.ref r), .val (.int ii), .val (.int jj)] [(.int (pl [(qa.toInt8.toInt32), (qb.toInt8.toInt32)] ii))])) _
      refine XS.iload X_80.here hx rfl (hb hby at_84) rfl ?_
      show Steps p.tables e below (T_80.setTop (mkF m 86 #[.val (.int p0), .val (.int p1), .val (.int p2), .val (.int p3), .val (.int p4), .val (.int p5), .val (.int qa), .val (.int qb), .val (.int qc), .val (.int (2 : Int32)), .val (.ref a), .val (.ref r), .val (.int ii), .val (.int jj)] [(.int ii), (.int (pl [(qa.toInt8.toInt32), (qb.toInt8.toInt32)] ii))])) _
      refine XS.iload X_80.here hx rfl (hb hby at_86) rfl ?_
      show Steps p.tables e below (T_80.setTop (mkF m 88 #[.val (.int p0), .val (.int p1), .val (.int p2), .val (.int p3), .val (.int p4), .val (.int p5), .val (.int qa), .val (.int qb), .val (.int qc), .val (.int (2 : Int32)), .val (.ref a), .val (.ref r), .val (.int ii), .val (.int jj)] [(.int (2 : Int32)), (.int ii), (.int (pl [(qa.toInt8.toInt32), (qb.toInt8.toInt32)] ii))])) _
      refine XS.iload X_80.here hx rfl (hb hby at_88) rfl ?_
      show Steps p.tables e below (T_80.setTop (mkF m 90 #[.val (.int p0), .val (.int p1), .val (.int p2), .val (.int p3), .val (.int p4), .val (.int p5), .val (.int qa), .val (.int qb), .val (.int qc), .val (.int (2 : Int32)), .val (.ref a), .val (.ref r), .val (.int ii), .val (.int jj)] [(.int qa), (.int (2 : Int32)), (.int ii), (.int (pl [(qa.toInt8.toInt32), (qb.toInt8.toInt32)] ii))])) _
      refine XS.iload X_80.here hx rfl (hb hby at_90) rfl ?_
      show Steps p.tables e below (T_80.setTop (mkF m 92 #[.val (.int p0), .val (.int p1), .val (.int p2), .val (.int p3), .val (.int p4), .val (.int p5), .val (.int qa), .val (.int qb), .val (.int qc), .val (.int (2 : Int32)), .val (.ref a), .val (.ref r), .val (.int ii), .val (.int jj)] [(.int qb), (.int qa), (.int (2 : Int32)), (.int ii), (.int (pl [(qa.toInt8.toInt32), (qb.toInt8.toInt32)] ii))])) _
      refine XS.iload X_80.here hx rfl (hb hby at_92) rfl ?_
      exact ktg)
    obtain ⟨_, _, ⟨T_96, L_96, k_96, n_96⟩, -, X_96, ⟨Lc_96, hQ_96, l_96, y_96, z_96⟩, st_96⟩ := Jvm.LawKit.callS X_80 hx (y := (⟨"com/example/termwell/termwell/tables/XmlTextPlainAsciiPinLaw", "expected", "(IICCC)Z"⟩ : MethodName)) hown (mvT hZ (hw _ (List.mem_of_getElem? (i := 81) rfl))) (mvT hZ (hw _ (List.mem_of_getElem? (i := 82) rfl))) (mvT hZ (hw _ (List.mem_of_getElem? (i := 2) rfl))) (mvT hZ (hw _ (List.mem_of_getElem? (i := 83) rfl))) (by decide) (backOf (W := 1) (rmex2 l Z a0 hw [] ii qa qb qc T_80.heap n0 z_84) hZ (hw _ (List.mem_of_getElem? (i := 83) rfl)) (hw _ (List.mem_of_getElem? (i := 2) rfl)) (by decide) (by decide)) (g := (mkF m 94 #[.val (.int p0), .val (.int p1), .val (.int p2), .val (.int p3), .val (.int p4), .val (.int p5), .val (.int qa), .val (.int qb), .val (.int qc), .val (.int (2 : Int32)), .val (.ref a), .val (.ref r), .val (.int ii), .val (.int jj)] [(.int qc), (.int qb), (.int qa), (.int (2 : Int32)), (.int ii), (.int (pl [(qa.toInt8.toInt32), (qb.toInt8.toInt32)] ii))])) rfl (by rw [hml]; rfl) (argsL := [(.int ii), (.int (2 : Int32)), (.int qa), (.int qb), (.int qc)]) (rest := [(.int (pl [(qa.toInt8.toInt32), (qb.toInt8.toInt32)] ii))]) (lenOf pd_14 rfl) rfl (by show 2 * 0 + _ ≤ _; exact Nat.le_of_eq rfl) (hb hby at_94) (fun _ _ => ⟨rfl, rfl, (by decide : 4 + 0 ≤ _), (by decide : 136 + 0 ≤ _)⟩)
    dsimp only [Pt.U, Pt.locs, Pt.cells, Pt.slots] at X_96 l_96 y_96 z_96 st_96 hQ_96
    subst l_96 y_96 z_96
    obtain ⟨rfl, Nq_96, eh_96⟩ := hQ_96
    have N_97 := Fr.app N_81 Nq_96
    have pre_96 : Rch p.tables e below (s₁.setTop (entryFrame m #[(.int p0), (.int p1), (.int p2), (.int p3), (.int p4), (.int p5)] maxLocals)) (T_96.setTop (mkF m 97 #[.val (.int p0), .val (.int p1), .val (.int p2), .val (.int p3), .val (.int p4), .val (.int p5), .val (.int qa), .val (.int qb), .val (.int qc), .val (.int (2 : Int32)), .val (.ref a), .val (.ref r), .val (.int ii), .val (.int jj)] [(.int (exl [qa, qb] ii)), (.int (pl [(qa.toInt8.toInt32), (qb.toInt8.toInt32)] ii))])) := fun tgt ktg => pre_95 tgt (st_96 tgt ktg)
    have pre_98 : Rch p.tables e below (s₁.setTop (entryFrame m #[(.int p0), (.int p1), (.int p2), (.int p3), (.int p4), (.int p5)] maxLocals)) (T_96.setTop (mkF m 104 #[.val (.int p0), .val (.int p1), .val (.int p2), .val (.int p3), .val (.int p4), .val (.int p5), .val (.int qa), .val (.int qb), .val (.int qc), .val (.int (2 : Int32)), .val (.ref a), .val (.ref r), .val (.int ii), .val (.int jj)] [(.int jj), (.ref r)])) := fun tgt ktg => pre_96 tgt (by
      show Steps p.tables e below (T_96.setTop (mkF m 97 #[.val (.int p0), .val (.int p1), .val (.int p2), .val (.int p3), .val (.int p4), .val (.int p5), .val (.int qa), .val (.int qb), .val (.int qc), .val (.int (2 : Int32)), .val (.ref a), .val (.ref r), .val (.int ii), .val (.int jj)] [(.int (exl [qa, qb] ii)), (.int (pl [(qa.toInt8.toInt32), (qb.toInt8.toInt32)] ii))])) _
      refine XS.icmpNo X_96.here hx rfl (hb hby at_97) rfl (teq (own_plex [qa, qb] (0 : Int32) hii hqs (by decide) (by rw [show (0 : Int32).toInt = 0 from by decide]; first | decide | (simp; done)) : pl [(qa.toInt8.toInt32), (qb.toInt8.toInt32)] ii = exl [qa, qb] ii)).2 ?_
      show Steps p.tables e below (T_96.setTop (mkF m 100 #[.val (.int p0), .val (.int p1), .val (.int p2), .val (.int p3), .val (.int p4), .val (.int p5), .val (.int qa), .val (.int qb), .val (.int qc), .val (.int (2 : Int32)), .val (.ref a), .val (.ref r), .val (.int ii), .val (.int jj)] [])) _
      refine XS.aload X_96.here hx rfl (hb hby at_100) rfl rfl ?_
      show Steps p.tables e below (T_96.setTop (mkF m 102 #[.val (.int p0), .val (.int p1), .val (.int p2), .val (.int p3), .val (.int p4), .val (.int p5), .val (.int qa), .val (.int qb), .val (.int qc), .val (.int (2 : Int32)), .val (.ref a), .val (.ref r), .val (.int ii), .val (.int jj)] [(.ref r)])) _
      refine XS.iload X_96.here hx rfl (hb hby at_102) rfl ?_
      exact ktg)
    obtain ⟨cl__99, Ar__99, q__99, S__99, N__99, H__99, G__99⟩ := id AR
    have hin__99 : ¬ (jj < 0 ∨ cl__99.slots.size ≤ (jj).toNatClampNeg) := inb_of S__99 hjj
    have hat__99 : cl__99.slots[(jj).toNatClampNeg]? = some (.int (pl [(qa.toInt8.toInt32), (qb.toInt8.toInt32)] jj)) := H__99.at hin__99 (HI jj hjj.1 hjj.2)
    have pre_100 : Rch p.tables e below (s₁.setTop (entryFrame m #[(.int p0), (.int p1), (.int p2), (.int p3), (.int p4), (.int p5)] maxLocals)) (T_96.setTop (mkF m 105 #[.val (.int p0), .val (.int p1), .val (.int p2), .val (.int p3), .val (.int p4), .val (.int p5), .val (.int qa), .val (.int qb), .val (.int qc), .val (.int (2 : Int32)), .val (.ref a), .val (.ref r), .val (.int ii), .val (.int jj)] [(.int (pl [(qa.toInt8.toInt32), (qb.toInt8.toInt32)] jj))])) := fun tgt ktg => pre_98 tgt (X_96.baloadBooleans hx (j := jj) (v := (.int (pl [(qa.toInt8.toInt32), (qb.toInt8.toInt32)] jj))) (by rw [eh_96]; exact Ar__99.1) (State.isArrayOf_alike hZ.alike Ar__99.2.1) Ar__99.2.2 hin__99 hat__99 (g := (mkF m 104 #[.val (.int p0), .val (.int p1), .val (.int p2), .val (.int p3), .val (.int p4), .val (.int p5), .val (.int qa), .val (.int qb), .val (.int qc), .val (.int (2 : Int32)), .val (.ref a), .val (.ref r), .val (.int ii), .val (.int jj)] [(.int jj), (.ref r)])) rfl rfl (hb hby at_104) _ ktg)
    have pre_101 : Rch p.tables e below (s₁.setTop (entryFrame m #[(.int p0), (.int p1), (.int p2), (.int p3), (.int p4), (.int p5)] maxLocals)) (T_96.setTop (mkF m 115 #[.val (.int p0), .val (.int p1), .val (.int p2), .val (.int p3), .val (.int p4), .val (.int p5), .val (.int qa), .val (.int qb), .val (.int qc), .val (.int (2 : Int32)), .val (.ref a), .val (.ref r), .val (.int ii), .val (.int jj)] [(.int qc), (.int qb), (.int qa), (.int (2 : Int32)), (.int jj), (.int (pl [(qa.toInt8.toInt32), (qb.toInt8.toInt32)] jj))])) := fun tgt ktg => pre_100 tgt (by
      show Steps p.tables e below (T_96.setTop (mkF m 105 #[.val (.int p0), .val (.int p1), .val (.int p2), .val (.int p3), .val (.int p4), .val (.int p5), .val (.int qa), .val (.int qb), .val (.int qc), .val (.int (2 : Int32)), .val (.ref a), .val (.ref r), .val (.int ii), .val (.int jj)] [(.int (pl [(qa.toInt8.toInt32), (qb.toInt8.toInt32)] jj))])) _
      refine XS.iload X_96.here hx rfl (hb hby at_105) rfl ?_
      show Steps p.tables e below (T_96.setTop (mkF m 107 #[.val (.int p0), .val (.int p1), .val (.int p2), .val (.int p3), .val (.int p4), .val (.int p5), .val (.int qa), .val (.int qb), .val (.int qc), .val (.int (2 : Int32)), .val (.ref a), .val (.ref r), .val (.int ii), .val (.int jj)] [(.int jj), (.int (pl [(qa.toInt8.toInt32), (qb.toInt8.toInt32)] jj))])) _
      refine XS.iload X_96.here hx rfl (hb hby at_107) rfl ?_
      show Steps p.tables e below (T_96.setTop (mkF m 109 #[.val (.int p0), .val (.int p1), .val (.int p2), .val (.int p3), .val (.int p4), .val (.int p5), .val (.int qa), .val (.int qb), .val (.int qc), .val (.int (2 : Int32)), .val (.ref a), .val (.ref r), .val (.int ii), .val (.int jj)] [(.int (2 : Int32)), (.int jj), (.int (pl [(qa.toInt8.toInt32), (qb.toInt8.toInt32)] jj))])) _
      refine XS.iload X_96.here hx rfl (hb hby at_109) rfl ?_
      show Steps p.tables e below (T_96.setTop (mkF m 111 #[.val (.int p0), .val (.int p1), .val (.int p2), .val (.int p3), .val (.int p4), .val (.int p5), .val (.int qa), .val (.int qb), .val (.int qc), .val (.int (2 : Int32)), .val (.ref a), .val (.ref r), .val (.int ii), .val (.int jj)] [(.int qa), (.int (2 : Int32)), (.int jj), (.int (pl [(qa.toInt8.toInt32), (qb.toInt8.toInt32)] jj))])) _
      refine XS.iload X_96.here hx rfl (hb hby at_111) rfl ?_
      show Steps p.tables e below (T_96.setTop (mkF m 113 #[.val (.int p0), .val (.int p1), .val (.int p2), .val (.int p3), .val (.int p4), .val (.int p5), .val (.int qa), .val (.int qb), .val (.int qc), .val (.int (2 : Int32)), .val (.ref a), .val (.ref r), .val (.int ii), .val (.int jj)] [(.int qb), (.int qa), (.int (2 : Int32)), (.int jj), (.int (pl [(qa.toInt8.toInt32), (qb.toInt8.toInt32)] jj))])) _
      refine XS.iload X_96.here hx rfl (hb hby at_113) rfl ?_
      exact ktg)
    obtain ⟨_, _, ⟨T_102, L_102, k_102, n_102⟩, -, X_102, ⟨Lc_102, hQ_102, l_102, y_102, z_102⟩, st_102⟩ := Jvm.LawKit.callS X_96 hx (y := (⟨"com/example/termwell/termwell/tables/XmlTextPlainAsciiPinLaw", "expected", "(IICCC)Z"⟩ : MethodName)) hown (mvT hZ (hw _ (List.mem_of_getElem? (i := 81) rfl))) (mvT hZ (hw _ (List.mem_of_getElem? (i := 82) rfl))) (mvT hZ (hw _ (List.mem_of_getElem? (i := 2) rfl))) (mvT hZ (hw _ (List.mem_of_getElem? (i := 83) rfl))) (by decide) (backOf (W := 1) (rmex2 l Z a0 hw [] jj qa qb qc T_80.heap n0 z_84) hZ (hw _ (List.mem_of_getElem? (i := 83) rfl)) (hw _ (List.mem_of_getElem? (i := 2) rfl)) (by decide) (by decide)) (g := (mkF m 115 #[.val (.int p0), .val (.int p1), .val (.int p2), .val (.int p3), .val (.int p4), .val (.int p5), .val (.int qa), .val (.int qb), .val (.int qc), .val (.int (2 : Int32)), .val (.ref a), .val (.ref r), .val (.int ii), .val (.int jj)] [(.int qc), (.int qb), (.int qa), (.int (2 : Int32)), (.int jj), (.int (pl [(qa.toInt8.toInt32), (qb.toInt8.toInt32)] jj))])) rfl (by rw [hml]; rfl) (argsL := [(.int jj), (.int (2 : Int32)), (.int qa), (.int qb), (.int qc)]) (rest := [(.int (pl [(qa.toInt8.toInt32), (qb.toInt8.toInt32)] jj))]) (lenOf pd_14 rfl) rfl (by show 2 * 0 + _ ≤ _; exact Nat.le_of_eq rfl) (hb hby at_115) (fun _ _ => ⟨rfl, eh_96, (by decide : 4 + 0 ≤ _), (by decide : 136 + 0 ≤ _)⟩)
    dsimp only [Pt.U, Pt.locs, Pt.cells, Pt.slots] at X_102 l_102 y_102 z_102 st_102 hQ_102
    subst l_102 y_102 z_102
    obtain ⟨rfl, Nq_102, eh_102⟩ := hQ_102
    have N_103 := Fr.app N_97 Nq_102
    have pre_102 : Rch p.tables e below (s₁.setTop (entryFrame m #[(.int p0), (.int p1), (.int p2), (.int p3), (.int p4), (.int p5)] maxLocals)) (T_102.setTop (mkF m 118 #[.val (.int p0), .val (.int p1), .val (.int p2), .val (.int p3), .val (.int p4), .val (.int p5), .val (.int qa), .val (.int qb), .val (.int qc), .val (.int (2 : Int32)), .val (.ref a), .val (.ref r), .val (.int ii), .val (.int jj)] [(.int (exl [qa, qb] jj)), (.int (pl [(qa.toInt8.toInt32), (qb.toInt8.toInt32)] jj))])) := fun tgt ktg => pre_101 tgt (st_102 tgt ktg)
    have pre_104 : Rch p.tables e below (s₁.setTop (entryFrame m #[(.int p0), (.int p1), (.int p2), (.int p3), (.int p4), (.int p5)] maxLocals)) (T_102.setTop (mkF m 126 #[.val (.int p0), .val (.int p1), .val (.int p2), .val (.int p3), .val (.int p4), .val (.int p5), .val (.int qa), .val (.int qb), .val (.int qc), .val (.int (2 : Int32)), .val (.ref a), .val (.ref r), .val (.int ii), .val (.int jj)] [(.int (1 : Int32))])) := fun tgt ktg => pre_102 tgt (by
      show Steps p.tables e below (T_102.setTop (mkF m 118 #[.val (.int p0), .val (.int p1), .val (.int p2), .val (.int p3), .val (.int p4), .val (.int p5), .val (.int qa), .val (.int qb), .val (.int qc), .val (.int (2 : Int32)), .val (.ref a), .val (.ref r), .val (.int ii), .val (.int jj)] [(.int (exl [qa, qb] jj)), (.int (pl [(qa.toInt8.toInt32), (qb.toInt8.toInt32)] jj))])) _
      refine XS.icmpNo X_102.here hx rfl (hb hby at_118) rfl (teq (own_plex [qa, qb] (0 : Int32) hjj hqs (by decide) (by rw [show (0 : Int32).toInt = 0 from by decide]; first | decide | (simp; done)) : pl [(qa.toInt8.toInt32), (qb.toInt8.toInt32)] jj = exl [qa, qb] jj)).2 ?_
      show Steps p.tables e below (T_102.setTop (mkF m 121 #[.val (.int p0), .val (.int p1), .val (.int p2), .val (.int p3), .val (.int p4), .val (.int p5), .val (.int qa), .val (.int qb), .val (.int qc), .val (.int (2 : Int32)), .val (.ref a), .val (.ref r), .val (.int ii), .val (.int jj)] [])) _
      refine XS.iconst X_102.here hx rfl (hb hby at_121) ?_
      show Steps p.tables e below (T_102.setTop (mkF m 122 #[.val (.int p0), .val (.int p1), .val (.int p2), .val (.int p3), .val (.int p4), .val (.int p5), .val (.int qa), .val (.int qb), .val (.int qc), .val (.int (2 : Int32)), .val (.ref a), .val (.ref r), .val (.int ii), .val (.int jj)] [(.int (1 : Int32))])) _
      refine XS.goto X_102.here hx rfl (pc0 := 122) (pc' := 126) rfl (hb hby at_122) (by decide) (by decide) ?_
      exact ktg)
    obtain ⟨fs, hr, hrun, hended, hW⟩ := X_102.leaveW hS0 (by rw [eh_102]; exact hk_82) (v := some (.int (1 : Int32))) (fun h => by rw [Bd.returns] at h; cases h)
    refine ⟨_, _, pre_104 _ ?_, hrun, hended, _, _, rfl, ?_, ?_, hW.1, hW.2.1, hW.2.2.1, hW.2.2.2.mono (by decide) (by decide)⟩
    · show Steps p.tables e below (T_102.setTop (mkF m 126 #[.val (.int p0), .val (.int p1), .val (.int p2), .val (.int p3), .val (.int p4), .val (.int p5), .val (.int qa), .val (.int qb), .val (.int qc), .val (.int (2 : Int32)), .val (.ref a), .val (.ref r), .val (.int ii), .val (.int jj)] [(.int (1 : Int32))])) _
      exact retN X_102 hx (t := .boolean) Bd.returns (by simp) (hb hby at_126) hr
    · show Q0 Z p0 p1 p2 p3 p4 p5 h0 n0 _ T_102.heap _
      rw [eh_102]
      exact ⟨rfl, N_103⟩
    · show CHr Z consts_1 s.vm s.heap T_102.vm T_102.heap
      rw [hh, eh_102]
      exact C_82.trans (CHv.at X_102 hZ hEL C_82.1)
  · skip
    subst r3
    have pre_105 : Rch p.tables e below (s₁.setTop (entryFrame m #[(.int p0), (.int p1), (.int p2), (.int p3), (.int p4), (.int p5)] maxLocals)) (s₁.setTop (mkF m 37 #[.val (.int p0), .val (.int p1), .val (.int p2), .val (.int p3), .val (.int p4), .val (.int p5), .val (.int qa), .val (.int qb), .val (.int qc), .val (.int (3 : Int32)), .unset, .unset, .unset, .unset] [(.int qc), (.int qb), (.int qa), (.int (3 : Int32))])) := fun tgt ktg => pre_8 tgt (by
      show Steps p.tables e below (s₁.setTop (mkF m 27 #[.val (.int p0), .val (.int p1), .val (.int p2), .val (.int p3), .val (.int p4), .val (.int p5), .val (.int qa), .val (.int qb), .val (.int qc), .unset, .unset, .unset, .unset, .unset] [(.int (3 : Int32))])) _
      refine XS.istore X0.here hx rfl (hb hby at_27) rfl (l' := #[.val (.int p0), .val (.int p1), .val (.int p2), .val (.int p3), .val (.int p4), .val (.int p5), .val (.int qa), .val (.int qb), .val (.int qc), .val (.int (3 : Int32)), .unset, .unset, .unset, .unset]) rfl ?_
      show Steps p.tables e below (s₁.setTop (mkF m 29 #[.val (.int p0), .val (.int p1), .val (.int p2), .val (.int p3), .val (.int p4), .val (.int p5), .val (.int qa), .val (.int qb), .val (.int qc), .val (.int (3 : Int32)), .unset, .unset, .unset, .unset] [])) _
      refine XS.iload X0.here hx rfl (hb hby at_29) rfl ?_
      show Steps p.tables e below (s₁.setTop (mkF m 31 #[.val (.int p0), .val (.int p1), .val (.int p2), .val (.int p3), .val (.int p4), .val (.int p5), .val (.int qa), .val (.int qb), .val (.int qc), .val (.int (3 : Int32)), .unset, .unset, .unset, .unset] [(.int (3 : Int32))])) _
      refine XS.iload X0.here hx rfl (hb hby at_31) rfl ?_
      show Steps p.tables e below (s₁.setTop (mkF m 33 #[.val (.int p0), .val (.int p1), .val (.int p2), .val (.int p3), .val (.int p4), .val (.int p5), .val (.int qa), .val (.int qb), .val (.int qc), .val (.int (3 : Int32)), .unset, .unset, .unset, .unset] [(.int qa), (.int (3 : Int32))])) _
      refine XS.iload X0.here hx rfl (hb hby at_33) rfl ?_
      show Steps p.tables e below (s₁.setTop (mkF m 35 #[.val (.int p0), .val (.int p1), .val (.int p2), .val (.int p3), .val (.int p4), .val (.int p5), .val (.int qa), .val (.int qb), .val (.int qc), .val (.int (3 : Int32)), .unset, .unset, .unset, .unset] [(.int qb), (.int qa), (.int (3 : Int32))])) _
      refine XS.iload X0.here hx rfl (hb hby at_35) rfl ?_
      exact ktg)
    obtain ⟨_, _, ⟨T_106, L_106, k_106, n_106⟩, -, X_106, ⟨Lc_106, hQ_106, l_106, y_106, z_106⟩, st_106⟩ := Jvm.LawKit.callS X0 hx (y := (⟨"com/example/termwell/termwell/tables/XmlTextPlainAsciiPinLaw", "make", "(ICCC)Ljava/lang/String;"⟩ : MethodName)) hown (mvT hZ (hw _ (List.mem_of_getElem? (i := 0) rfl))) (mvT hZ (hw _ (List.mem_of_getElem? (i := 1) rfl))) (mvT hZ (hw _ (List.mem_of_getElem? (i := 2) rfl))) (mvT hZ (hw _ (List.mem_of_getElem? (i := 3) rfl))) (by decide) (backOf (W := 0) (rmmk3 l Z a0 hw [] qa qb qc h0 n0 Z0 cs hcs S1 hqa0 hqa hqb0 hqb hqc0 hqc) hZ (hw _ (List.mem_of_getElem? (i := 3) rfl)) (hw _ (List.mem_of_getElem? (i := 2) rfl)) (by decide) (by decide)) (g := (mkF m 37 #[.val (.int p0), .val (.int p1), .val (.int p2), .val (.int p3), .val (.int p4), .val (.int p5), .val (.int qa), .val (.int qb), .val (.int qc), .val (.int (3 : Int32)), .unset, .unset, .unset, .unset] [(.int qc), (.int qb), (.int qa), (.int (3 : Int32))])) rfl (by rw [hml]; rfl) (argsL := [(.int (3 : Int32)), (.int qa), (.int qb), (.int qc)]) (rest := []) (lenOf pd_12 rfl) rfl (by show 2 * 0 + _ ≤ _; exact Nat.le_of_eq rfl) (hb hby at_37) (fun _ _ => ⟨rfl, e0, (by decide : 0 + 3 ≤ _), (by decide : 0 + 10 ≤ _)⟩)
    dsimp only [Pt.U, Pt.locs, Pt.cells, Pt.slots] at X_106 l_106 y_106 z_106 st_106 hQ_106
    subst l_106 y_106 z_106
    obtain ⟨a, b, kb, rfl, Nq_106, Kq_106, b1, b2, b3, b4⟩ := hQ_106
    have N_107 := Fr.app N0 Nq_106
    have pre_106 : Rch p.tables e below (s₁.setTop (entryFrame m #[(.int p0), (.int p1), (.int p2), (.int p3), (.int p4), (.int p5)] maxLocals)) (T_106.setTop (mkF m 40 #[.val (.int p0), .val (.int p1), .val (.int p2), .val (.int p3), .val (.int p4), .val (.int p5), .val (.int qa), .val (.int qb), .val (.int qc), .val (.int (3 : Int32)), .unset, .unset, .unset, .unset] [(.ref a)])) := fun tgt ktg => pre_105 tgt (st_106 tgt ktg)
    have C_108 : CHr Z consts_1 s.vm h0 s.vm T_106.heap := C0.trans (CHr.keep Kq_106 sf0 C0.1)
    have hk_108 := Nat.le_trans hk0 Kq_106.1
    have f_109 : Sta Z T_106.heap "java/lang/String" "COMPACT_STRINGS" "Z" (.int cs) := own_sta_keep S1 Kq_106 ns0
    have z_110 : n0 ≤ T_106.heap.size := Nat.le_trans Z0 Kq_106.1
    have pre_111 : Rch p.tables e below (s₁.setTop (entryFrame m #[(.int p0), (.int p1), (.int p2), (.int p3), (.int p4), (.int p5)] maxLocals)) (T_106.setTop (mkF m 44 #[.val (.int p0), .val (.int p1), .val (.int p2), .val (.int p3), .val (.int p4), .val (.int p5), .val (.int qa), .val (.int qb), .val (.int qc), .val (.int (3 : Int32)), .val (.ref a), .unset, .unset, .unset] [(.ref a)])) := fun tgt ktg => pre_106 tgt (by
      show Steps p.tables e below (T_106.setTop (mkF m 40 #[.val (.int p0), .val (.int p1), .val (.int p2), .val (.int p3), .val (.int p4), .val (.int p5), .val (.int qa), .val (.int qb), .val (.int qc), .val (.int (3 : Int32)), .unset, .unset, .unset, .unset] [(.ref a)])) _
      refine XS.astore X_106.here hx rfl (hb hby at_40) rfl rfl (l' := #[.val (.int p0), .val (.int p1), .val (.int p2), .val (.int p3), .val (.int p4), .val (.int p5), .val (.int qa), .val (.int qb), .val (.int qc), .val (.int (3 : Int32)), .val (.ref a), .unset, .unset, .unset]) rfl ?_
      show Steps p.tables e below (T_106.setTop (mkF m 42 #[.val (.int p0), .val (.int p1), .val (.int p2), .val (.int p3), .val (.int p4), .val (.int p5), .val (.int qa), .val (.int qb), .val (.int qc), .val (.int (3 : Int32)), .val (.ref a), .unset, .unset, .unset] [])) _
      refine XS.aload X_106.here hx rfl (hb hby at_42) rfl rfl ?_
      exact ktg)
    obtain ⟨_, _, ⟨T_112, L_112, k_112, n_112⟩, -, X_112, ⟨Lc_112, hQ_112, l_112, y_112, z_112⟩, st_112⟩ := Jvm.LawKit.callS X_106 hx (y := (⟨"com/example/termwell/termwell/tables/XmlText", "plainAscii", "(Ljava/lang/String;)[Z"⟩ : MethodName)) hown (mvT hZ (hw _ (List.mem_of_getElem? (i := 34) rfl))) (mvT hZ (hw _ (List.mem_of_getElem? (i := 35) rfl))) (mvT hZ (hw _ (List.mem_of_getElem? (i := 36) rfl))) (mvT hZ (hw _ (List.mem_of_getElem? (i := 37) rfl))) (by decide) (backOf (W := 0) (rmpa3 l Z a0 hw [] a (qa.toInt8.toInt32) (qb.toInt8.toInt32) (qc.toInt8.toInt32) b kb T_106.heap n0 z_110 b1 b2 b3 b4 cs hcs f_109) hZ (hw _ (List.mem_of_getElem? (i := 37) rfl)) (hw _ (List.mem_of_getElem? (i := 36) rfl)) (by decide) (by decide)) (g := (mkF m 44 #[.val (.int p0), .val (.int p1), .val (.int p2), .val (.int p3), .val (.int p4), .val (.int p5), .val (.int qa), .val (.int qb), .val (.int qc), .val (.int (3 : Int32)), .val (.ref a), .unset, .unset, .unset] [(.ref a)])) rfl (by rw [hml]; rfl) (argsL := [(.ref a)]) (rest := []) (lenOf pd_13 rfl) rfl (by show 2 * 0 + _ ≤ _; exact Nat.le_of_eq rfl) (hb hby at_44) (fun _ _ => ⟨rfl, rfl, (by decide : 3 + 1 ≤ _), (by decide : 10 + 128 ≤ _)⟩)
    dsimp only [Pt.U, Pt.locs, Pt.cells, Pt.slots] at X_112 l_112 y_112 z_112 st_112 hQ_112
    subst l_112 y_112 z_112
    obtain ⟨r, kr, rfl, Nq_112, Kq_112, us, AR, hus, HI⟩ := hQ_112
    have N_113 := Fr.app N_107 Nq_112
    have pre_112 : Rch p.tables e below (s₁.setTop (entryFrame m #[(.int p0), (.int p1), (.int p2), (.int p3), (.int p4), (.int p5)] maxLocals)) (T_112.setTop (mkF m 47 #[.val (.int p0), .val (.int p1), .val (.int p2), .val (.int p3), .val (.int p4), .val (.int p5), .val (.int qa), .val (.int qb), .val (.int qc), .val (.int (3 : Int32)), .val (.ref a), .unset, .unset, .unset] [(.ref r)])) := fun tgt ktg => pre_111 tgt (st_112 tgt ktg)
    have C_114 : CHr Z consts_1 s.vm h0 s.vm T_112.heap := C_108.trans (CHr.keep Kq_112 sf0 C_108.1)
    have hk_114 := Nat.le_trans hk_108 Kq_112.1
    have f_115 : Sta Z T_112.heap "java/lang/String" "COMPACT_STRINGS" "Z" (.int cs) := own_sta_keep f_109 Kq_112 ns0
    have z_116 : n0 ≤ T_112.heap.size := Nat.le_trans z_110 Kq_112.1
    have pre_117 : Rch p.tables e below (s₁.setTop (entryFrame m #[(.int p0), (.int p1), (.int p2), (.int p3), (.int p4), (.int p5)] maxLocals)) (T_112.setTop (mkF m 56 #[.val (.int p0), .val (.int p1), .val (.int p2), .val (.int p3), .val (.int p4), .val (.int p5), .val (.int qa), .val (.int qb), .val (.int qc), .val (.int (3 : Int32)), .val (.ref a), .val (.ref r), .unset, .unset] [(.ref r)])) := fun tgt ktg => pre_112 tgt (by
      show Steps p.tables e below (T_112.setTop (mkF m 47 #[.val (.int p0), .val (.int p1), .val (.int p2), .val (.int p3), .val (.int p4), .val (.int p5), .val (.int qa), .val (.int qb), .val (.int qc), .val (.int (3 : Int32)), .val (.ref a), .unset, .unset, .unset] [(.ref r)])) _
      refine XS.astore X_112.here hx rfl (hb hby at_47) rfl rfl (l' := #[.val (.int p0), .val (.int p1), .val (.int p2), .val (.int p3), .val (.int p4), .val (.int p5), .val (.int qa), .val (.int qb), .val (.int qc), .val (.int (3 : Int32)), .val (.ref a), .val (.ref r), .unset, .unset]) rfl ?_
      show Steps p.tables e below (T_112.setTop (mkF m 49 #[.val (.int p0), .val (.int p1), .val (.int p2), .val (.int p3), .val (.int p4), .val (.int p5), .val (.int qa), .val (.int qb), .val (.int qc), .val (.int (3 : Int32)), .val (.ref a), .val (.ref r), .unset, .unset] [])) _
      refine XS.aload X_112.here hx rfl (hb hby at_49) rfl rfl ?_
      show Steps p.tables e below (T_112.setTop (mkF m 51 #[.val (.int p0), .val (.int p1), .val (.int p2), .val (.int p3), .val (.int p4), .val (.int p5), .val (.int qa), .val (.int qb), .val (.int qc), .val (.int (3 : Int32)), .val (.ref a), .val (.ref r), .unset, .unset] [(.ref r)])) _
      refine XS.ifnullNo X_112.here hx rfl (hb hby at_51) rfl ?_
      show Steps p.tables e below (T_112.setTop (mkF m 54 #[.val (.int p0), .val (.int p1), .val (.int p2), .val (.int p3), .val (.int p4), .val (.int p5), .val (.int qa), .val (.int qb), .val (.int qc), .val (.int (3 : Int32)), .val (.ref a), .val (.ref r), .unset, .unset] [])) _
      refine XS.aload X_112.here hx rfl (hb hby at_54) rfl rfl ?_
      exact ktg)
    obtain ⟨cl__118, Ar__118, q__118, S__118, N__118, H__118, G__118⟩ := id AR
    have pre_119 : Rch p.tables e below (s₁.setTop (entryFrame m #[(.int p0), (.int p1), (.int p2), (.int p3), (.int p4), (.int p5)] maxLocals)) (T_112.setTop (mkF m 57 #[.val (.int p0), .val (.int p1), .val (.int p2), .val (.int p3), .val (.int p4), .val (.int p5), .val (.int qa), .val (.int qb), .val (.int qc), .val (.int (3 : Int32)), .val (.ref a), .val (.ref r), .unset, .unset] [(.int (128 : Int32))])) := fun tgt ktg => pre_117 tgt (X_112.arraylength hx Ar__118.1 (State.isArrayOf_alike hZ.alike Ar__118.2.1) (g := (mkF m 56 #[.val (.int p0), .val (.int p1), .val (.int p2), .val (.int p3), .val (.int p4), .val (.int p5), .val (.int qa), .val (.int qb), .val (.int qc), .val (.int (3 : Int32)), .val (.ref a), .val (.ref r), .unset, .unset] [(.ref r)])) rfl rfl (hb hby at_56) _ (by rw [len_of S__118 N__118]; exact ktg))
    have pre_120 : Rch p.tables e below (s₁.setTop (entryFrame m #[(.int p0), (.int p1), (.int p2), (.int p3), (.int p4), (.int p5)] maxLocals)) (T_112.setTop (mkF m 70 #[.val (.int p0), .val (.int p1), .val (.int p2), .val (.int p3), .val (.int p4), .val (.int p5), .val (.int qa), .val (.int qb), .val (.int qc), .val (.int (3 : Int32)), .val (.ref a), .val (.ref r), .unset, .unset] [(.int (p4 &&& (127 : Int32)))])) := fun tgt ktg => pre_119 tgt (by
      show Steps p.tables e below (T_112.setTop (mkF m 57 #[.val (.int p0), .val (.int p1), .val (.int p2), .val (.int p3), .val (.int p4), .val (.int p5), .val (.int qa), .val (.int qb), .val (.int qc), .val (.int (3 : Int32)), .val (.ref a), .val (.ref r), .unset, .unset] [(.int (128 : Int32))])) _
      refine XS.sipush X_112.here hx rfl (hb hby at_57) ?_
      show Steps p.tables e below (T_112.setTop (mkF m 60 #[.val (.int p0), .val (.int p1), .val (.int p2), .val (.int p3), .val (.int p4), .val (.int p5), .val (.int qa), .val (.int qb), .val (.int qc), .val (.int (3 : Int32)), .val (.ref a), .val (.ref r), .unset, .unset] [(.int (128 : Int32)), (.int (128 : Int32))])) _
      refine XS.icmpYes X_112.here hx rfl (pc0 := 60) (pc' := 65) rfl (hb hby at_60) rfl (teq (rfl : (128 : Int32) = (128 : Int32))).1 (by decide) (by decide) ?_
      show Steps p.tables e below (T_112.setTop (mkF m 65 #[.val (.int p0), .val (.int p1), .val (.int p2), .val (.int p3), .val (.int p4), .val (.int p5), .val (.int qa), .val (.int qb), .val (.int qc), .val (.int (3 : Int32)), .val (.ref a), .val (.ref r), .unset, .unset] [])) _
      refine XS.iload X_112.here hx rfl (hb hby at_65) rfl ?_
      show Steps p.tables e below (T_112.setTop (mkF m 67 #[.val (.int p0), .val (.int p1), .val (.int p2), .val (.int p3), .val (.int p4), .val (.int p5), .val (.int qa), .val (.int qb), .val (.int qc), .val (.int (3 : Int32)), .val (.ref a), .val (.ref r), .unset, .unset] [(.int p4)])) _
      refine XS.bipush X_112.here hx rfl (hb hby at_67) ?_
      show Steps p.tables e below (T_112.setTop (mkF m 69 #[.val (.int p0), .val (.int p1), .val (.int p2), .val (.int p3), .val (.int p4), .val (.int p5), .val (.int qa), .val (.int qb), .val (.int qc), .val (.int (3 : Int32)), .val (.ref a), .val (.ref r), .unset, .unset] [(.int (127 : Int32)), (.int p4)])) _
      refine XS.iand X_112.here hx rfl (hb hby at_69) rfl ?_
      exact ktg)
    obtain ⟨ii, hv_ii⟩ : ∃ nm_ : Int32, nm_ = (p4 &&& (127 : Int32)) := ⟨_, rfl⟩
    have pre_121 : Rch p.tables e below (s₁.setTop (entryFrame m #[(.int p0), (.int p1), (.int p2), (.int p3), (.int p4), (.int p5)] maxLocals)) (T_112.setTop (mkF m 70 #[.val (.int p0), .val (.int p1), .val (.int p2), .val (.int p3), .val (.int p4), .val (.int p5), .val (.int qa), .val (.int qb), .val (.int qc), .val (.int (3 : Int32)), .val (.ref a), .val (.ref r), .unset, .unset] [(.int ii)])) := fun tgt ktg => pre_120 tgt (by rw [hv_ii] at ktg; exact ktg)
    have pre_122 : Rch p.tables e below (s₁.setTop (entryFrame m #[(.int p0), (.int p1), (.int p2), (.int p3), (.int p4), (.int p5)] maxLocals)) (T_112.setTop (mkF m 77 #[.val (.int p0), .val (.int p1), .val (.int p2), .val (.int p3), .val (.int p4), .val (.int p5), .val (.int qa), .val (.int qb), .val (.int qc), .val (.int (3 : Int32)), .val (.ref a), .val (.ref r), .val (.int ii), .unset] [(.int (p5 &&& (127 : Int32)))])) := fun tgt ktg => pre_121 tgt (by
      show Steps p.tables e below (T_112.setTop (mkF m 70 #[.val (.int p0), .val (.int p1), .val (.int p2), .val (.int p3), .val (.int p4), .val (.int p5), .val (.int qa), .val (.int qb), .val (.int qc), .val (.int (3 : Int32)), .val (.ref a), .val (.ref r), .unset, .unset] [(.int ii)])) _
      refine XS.istore X_112.here hx rfl (hb hby at_70) rfl (l' := #[.val (.int p0), .val (.int p1), .val (.int p2), .val (.int p3), .val (.int p4), .val (.int p5), .val (.int qa), .val (.int qb), .val (.int qc), .val (.int (3 : Int32)), .val (.ref a), .val (.ref r), .val (.int ii), .unset]) rfl ?_
      show Steps p.tables e below (T_112.setTop (mkF m 72 #[.val (.int p0), .val (.int p1), .val (.int p2), .val (.int p3), .val (.int p4), .val (.int p5), .val (.int qa), .val (.int qb), .val (.int qc), .val (.int (3 : Int32)), .val (.ref a), .val (.ref r), .val (.int ii), .unset] [])) _
      refine XS.iload X_112.here hx rfl (hb hby at_72) rfl ?_
      show Steps p.tables e below (T_112.setTop (mkF m 74 #[.val (.int p0), .val (.int p1), .val (.int p2), .val (.int p3), .val (.int p4), .val (.int p5), .val (.int qa), .val (.int qb), .val (.int qc), .val (.int (3 : Int32)), .val (.ref a), .val (.ref r), .val (.int ii), .unset] [(.int p5)])) _
      refine XS.bipush X_112.here hx rfl (hb hby at_74) ?_
      show Steps p.tables e below (T_112.setTop (mkF m 76 #[.val (.int p0), .val (.int p1), .val (.int p2), .val (.int p3), .val (.int p4), .val (.int p5), .val (.int qa), .val (.int qb), .val (.int qc), .val (.int (3 : Int32)), .val (.ref a), .val (.ref r), .val (.int ii), .unset] [(.int (127 : Int32)), (.int p5)])) _
      refine XS.iand X_112.here hx rfl (hb hby at_76) rfl ?_
      exact ktg)
    obtain ⟨jj, hv_jj⟩ : ∃ nm_ : Int32, nm_ = (p5 &&& (127 : Int32)) := ⟨_, rfl⟩
    have pre_123 : Rch p.tables e below (s₁.setTop (entryFrame m #[(.int p0), (.int p1), (.int p2), (.int p3), (.int p4), (.int p5)] maxLocals)) (T_112.setTop (mkF m 77 #[.val (.int p0), .val (.int p1), .val (.int p2), .val (.int p3), .val (.int p4), .val (.int p5), .val (.int qa), .val (.int qb), .val (.int qc), .val (.int (3 : Int32)), .val (.ref a), .val (.ref r), .val (.int ii), .unset] [(.int jj)])) := fun tgt ktg => pre_122 tgt (by rw [hv_jj] at ktg; exact ktg)
    have hii := own_i127 hv_ii
    have hjj := own_i127 hv_jj
    have hqs : ∀ q ∈ ([qa, qb, qc] : List Int32), ¬ q < 0 ∧ ¬ (255 : Int32) < q := by
          intro q hq; simp only [List.mem_cons, List.not_mem_nil, or_false] at hq
          rcases hq with rfl | rfl | rfl
          · exact ⟨hqa0, hqa⟩
          · exact ⟨hqb0, hqb⟩
          · exact ⟨hqc0, hqc⟩
    have pre_124 : Rch p.tables e below (s₁.setTop (entryFrame m #[(.int p0), (.int p1), (.int p2), (.int p3), (.int p4), (.int p5)] maxLocals)) (T_112.setTop (mkF m 83 #[.val (.int p0), .val (.int p1), .val (.int p2), .val (.int p3), .val (.int p4), .val (.int p5), .val (.int qa), .val (.int qb), .val (.int qc), .val (.int (3 : Int32)), .val (.ref a), .val (.ref r), .val (.int ii), .val (.int jj)] [(.int ii), (.ref r)])) := fun tgt ktg => pre_123 tgt (by
      show Steps p.tables e below (T_112.setTop (mkF m 77 #[.val (.int p0), .val (.int p1), .val (.int p2), .val (.int p3), .val (.int p4), .val (.int p5), .val (.int qa), .val (.int qb), .val (.int qc), .val (.int (3 : Int32)), .val (.ref a), .val (.ref r), .val (.int ii), .unset] [(.int jj)])) _
      refine XS.istore X_112.here hx rfl (hb hby at_77) rfl (l' := #[.val (.int p0), .val (.int p1), .val (.int p2), .val (.int p3), .val (.int p4), .val (.int p5), .val (.int qa), .val (.int qb), .val (.int qc), .val (.int (3 : Int32)), .val (.ref a), .val (.ref r), .val (.int ii), .val (.int jj)]) rfl ?_
      show Steps p.tables e below (T_112.setTop (mkF m 79 #[.val (.int p0), .val (.int p1), .val (.int p2), .val (.int p3), .val (.int p4), .val (.int p5), .val (.int qa), .val (.int qb), .val (.int qc), .val (.int (3 : Int32)), .val (.ref a), .val (.ref r), .val (.int ii), .val (.int jj)] [])) _
      refine XS.aload X_112.here hx rfl (hb hby at_79) rfl rfl ?_
      show Steps p.tables e below (T_112.setTop (mkF m 81 #[.val (.int p0), .val (.int p1), .val (.int p2), .val (.int p3), .val (.int p4), .val (.int p5), .val (.int qa), .val (.int qb), .val (.int qc), .val (.int (3 : Int32)), .val (.ref a), .val (.ref r), .val (.int ii), .val (.int jj)] [(.ref r)])) _
      refine XS.iload X_112.here hx rfl (hb hby at_81) rfl ?_
      exact ktg)
    obtain ⟨cl__125, Ar__125, q__125, S__125, N__125, H__125, G__125⟩ := id AR
    have hin__125 : ¬ (ii < 0 ∨ cl__125.slots.size ≤ (ii).toNatClampNeg) := inb_of S__125 hii
    have hat__125 : cl__125.slots[(ii).toNatClampNeg]? = some (.int (pl [(qa.toInt8.toInt32), (qb.toInt8.toInt32), (qc.toInt8.toInt32)] ii)) := H__125.at hin__125 (HI ii hii.1 hii.2)
    have pre_126 : Rch p.tables e below (s₁.setTop (entryFrame m #[(.int p0), (.int p1), (.int p2), (.int p3), (.int p4), (.int p5)] maxLocals)) (T_112.setTop (mkF m 84 #[.val (.int p0), .val (.int p1), .val (.int p2), .val (.int p3), .val (.int p4), .val (.int p5), .val (.int qa), .val (.int qb), .val (.int qc), .val (.int (3 : Int32)), .val (.ref a), .val (.ref r), .val (.int ii), .val (.int jj)] [(.int (pl [(qa.toInt8.toInt32), (qb.toInt8.toInt32), (qc.toInt8.toInt32)] ii))])) := fun tgt ktg => pre_124 tgt (X_112.baloadBooleans hx (j := ii) (v := (.int (pl [(qa.toInt8.toInt32), (qb.toInt8.toInt32), (qc.toInt8.toInt32)] ii))) Ar__125.1 (State.isArrayOf_alike hZ.alike Ar__125.2.1) Ar__125.2.2 hin__125 hat__125 (g := (mkF m 83 #[.val (.int p0), .val (.int p1), .val (.int p2), .val (.int p3), .val (.int p4), .val (.int p5), .val (.int qa), .val (.int qb), .val (.int qc), .val (.int (3 : Int32)), .val (.ref a), .val (.ref r), .val (.int ii), .val (.int jj)] [(.int ii), (.ref r)])) rfl rfl (hb hby at_83) _ ktg)
    have pre_127 : Rch p.tables e below (s₁.setTop (entryFrame m #[(.int p0), (.int p1), (.int p2), (.int p3), (.int p4), (.int p5)] maxLocals)) (T_112.setTop (mkF m 94 #[.val (.int p0), .val (.int p1), .val (.int p2), .val (.int p3), .val (.int p4), .val (.int p5), .val (.int qa), .val (.int qb), .val (.int qc), .val (.int (3 : Int32)), .val (.ref a), .val (.ref r), .val (.int ii), .val (.int jj)] [(.int qc), (.int qb), (.int qa), (.int (3 : Int32)), (.int ii), (.int (pl [(qa.toInt8.toInt32), (qb.toInt8.toInt32), (qc.toInt8.toInt32)] ii))])) := fun tgt ktg => pre_126 tgt (by
      show Steps p.tables e below (T_112.setTop (mkF m 84 #[.val (.int p0), .val (.int p1), .val (.int p2), .val (.int p3), .val (.int p4), .val (.int p5), .val (.int qa), .val (.int qb), .val (.int qc), .val (.int (3 : Int32)), .val (.ref a), .val (.ref r), .val (.int ii), .val (.int jj)] [(.int (pl [(qa.toInt8.toInt32), (qb.toInt8.toInt32), (qc.toInt8.toInt32)] ii))])) _
      refine XS.iload X_112.here hx rfl (hb hby at_84) rfl ?_
      show Steps p.tables e below (T_112.setTop (mkF m 86 #[.val (.int p0), .val (.int p1), .val (.int p2), .val (.int p3), .val (.int p4), .val (.int p5), .val (.int qa), .val (.int qb), .val (.int qc), .val (.int (3 : Int32)), .val (.ref a), .val (.ref r), .val (.int ii), .val (.int jj)] [(.int ii), (.int (pl [(qa.toInt8.toInt32), (qb.toInt8.toInt32), (qc.toInt8.toInt32)] ii))])) _
      refine XS.iload X_112.here hx rfl (hb hby at_86) rfl ?_
      show Steps p.tables e below (T_112.setTop (mkF m 88 #[.val (.int p0), .val (.int p1), .val (.int p2), .val (.int p3), .val (.int p4), .val (.int p5), .val (.int qa), .val (.int qb), .val (.int qc), .val (.int (3 : Int32)), .val (.ref a), .val (.ref r), .val (.int ii), .val (.int jj)] [(.int (3 : Int32)), (.int ii), (.int (pl [(qa.toInt8.toInt32), (qb.toInt8.toInt32), (qc.toInt8.toInt32)] ii))])) _
      refine XS.iload X_112.here hx rfl (hb hby at_88) rfl ?_
      show Steps p.tables e below (T_112.setTop (mkF m 90 #[.val (.int p0), .val (.int p1), .val (.int p2), .val (.int p3), .val (.int p4), .val (.int p5), .val (.int qa), .val (.int qb), .val (.int qc), .val (.int (3 : Int32)), .val (.ref a), .val (.ref r), .val (.int ii), .val (.int jj)] [(.int qa), (.int (3 : Int32)), (.int ii), (.int (pl [(qa.toInt8.toInt32), (qb.toInt8.toInt32), (qc.toInt8.toInt32)] ii))])) _
      refine XS.iload X_112.here hx rfl (hb hby at_90) rfl ?_
      show Steps p.tables e below (T_112.setTop (mkF m 92 #[.val (.int p0), .val (.int p1), .val (.int p2), .val (.int p3), .val (.int p4), .val (.int p5), .val (.int qa), .val (.int qb), .val (.int qc), .val (.int (3 : Int32)), .val (.ref a), .val (.ref r), .val (.int ii), .val (.int jj)] [(.int qb), (.int qa), (.int (3 : Int32)), (.int ii), (.int (pl [(qa.toInt8.toInt32), (qb.toInt8.toInt32), (qc.toInt8.toInt32)] ii))])) _
      refine XS.iload X_112.here hx rfl (hb hby at_92) rfl ?_
      exact ktg)
    obtain ⟨_, _, ⟨T_128, L_128, k_128, n_128⟩, -, X_128, ⟨Lc_128, hQ_128, l_128, y_128, z_128⟩, st_128⟩ := Jvm.LawKit.callS X_112 hx (y := (⟨"com/example/termwell/termwell/tables/XmlTextPlainAsciiPinLaw", "expected", "(IICCC)Z"⟩ : MethodName)) hown (mvT hZ (hw _ (List.mem_of_getElem? (i := 81) rfl))) (mvT hZ (hw _ (List.mem_of_getElem? (i := 82) rfl))) (mvT hZ (hw _ (List.mem_of_getElem? (i := 2) rfl))) (mvT hZ (hw _ (List.mem_of_getElem? (i := 83) rfl))) (by decide) (backOf (W := 1) (rmex3 l Z a0 hw [] ii qa qb qc T_112.heap n0 z_116) hZ (hw _ (List.mem_of_getElem? (i := 83) rfl)) (hw _ (List.mem_of_getElem? (i := 2) rfl)) (by decide) (by decide)) (g := (mkF m 94 #[.val (.int p0), .val (.int p1), .val (.int p2), .val (.int p3), .val (.int p4), .val (.int p5), .val (.int qa), .val (.int qb), .val (.int qc), .val (.int (3 : Int32)), .val (.ref a), .val (.ref r), .val (.int ii), .val (.int jj)] [(.int qc), (.int qb), (.int qa), (.int (3 : Int32)), (.int ii), (.int (pl [(qa.toInt8.toInt32), (qb.toInt8.toInt32), (qc.toInt8.toInt32)] ii))])) rfl (by rw [hml]; rfl) (argsL := [(.int ii), (.int (3 : Int32)), (.int qa), (.int qb), (.int qc)]) (rest := [(.int (pl [(qa.toInt8.toInt32), (qb.toInt8.toInt32), (qc.toInt8.toInt32)] ii))]) (lenOf pd_14 rfl) rfl (by show 2 * 0 + _ ≤ _; exact Nat.le_of_eq rfl) (hb hby at_94) (fun _ _ => ⟨rfl, rfl, (by decide : 4 + 0 ≤ _), (by decide : 138 + 0 ≤ _)⟩)
    dsimp only [Pt.U, Pt.locs, Pt.cells, Pt.slots] at X_128 l_128 y_128 z_128 st_128 hQ_128
    subst l_128 y_128 z_128
    obtain ⟨rfl, Nq_128, eh_128⟩ := hQ_128
    have N_129 := Fr.app N_113 Nq_128
    have pre_128 : Rch p.tables e below (s₁.setTop (entryFrame m #[(.int p0), (.int p1), (.int p2), (.int p3), (.int p4), (.int p5)] maxLocals)) (T_128.setTop (mkF m 97 #[.val (.int p0), .val (.int p1), .val (.int p2), .val (.int p3), .val (.int p4), .val (.int p5), .val (.int qa), .val (.int qb), .val (.int qc), .val (.int (3 : Int32)), .val (.ref a), .val (.ref r), .val (.int ii), .val (.int jj)] [(.int (exl [qa, qb, qc] ii)), (.int (pl [(qa.toInt8.toInt32), (qb.toInt8.toInt32), (qc.toInt8.toInt32)] ii))])) := fun tgt ktg => pre_127 tgt (st_128 tgt ktg)
    have pre_130 : Rch p.tables e below (s₁.setTop (entryFrame m #[(.int p0), (.int p1), (.int p2), (.int p3), (.int p4), (.int p5)] maxLocals)) (T_128.setTop (mkF m 104 #[.val (.int p0), .val (.int p1), .val (.int p2), .val (.int p3), .val (.int p4), .val (.int p5), .val (.int qa), .val (.int qb), .val (.int qc), .val (.int (3 : Int32)), .val (.ref a), .val (.ref r), .val (.int ii), .val (.int jj)] [(.int jj), (.ref r)])) := fun tgt ktg => pre_128 tgt (by
      show Steps p.tables e below (T_128.setTop (mkF m 97 #[.val (.int p0), .val (.int p1), .val (.int p2), .val (.int p3), .val (.int p4), .val (.int p5), .val (.int qa), .val (.int qb), .val (.int qc), .val (.int (3 : Int32)), .val (.ref a), .val (.ref r), .val (.int ii), .val (.int jj)] [(.int (exl [qa, qb, qc] ii)), (.int (pl [(qa.toInt8.toInt32), (qb.toInt8.toInt32), (qc.toInt8.toInt32)] ii))])) _
      refine XS.icmpNo X_128.here hx rfl (hb hby at_97) rfl (teq (own_plex [qa, qb, qc] (0 : Int32) hii hqs (by decide) (by rw [show (0 : Int32).toInt = 0 from by decide]; first | decide | (simp; done)) : pl [(qa.toInt8.toInt32), (qb.toInt8.toInt32), (qc.toInt8.toInt32)] ii = exl [qa, qb, qc] ii)).2 ?_
      show Steps p.tables e below (T_128.setTop (mkF m 100 #[.val (.int p0), .val (.int p1), .val (.int p2), .val (.int p3), .val (.int p4), .val (.int p5), .val (.int qa), .val (.int qb), .val (.int qc), .val (.int (3 : Int32)), .val (.ref a), .val (.ref r), .val (.int ii), .val (.int jj)] [])) _
      refine XS.aload X_128.here hx rfl (hb hby at_100) rfl rfl ?_
      show Steps p.tables e below (T_128.setTop (mkF m 102 #[.val (.int p0), .val (.int p1), .val (.int p2), .val (.int p3), .val (.int p4), .val (.int p5), .val (.int qa), .val (.int qb), .val (.int qc), .val (.int (3 : Int32)), .val (.ref a), .val (.ref r), .val (.int ii), .val (.int jj)] [(.ref r)])) _
      refine XS.iload X_128.here hx rfl (hb hby at_102) rfl ?_
      exact ktg)
    obtain ⟨cl__131, Ar__131, q__131, S__131, N__131, H__131, G__131⟩ := id AR
    have hin__131 : ¬ (jj < 0 ∨ cl__131.slots.size ≤ (jj).toNatClampNeg) := inb_of S__131 hjj
    have hat__131 : cl__131.slots[(jj).toNatClampNeg]? = some (.int (pl [(qa.toInt8.toInt32), (qb.toInt8.toInt32), (qc.toInt8.toInt32)] jj)) := H__131.at hin__131 (HI jj hjj.1 hjj.2)
    have pre_132 : Rch p.tables e below (s₁.setTop (entryFrame m #[(.int p0), (.int p1), (.int p2), (.int p3), (.int p4), (.int p5)] maxLocals)) (T_128.setTop (mkF m 105 #[.val (.int p0), .val (.int p1), .val (.int p2), .val (.int p3), .val (.int p4), .val (.int p5), .val (.int qa), .val (.int qb), .val (.int qc), .val (.int (3 : Int32)), .val (.ref a), .val (.ref r), .val (.int ii), .val (.int jj)] [(.int (pl [(qa.toInt8.toInt32), (qb.toInt8.toInt32), (qc.toInt8.toInt32)] jj))])) := fun tgt ktg => pre_130 tgt (X_128.baloadBooleans hx (j := jj) (v := (.int (pl [(qa.toInt8.toInt32), (qb.toInt8.toInt32), (qc.toInt8.toInt32)] jj))) (by rw [eh_128]; exact Ar__131.1) (State.isArrayOf_alike hZ.alike Ar__131.2.1) Ar__131.2.2 hin__131 hat__131 (g := (mkF m 104 #[.val (.int p0), .val (.int p1), .val (.int p2), .val (.int p3), .val (.int p4), .val (.int p5), .val (.int qa), .val (.int qb), .val (.int qc), .val (.int (3 : Int32)), .val (.ref a), .val (.ref r), .val (.int ii), .val (.int jj)] [(.int jj), (.ref r)])) rfl rfl (hb hby at_104) _ ktg)
    have pre_133 : Rch p.tables e below (s₁.setTop (entryFrame m #[(.int p0), (.int p1), (.int p2), (.int p3), (.int p4), (.int p5)] maxLocals)) (T_128.setTop (mkF m 115 #[.val (.int p0), .val (.int p1), .val (.int p2), .val (.int p3), .val (.int p4), .val (.int p5), .val (.int qa), .val (.int qb), .val (.int qc), .val (.int (3 : Int32)), .val (.ref a), .val (.ref r), .val (.int ii), .val (.int jj)] [(.int qc), (.int qb), (.int qa), (.int (3 : Int32)), (.int jj), (.int (pl [(qa.toInt8.toInt32), (qb.toInt8.toInt32), (qc.toInt8.toInt32)] jj))])) := fun tgt ktg => pre_132 tgt (by
      show Steps p.tables e below (T_128.setTop (mkF m 105 #[.val (.int p0), .val (.int p1), .val (.int p2), .val (.int p3), .val (.int p4), .val (.int p5), .val (.int qa), .val (.int qb), .val (.int qc), .val (.int (3 : Int32)), .val (.ref a), .val (.ref r), .val (.int ii), .val (.int jj)] [(.int (pl [(qa.toInt8.toInt32), (qb.toInt8.toInt32), (qc.toInt8.toInt32)] jj))])) _
      refine XS.iload X_128.here hx rfl (hb hby at_105) rfl ?_
      show Steps p.tables e below (T_128.setTop (mkF m 107 #[.val (.int p0), .val (.int p1), .val (.int p2), .val (.int p3), .val (.int p4), .val (.int p5), .val (.int qa), .val (.int qb), .val (.int qc), .val (.int (3 : Int32)), .val (.ref a), .val (.ref r), .val (.int ii), .val (.int jj)] [(.int jj), (.int (pl [(qa.toInt8.toInt32), (qb.toInt8.toInt32), (qc.toInt8.toInt32)] jj))])) _
      refine XS.iload X_128.here hx rfl (hb hby at_107) rfl ?_
      show Steps p.tables e below (T_128.setTop (mkF m 109 #[.val (.int p0), .val (.int p1), .val (.int p2), .val (.int p3), .val (.int p4), .val (.int p5), .val (.int qa), .val (.int qb), .val (.int qc), .val (.int (3 : Int32)), .val (.ref a), .val (.ref r), .val (.int ii), .val (.int jj)] [(.int (3 : Int32)), (.int jj), (.int (pl [(qa.toInt8.toInt32), (qb.toInt8.toInt32), (qc.toInt8.toInt32)] jj))])) _
      refine XS.iload X_128.here hx rfl (hb hby at_109) rfl ?_
      show Steps p.tables e below (T_128.setTop (mkF m 111 #[.val (.int p0), .val (.int p1), .val (.int p2), .val (.int p3), .val (.int p4), .val (.int p5), .val (.int qa), .val (.int qb), .val (.int qc), .val (.int (3 : Int32)), .val (.ref a), .val (.ref r), .val (.int ii), .val (.int jj)] [(.int qa), (.int (3 : Int32)), (.int jj), (.int (pl [(qa.toInt8.toInt32), (qb.toInt8.toInt32), (qc.toInt8.toInt32)] jj))])) _
      refine XS.iload X_128.here hx rfl (hb hby at_111) rfl ?_
      show Steps p.tables e below (T_128.setTop (mkF m 113 #[.val (.int p0), .val (.int p1), .val (.int p2), .val (.int p3), .val (.int p4), .val (.int p5), .val (.int qa), .val (.int qb), .val (.int qc), .val (.int (3 : Int32)), .val (.ref a), .val (.ref r), .val (.int ii), .val (.int jj)] [(.int qb), (.int qa), (.int (3 : Int32)), (.int jj), (.int (pl [(qa.toInt8.toInt32), (qb.toInt8.toInt32), (qc.toInt8.toInt32)] jj))])) _
      refine XS.iload X_128.here hx rfl (hb hby at_113) rfl ?_
      exact ktg)
    obtain ⟨_, _, ⟨T_134, L_134, k_134, n_134⟩, -, X_134, ⟨Lc_134, hQ_134, l_134, y_134, z_134⟩, st_134⟩ := Jvm.LawKit.callS X_128 hx (y := (⟨"com/example/termwell/termwell/tables/XmlTextPlainAsciiPinLaw", "expected", "(IICCC)Z"⟩ : MethodName)) hown (mvT hZ (hw _ (List.mem_of_getElem? (i := 81) rfl))) (mvT hZ (hw _ (List.mem_of_getElem? (i := 82) rfl))) (mvT hZ (hw _ (List.mem_of_getElem? (i := 2) rfl))) (mvT hZ (hw _ (List.mem_of_getElem? (i := 83) rfl))) (by decide) (backOf (W := 1) (rmex3 l Z a0 hw [] jj qa qb qc T_112.heap n0 z_116) hZ (hw _ (List.mem_of_getElem? (i := 83) rfl)) (hw _ (List.mem_of_getElem? (i := 2) rfl)) (by decide) (by decide)) (g := (mkF m 115 #[.val (.int p0), .val (.int p1), .val (.int p2), .val (.int p3), .val (.int p4), .val (.int p5), .val (.int qa), .val (.int qb), .val (.int qc), .val (.int (3 : Int32)), .val (.ref a), .val (.ref r), .val (.int ii), .val (.int jj)] [(.int qc), (.int qb), (.int qa), (.int (3 : Int32)), (.int jj), (.int (pl [(qa.toInt8.toInt32), (qb.toInt8.toInt32), (qc.toInt8.toInt32)] jj))])) rfl (by rw [hml]; rfl) (argsL := [(.int jj), (.int (3 : Int32)), (.int qa), (.int qb), (.int qc)]) (rest := [(.int (pl [(qa.toInt8.toInt32), (qb.toInt8.toInt32), (qc.toInt8.toInt32)] jj))]) (lenOf pd_14 rfl) rfl (by show 2 * 0 + _ ≤ _; exact Nat.le_of_eq rfl) (hb hby at_115) (fun _ _ => ⟨rfl, eh_128, (by decide : 4 + 0 ≤ _), (by decide : 138 + 0 ≤ _)⟩)
    dsimp only [Pt.U, Pt.locs, Pt.cells, Pt.slots] at X_134 l_134 y_134 z_134 st_134 hQ_134
    subst l_134 y_134 z_134
    obtain ⟨rfl, Nq_134, eh_134⟩ := hQ_134
    have N_135 := Fr.app N_129 Nq_134
    have pre_134 : Rch p.tables e below (s₁.setTop (entryFrame m #[(.int p0), (.int p1), (.int p2), (.int p3), (.int p4), (.int p5)] maxLocals)) (T_134.setTop (mkF m 118 #[.val (.int p0), .val (.int p1), .val (.int p2), .val (.int p3), .val (.int p4), .val (.int p5), .val (.int qa), .val (.int qb), .val (.int qc), .val (.int (3 : Int32)), .val (.ref a), .val (.ref r), .val (.int ii), .val (.int jj)] [(.int (exl [qa, qb, qc] jj)), (.int (pl [(qa.toInt8.toInt32), (qb.toInt8.toInt32), (qc.toInt8.toInt32)] jj))])) := fun tgt ktg => pre_133 tgt (st_134 tgt ktg)
    have pre_136 : Rch p.tables e below (s₁.setTop (entryFrame m #[(.int p0), (.int p1), (.int p2), (.int p3), (.int p4), (.int p5)] maxLocals)) (T_134.setTop (mkF m 126 #[.val (.int p0), .val (.int p1), .val (.int p2), .val (.int p3), .val (.int p4), .val (.int p5), .val (.int qa), .val (.int qb), .val (.int qc), .val (.int (3 : Int32)), .val (.ref a), .val (.ref r), .val (.int ii), .val (.int jj)] [(.int (1 : Int32))])) := fun tgt ktg => pre_134 tgt (by
      show Steps p.tables e below (T_134.setTop (mkF m 118 #[.val (.int p0), .val (.int p1), .val (.int p2), .val (.int p3), .val (.int p4), .val (.int p5), .val (.int qa), .val (.int qb), .val (.int qc), .val (.int (3 : Int32)), .val (.ref a), .val (.ref r), .val (.int ii), .val (.int jj)] [(.int (exl [qa, qb, qc] jj)), (.int (pl [(qa.toInt8.toInt32), (qb.toInt8.toInt32), (qc.toInt8.toInt32)] jj))])) _
      refine XS.icmpNo X_134.here hx rfl (hb hby at_118) rfl (teq (own_plex [qa, qb, qc] (0 : Int32) hjj hqs (by decide) (by rw [show (0 : Int32).toInt = 0 from by decide]; first | decide | (simp; done)) : pl [(qa.toInt8.toInt32), (qb.toInt8.toInt32), (qc.toInt8.toInt32)] jj = exl [qa, qb, qc] jj)).2 ?_
      show Steps p.tables e below (T_134.setTop (mkF m 121 #[.val (.int p0), .val (.int p1), .val (.int p2), .val (.int p3), .val (.int p4), .val (.int p5), .val (.int qa), .val (.int qb), .val (.int qc), .val (.int (3 : Int32)), .val (.ref a), .val (.ref r), .val (.int ii), .val (.int jj)] [])) _
      refine XS.iconst X_134.here hx rfl (hb hby at_121) ?_
      show Steps p.tables e below (T_134.setTop (mkF m 122 #[.val (.int p0), .val (.int p1), .val (.int p2), .val (.int p3), .val (.int p4), .val (.int p5), .val (.int qa), .val (.int qb), .val (.int qc), .val (.int (3 : Int32)), .val (.ref a), .val (.ref r), .val (.int ii), .val (.int jj)] [(.int (1 : Int32))])) _
      refine XS.goto X_134.here hx rfl (pc0 := 122) (pc' := 126) rfl (hb hby at_122) (by decide) (by decide) ?_
      exact ktg)
    obtain ⟨fs, hr, hrun, hended, hW⟩ := X_134.leaveW hS0 (by rw [eh_134]; exact hk_114) (v := some (.int (1 : Int32))) (fun h => by rw [Bd.returns] at h; cases h)
    refine ⟨_, _, pre_136 _ ?_, hrun, hended, _, _, rfl, ?_, ?_, hW.1, hW.2.1, hW.2.2.1, hW.2.2.2.mono (by decide) (by decide)⟩
    · show Steps p.tables e below (T_134.setTop (mkF m 126 #[.val (.int p0), .val (.int p1), .val (.int p2), .val (.int p3), .val (.int p4), .val (.int p5), .val (.int qa), .val (.int qb), .val (.int qc), .val (.int (3 : Int32)), .val (.ref a), .val (.ref r), .val (.int ii), .val (.int jj)] [(.int (1 : Int32))])) _
      exact retN X_134 hx (t := .boolean) Bd.returns (by simp) (hb hby at_126) hr
    · show Q0 Z p0 p1 p2 p3 p4 p5 h0 n0 _ T_134.heap _
      rw [eh_134]
      exact ⟨rfl, N_135⟩
    · show CHr Z consts_1 s.vm s.heap T_134.vm T_134.heap
      rw [hh, eh_134]
      exact C_114.trans (CHv.at X_134 hZ hEL C_114.1)
set_option maxRecDepth 65536 in
set_option maxHeartbeats 40000000 in
theorem comes_1 {Post : Tables → Env → Array Value → State → Outcome → State → Prop} (hpost : ∀ tb e args s v u, (limb_1_1.after args s (.returned v) u = true ∧ limb_1_2.after args s (.returned v) u = true ∧ True) → ReturnedEndW s (.returned v) u (Jvm.fieldLocs frame_1_writes args s ++ Jvm.arrayLocs frame_1_arrays args s ++ Jvm.staticLocs frame_1_statics s) 24 1408 → Post tb e args s (.returned v) u) :
    ArmFor flags0 classFile x code maxLocals ret World_1 tables_1 room_1 Calls_1 rest_1 Pre_1 Post := by
  intro l hfl _ _ p e ha hc hk s m args below hf hA hF happ hP
  obtain ⟨hcalls, hrest, hpre⟩ := hP
  obtain ⟨-, -, -, hnamed, -, -, -, hat⟩ := (Spec.applies_iff hf).mp happ
  obtain ⟨hg, hn⟩ := and_e (Cond.before_iff.mp (show (Jvm.Cond.and given_1 narrow_1).before args s = true from hpre))
  obtain ⟨gc, g0⟩ := and_e hg
  obtain ⟨ga0, g1⟩ := and_e g0
  obtain ⟨ga1, g2⟩ := and_e g1
  obtain ⟨ga2, g3⟩ := and_e g2
  obtain ⟨ga3, g4⟩ := and_e g3
  obtain ⟨ga4, g5⟩ := and_e g4
  obtain ⟨w0, w1, w2, w3, w4, w5, rfl⟩ : ∃ w0 w1 w2 w3 w4 w5 : Value, args = #[w0, w1, w2, w3, w4, w5] := by
    have hs : args.size = 6 := by simpa [Cond.value, given_1] using gc
    obtain ⟨L⟩ := args
    match L, hs with
    | [w0, w1, w2, w3, w4, w5], _ => exact ⟨w0, w1, w2, w3, w4, w5, rfl⟩
  have hw := fun d (hd : d ∈ tables_1) => atoms_spec (ws := Jvm.Cond.code x code maxLocals ret :: tables_1) hat d (List.mem_cons_of_mem _ hd)
  have hfit : Fit s := fun {y c} hc i hi => by
    obtain ⟨ha, rfl⟩ := Array.getElem?_eq_some_iff.mp hc
    have q := List.all_eq_true.mp ((Array.all_eq_true_iff_forall_mem.mp hF) _ (Array.getElem_mem ha)) i (List.mem_range.mpr hi)
    simpa [Array.getElem?_eq_getElem hi] using q
  obtain ⟨hsets, hown0⟩ := atoms_of _ (rest_1_c_eq ▸ (show rest_1_c.before _ s = true from hrest))
  have hr0 := Cond.before_iff.mp hown0
  obtain ⟨i0, ei0⟩ := is_v ga0
  obtain rfl : w0 = (.int i0) := Option.some.inj ei0
  obtain ⟨i1, ei1⟩ := is_v ga1
  obtain rfl : w1 = (.int i1) := Option.some.inj ei1
  obtain ⟨i2, ei2⟩ := is_v ga2
  obtain rfl : w2 = (.int i2) := Option.some.inj ei2
  obtain ⟨i3, ei3⟩ := is_v ga3
  obtain rfl : w3 = (.int i3) := Option.some.inj ei3
  obtain ⟨i4, ei4⟩ := is_v ga4
  obtain rfl : w4 = (.int i4) := Option.some.inj ei4
  obtain ⟨i5, ei5⟩ := is_v g5
  obtain rfl : w5 = (.int i5) := Option.some.inj ei5
  have q0 := Cond.before_iff.mp (hsets _ (List.mem_of_getElem? (i := 1) rfl))
  have q1 := not_v (Cond.before_iff.mp (hsets _ (List.mem_of_getElem? (i := 2) rfl)))
  obtain ⟨cs, ecs⟩ := is_v q0
  have S1 : Sta s s.heap "java/lang/String" "COMPACT_STRINGS" "Z" (.int cs) := Sta.start ecs (Or.inl (hsets _ (List.mem_of_getElem? (i := 0) rfl)))
  have hcs : ¬ cs = 0 := gotF (Cond.eq_ints ecs (Term.int_eval _)) q1
  have hCH : CHv s consts_1 s.vm s.heap := CHv.start (own_EW hw) (fun p hp => hcalls.1 p hp) (hsets _ (List.mem_of_getElem? (i := 2) rfl)) (hw _ (List.mem_of_getElem? (i := 23) rfl)) (hw _ (List.mem_of_getElem? (i := 5) rfl))
  obtain ⟨n, o, h1, h2, h3, _, L, rfl, ⟨rfl, N⟩, -, hq⟩ := rm0 l s _ hw tables_1 i0 i1 i2 i3 i4 i5 s.heap s.heap.size (Nat.le_refl _) cs hcs S1 p e ha hc hk s m _ below hf ((Spec.applies_iff_loose hf).mp happ).1 ⟨rfl, State.Warmed39.refl s, rfl, hCH⟩ trivial
  refine ⟨n, _, h1, h2, h3, hpost _ _ _ _ _ _ ⟨Cond.after_iff.mpr rfl, Cond.after_iff.mpr (eq_i res_at (Term.int_eval (1)) rfl), trivial⟩ ⟨hq.1, hq.2.1, hq.2.2.1, (hq.2.2.2.sift fun y hy => Or.inr (N y hy)).mono (by decide) (by decide)⟩⟩
theorem main_1_1 : Claimed_1_1 := comes_1 fun _ _ _ _ _ _ h hF => ⟨h.1, hF⟩
theorem main_1_2 : Claimed_1_2 := comes_1 fun _ _ _ _ _ _ h hF => ⟨h.2.1, hF⟩
end Jvm.Pilot.@@N@@
namespace Jvm.Pilot.@@N@@
open Jvm Jvm.ClassFile Sem Op Lib Jvm.Free Jvm.Stand Jvm.Pilot.@@N@@.Jvm.D
/-! MADE BY PROGRAM (witnessworld.py) out of the Statement's table words and the real class files: 23 classes; the members and pool entries that the words name. The judged class is class 1, her method 1. -/
namespace start1
open Jvm.ClassFile
def u (s : String) : CpInfo := .utf8 (stringToUtf16 s)
/-- a pool by its gaps: so many unusable entries, then the entry; so many at the end -/
def gap : Nat → List CpInfo → List CpInfo
  | 0, r => r
  | n + 1, r => .unusable :: gap n r
def poolList (es : List (Nat × CpInfo)) (last : Nat) : List CpInfo := es.foldr (fun e r => gap e.1 (e.2 :: r)) (gap last [])
def pool (es : List (Nat × CpInfo)) (last : Nat) : Array CpInfo := ⟨poolList es last⟩
def fileOf (pool : Array CpInfo) (this : Nat) (attrs : Array Attribute := #[]) (ms : Array MethodInfo := #[]) (fl : Nat := 33) (sup : Nat := 0) (ifs : Array Nat := #[]) (fds : Array FieldInfo := #[]) : ClassFile where
  minorVersion := 0
  majorVersion := 65
  constantPool := pool
  accessFlags := fl
  thisClass := this
  superClass := sup
  interfaces := ifs
  fields := fds
  methods := ms
  attributes := attrs
def plain (name : String) (sup : Option ClassId) : Class where
  name := name
  kind := .ordinary
  loader := none
  accessFlags := 33
  super := sup
  interfaces := #[]
  cf := none
  fields := #[]
  methods := #[]
  instanceTypes := #[]
  staticTypes := #[]
  resolved := #[]
  callSites := []
  init := .initialized
  statics := none
  mirror := none

def pool0 : Array CpInfo := pool [(5, u "<init>"), (0, u "()V"), (1, .class_ 10), (1, u "java/lang/Object")] 113

def k0c0 : Code := { maxStack := 0, maxLocals := 1, code := object_method_1_code, exceptionTable := #[], attributes := #[] }
def k0m0 : Method := { name := "<init>", desc := "()V", sig := { parameters := [], returnType := none }, accessFlags := 1, code := some k0c0 }
/-- java/lang/Object -/
def k0 : Class := { plain "java/lang/Object" none with
  accessFlags := 33
  interfaces := #[]
  cf := some (fileOf pool0 8 #[] #[{ accessFlags := 1, nameIndex := 5, descriptorIndex := 6, attributes := #[] }] 33 0 #[] #[])
  fields := #[]
  methods := #[k0m0]
  instanceTypes := #[]
  staticTypes := #[]
  resolved := Array.replicate 124 none
  statics := none }

def pool1 : Array CpInfo := pool [(2, .class_ 4), (1, u "java/lang/Object"), (0, u "<init>"), (0, u "()V"), (0, .methodref 8 9), (0, .class_ 10), (0, .nameAndType 11 12), (0, u "com/example/termwell/termwell/tables/XmlTextPlainAsciiPinLaw"), (0, u "make"), (0, u "(ICCC)Ljava/lang/String;"), (0, .methodref 14 15), (0, .class_ 16), (0, .nameAndType 17 18), (0, u "com/example/termwell/termwell/tables/XmlText"), (0, u "plainAscii"), (0, u "(Ljava/lang/String;)[Z"), (0, .methodref 8 20), (0, .nameAndType 21 22), (0, u "expected"), (0, u "(IICCC)Z"), (0, .class_ 24), (0, u "java/lang/String"), (0, .methodref 23 26), (0, .nameAndType 5 27), (0, u "([C)V"), (2, u "law"), (0, u "(IIIIII)Z")] 5

def k1m0 : Method := { name := "<init>", desc := "()V", sig := { parameters := [], returnType := none }, accessFlags := 2, code := none }
def k1c1 : Code := { maxStack := 6, maxLocals := 14, code := code, exceptionTable := #[], attributes := #[] }
def k1m1 : Method := { name := "law", desc := "(IIIIII)Z", sig := { parameters := [.int, .int, .int, .int, .int, .int], returnType := some .boolean }, accessFlags := 9, code := some k1c1 }
def k1c2 : Code := { maxStack := 6, maxLocals := 4, code := method_3_code, exceptionTable := #[], attributes := #[] }
def k1m2 : Method := { name := "make", desc := "(ICCC)Ljava/lang/String;", sig := { parameters := [.int, .char, .char, .char], returnType := some (.object "java/lang/String") }, accessFlags := 10, code := some k1c2 }
def k1c3 : Code := { maxStack := 2, maxLocals := 6, code := method_4_code, exceptionTable := #[], attributes := #[] }
def k1m3 : Method := { name := "expected", desc := "(IICCC)Z", sig := { parameters := [.int, .int, .char, .char, .char], returnType := some .boolean }, accessFlags := 10, code := some k1c3 }
/-- com/example/termwell/termwell/tables/XmlTextPlainAsciiPinLaw -/
def k1 : Class := { plain "com/example/termwell/termwell/tables/XmlTextPlainAsciiPinLaw" (some 0) with
  accessFlags := 49
  interfaces := #[]
  cf := some (fileOf pool1 8 #[] #[{ accessFlags := 2, nameIndex := 5, descriptorIndex := 6, attributes := #[] }, { accessFlags := 9, nameIndex := 30, descriptorIndex := 31, attributes := #[] }, { accessFlags := 10, nameIndex := 11, descriptorIndex := 12, attributes := #[] }, { accessFlags := 10, nameIndex := 21, descriptorIndex := 22, attributes := #[] }] 49 2 #[] #[])
  fields := #[]
  methods := #[k1m0, k1m1, k1m2, k1m3]
  instanceTypes := #[]
  staticTypes := #[]
  resolved := Array.replicate 37 none
  statics := none }

def pool2 : Array CpInfo := pool [(1, .class_ 2), (0, u "java/io/Serializable"), (0, .class_ 4), (0, u "java/lang/Object")] 2

/-- java/io/Serializable -/
def k2 : Class := { plain "java/io/Serializable" (some 0) with
  accessFlags := 1537
  interfaces := #[]
  cf := some (fileOf pool2 1 #[] #[] 1537 3 #[] #[])
  fields := #[]
  methods := #[]
  instanceTypes := #[]
  staticTypes := #[]
  resolved := Array.replicate 7 none
  statics := none }

def pool3 : Array CpInfo := pool [(1, .class_ 2), (0, u "java/lang/Comparable"), (0, .class_ 4), (0, u "java/lang/Object")] 7

/-- java/lang/Comparable -/
def k3 : Class := { plain "java/lang/Comparable" (some 0) with
  accessFlags := 1537
  interfaces := #[]
  cf := some (fileOf pool3 1 #[] #[] 1537 3 #[] #[])
  fields := #[]
  methods := #[]
  instanceTypes := #[]
  staticTypes := #[]
  resolved := Array.replicate 12 none
  statics := none }

def pool4 : Array CpInfo := pool [(2, .class_ 4), (1, u "java/lang/CharSequence"), (42, .class_ 48), (0, u "java/lang/CharSequence$1CodePointIterator"), (10, .class_ 60), (0, u "java/lang/CharSequence$1CharIterator"), (5, .class_ 67), (0, u "java/lang/Object")] 63

/-- java/lang/CharSequence -/
def k4 : Class := { plain "java/lang/CharSequence" (some 0) with
  accessFlags := 1537
  interfaces := #[]
  cf := some (fileOf pool4 2 #[.nestMembers #[47, 59]] #[] 1537 66 #[] #[])
  fields := #[]
  methods := #[]
  instanceTypes := #[]
  staticTypes := #[]
  resolved := Array.replicate 131 none
  statics := none }

def pool5 : Array CpInfo := pool [(1, .class_ 2), (0, u "java/lang/constant/Constable"), (0, .class_ 4), (0, u "java/lang/Object")] 6

/-- java/lang/constant/Constable -/
def k5 : Class := { plain "java/lang/constant/Constable" (some 0) with
  accessFlags := 1537
  interfaces := #[]
  cf := some (fileOf pool5 1 #[] #[] 1537 3 #[] #[])
  fields := #[]
  methods := #[]
  instanceTypes := #[]
  staticTypes := #[]
  resolved := Array.replicate 11 none
  statics := none }

def pool6 : Array CpInfo := pool [(1, .class_ 2), (0, u "java/lang/constant/ConstantDesc"), (0, .class_ 4), (0, u "java/lang/Object")] 32

/-- java/lang/constant/ConstantDesc -/
def k6 : Class := { plain "java/lang/constant/ConstantDesc" (some 0) with
  accessFlags := 1537
  interfaces := #[]
  cf := some (fileOf pool6 1 #[] #[] 1537 3 #[] #[])
  fields := #[]
  methods := #[]
  instanceTypes := #[]
  staticTypes := #[]
  resolved := Array.replicate 37 none
  statics := none }

def pool7 : Array CpInfo := pool [(1, .methodref 2 3), (0, .class_ 4), (0, .nameAndType 5 6), (0, u "java/lang/Object"), (0, u "<init>"), (0, u "()V"), (0, .string 8), (0, u ""), (0, .fieldref 10 11), (0, .class_ 12), (0, .nameAndType 13 14), (0, u "java/lang/String"), (0, u "value"), (0, u "[B"), (0, .fieldref 10 16), (0, .nameAndType 17 18), (0, u "coder"), (0, u "B"), (2, u "hash"), (0, u "I"), (2, u "hashIsZero"), (0, u "Z"), (0, .methodref 10 28), (0, .nameAndType 5 29), (0, u "([CIILjava/lang/Void;)V"), (8, .fieldref 10 39), (0, .nameAndType 40 26), (0, u "COMPACT_STRINGS"), (1, .class_ 44), (1, u "java/lang/StringUTF16"), (0, u "compress"), (1, .methodref 42 48), (0, .nameAndType 49 50), (0, u "coderFromArrayLen"), (0, u "([BI)B"), (56, .class_ 109), (1, u "java/lang/StringLatin1"), (32, u "()Z"), (34, .methodref 42 178), (0, .nameAndType 45 179), (0, u "([CII)[B"), (154, u "()I"), (0, .methodref 10 336), (0, .nameAndType 17 337), (0, u "()B"), (154, .methodref 10 493), (0, .nameAndType 494 142), (0, u "isLatin1"), (10, .methodref 10 506), (0, .nameAndType 507 334), (0, u "length"), (67, .class_ 576), (0, u "java/lang/CharSequence"), (22, u "CASE_INSENSITIVE_ORDER"), (0, u "Ljava/util/Comparator;"), (32, .methodref 10 634), (0, .nameAndType 635 636), (0, u "indexOf"), (0, u "(II)I"), (0, .methodref 107 638), (0, .nameAndType 635 639), (0, u "([BIII)I"), (125, u "(I)I"), (244, u "([C)V"), (90, u "serialPersistentFields"), (0, u "[Ljava/io/ObjectStreamField;"), (0, .class_ 1104), (0, u "java/lang/String$CaseInsensitiveComparator"), (1, .class_ 1107), (0, u "java/io/Serializable"), (0, .class_ 1109), (0, u "java/lang/Comparable"), (0, .class_ 1111), (0, u "java/lang/constant/Constable"), (0, .class_ 1113), (0, u "java/lang/constant/ConstantDesc"), (2, u "serialVersionUID"), (0, u "J"), (3, u "REPL"), (0, u "C"), (2, u "LATIN1"), (1, u "UTF16")] 323

def k7m0 : Method := { name := "<init>", desc := "()V", sig := { parameters := [], returnType := none }, accessFlags := 1, code := none }
def k7c1 : Code := { maxStack := 5, maxLocals := 2, code := jdk_42_method_3_code, exceptionTable := #[], attributes := #[] }
def k7m1 : Method := { name := "<init>", desc := "([C)V", sig := { parameters := [(.array .char)], returnType := none }, accessFlags := 1, code := some k7c1 }
def k7c2 : Code := { maxStack := 2, maxLocals := 1, code := jdk_42_method_54_code, exceptionTable := #[], attributes := #[] }
def k7m2 : Method := { name := "length", desc := "()I", sig := { parameters := [], returnType := some .int }, accessFlags := 1, code := some k7c2 }
def k7c3 : Code := { maxStack := 3, maxLocals := 2, code := jdk_42_method_79_code, exceptionTable := #[], attributes := #[] }
def k7m3 : Method := { name := "indexOf", desc := "(I)I", sig := { parameters := [.int], returnType := some .int }, accessFlags := 1, code := some k7c3 }
def k7c4 : Code := { maxStack := 4, maxLocals := 3, code := jdk_42_method_80_code, exceptionTable := #[], attributes := #[] }
def k7m4 : Method := { name := "indexOf", desc := "(II)I", sig := { parameters := [.int, .int], returnType := some .int }, accessFlags := 1, code := some k7c4 }
def k7c5 : Code := { maxStack := 4, maxLocals := 6, code := jdk_42_method_149_code, exceptionTable := #[], attributes := #[] }
def k7m5 : Method := { name := "<init>", desc := "([CIILjava/lang/Void;)V", sig := { parameters := [(.array .char), .int, .int, (.object "java/lang/Void")], returnType := none }, accessFlags := 2, code := some k7c5 }
def k7c6 : Code := { maxStack := 1, maxLocals := 1, code := jdk_42_method_152_code, exceptionTable := #[], attributes := #[] }
def k7m6 : Method := { name := "coder", desc := "()B", sig := { parameters := [], returnType := some .byte }, accessFlags := 0, code := some k7c6 }
def k7c7 : Code := { maxStack := 1, maxLocals := 1, code := jdk_42_method_154_code, exceptionTable := #[], attributes := #[] }
def k7m7 : Method := { name := "isLatin1", desc := "()Z", sig := { parameters := [], returnType := some .boolean }, accessFlags := 0, code := some k7c7 }
/-- java/lang/String -/
def k7 : Class := { plain "java/lang/String" (some 0) with
  accessFlags := 49
  interfaces := #[2, 3, 4, 5, 6]
  cf := some (fileOf pool7 10 #[.nestMembers #[1103]] #[{ accessFlags := 1, nameIndex := 5, descriptorIndex := 6, attributes := #[] }, { accessFlags := 1, nameIndex := 5, descriptorIndex := 1010, attributes := #[] }, { accessFlags := 1, nameIndex := 507, descriptorIndex := 334, attributes := #[] }, { accessFlags := 1, nameIndex := 635, descriptorIndex := 765, attributes := #[] }, { accessFlags := 1, nameIndex := 635, descriptorIndex := 636, attributes := #[] }, { accessFlags := 2, nameIndex := 5, descriptorIndex := 29, attributes := #[] }, { accessFlags := 0, nameIndex := 17, descriptorIndex := 337, attributes := #[] }, { accessFlags := 0, nameIndex := 494, descriptorIndex := 142, attributes := #[] }] 49 2 #[1106, 1108, 575, 1110, 1112] #[{ accessFlags := 18, nameIndex := 13, descriptorIndex := 14, attributes := #[] }, { accessFlags := 18, nameIndex := 17, descriptorIndex := 18, attributes := #[] }, { accessFlags := 2, nameIndex := 21, descriptorIndex := 22, attributes := #[] }, { accessFlags := 2, nameIndex := 25, descriptorIndex := 26, attributes := #[] }, { accessFlags := 26, nameIndex := 1116, descriptorIndex := 1117, attributes := #[] }, { accessFlags := 24, nameIndex := 40, descriptorIndex := 26, attributes := #[] }, { accessFlags := 26, nameIndex := 1101, descriptorIndex := 1102, attributes := #[] }, { accessFlags := 26, nameIndex := 1121, descriptorIndex := 1122, attributes := #[] }, { accessFlags := 25, nameIndex := 599, descriptorIndex := 600, attributes := #[] }, { accessFlags := 24, nameIndex := 1125, descriptorIndex := 18, attributes := #[] }, { accessFlags := 24, nameIndex := 1127, descriptorIndex := 18, attributes := #[] }])
  fields := #[{ name := "value", type := (.array .byte), accessFlags := 18, slot := 0, constantValue := 0 }, { name := "coder", type := .byte, accessFlags := 18, slot := 1, constantValue := 0 }, { name := "hash", type := .int, accessFlags := 2, slot := 2, constantValue := 0 }, { name := "hashIsZero", type := .boolean, accessFlags := 2, slot := 3, constantValue := 0 }, { name := "serialVersionUID", type := .long, accessFlags := 26, slot := 0, constantValue := 0 }, { name := "COMPACT_STRINGS", type := .boolean, accessFlags := 24, slot := 1, constantValue := 0 }, { name := "serialPersistentFields", type := (.array (.object "java/io/ObjectStreamField")), accessFlags := 26, slot := 2, constantValue := 0 }, { name := "REPL", type := .char, accessFlags := 26, slot := 3, constantValue := 0 }, { name := "CASE_INSENSITIVE_ORDER", type := (.object "java/util/Comparator"), accessFlags := 25, slot := 4, constantValue := 0 }, { name := "LATIN1", type := .byte, accessFlags := 24, slot := 5, constantValue := 0 }, { name := "UTF16", type := .byte, accessFlags := 24, slot := 6, constantValue := 0 }]
  methods := #[k7m0, k7m1, k7m2, k7m3, k7m4, k7m5, k7m6, k7m7]
  instanceTypes := #[(.array .byte), .byte, .int, .boolean]
  staticTypes := #[.long, .boolean, (.array (.object "java/io/ObjectStreamField")), .char, (.object "java/util/Comparator"), .byte, .byte]
  resolved := Array.replicate 1451 none
  statics := some 0 }

def pool8 : Array CpInfo := pool [(6, .class_ 8), (1, u "java/lang/Object"), (0, u "<init>"), (0, u "()V"), (1, .class_ 14), (1, u "java/lang/StringUTF16"), (31, u "$assertionsDisabled"), (0, u "Z"), (13, u "HI_BYTE_SHIFT"), (0, u "I"), (2, u "LO_BYTE_SHIFT"), (49, .methodref 12 116), (0, .nameAndType 117 118), (0, u "compress"), (0, u "([CI[BII)I"), (3, u "([CII)[B"), (138, u "coderFromArrayLen"), (0, u "([BI)B"), (106, .class_ 371), (1, u "java/lang/StringUTF16$LinesSpliterator"), (58, u "MAX_LENGTH"), (196, .class_ 628), (0, u "java/lang/StringUTF16$CodePointsSpliterator"), (0, .class_ 630), (0, u "java/lang/StringUTF16$CharsSpliterator")] 4

def k8m0 : Method := { name := "<init>", desc := "()V", sig := { parameters := [], returnType := none }, accessFlags := 0, code := none }
def k8c1 : Code := { maxStack := 2, maxLocals := 2, code := jdk_52_method_15_code, exceptionTable := #[], attributes := #[] }
def k8m1 : Method := { name := "coderFromArrayLen", desc := "([BI)B", sig := { parameters := [(.array .byte), .int], returnType := some .byte }, accessFlags := 8, code := some k8c1 }
def k8c2 : Code := { maxStack := 5, maxLocals := 6, code := jdk_52_method_16_code, exceptionTable := #[], attributes := #[] }
def k8m2 : Method := { name := "compress", desc := "([CII)[B", sig := { parameters := [(.array .char), .int, .int], returnType := some (.array .byte) }, accessFlags := 9, code := some k8c2 }
def k8c3 : Code := { maxStack := 3, maxLocals := 7, code := jdk_52_method_21_code, exceptionTable := #[], attributes := #[] }
def k8m3 : Method := { name := "compress", desc := "([CI[BII)I", sig := { parameters := [(.array .char), .int, (.array .byte), .int, .int], returnType := some .int }, accessFlags := 9, code := some k8c3 }
/-- java/lang/StringUTF16 -/
def k8 : Class := { plain "java/lang/StringUTF16" (some 0) with
  accessFlags := 48
  interfaces := #[]
  cf := some (fileOf pool8 12 #[.nestMembers #[627, 629, 369]] #[{ accessFlags := 0, nameIndex := 9, descriptorIndex := 10, attributes := #[] }, { accessFlags := 8, nameIndex := 261, descriptorIndex := 262, attributes := #[] }, { accessFlags := 9, nameIndex := 117, descriptorIndex := 122, attributes := #[] }, { accessFlags := 9, nameIndex := 117, descriptorIndex := 118, attributes := #[] }] 48 6 #[] #[{ accessFlags := 26, nameIndex := 61, descriptorIndex := 62, attributes := #[] }, { accessFlags := 26, nameIndex := 65, descriptorIndex := 62, attributes := #[] }, { accessFlags := 24, nameIndex := 430, descriptorIndex := 62, attributes := #[] }, { accessFlags := 4120, nameIndex := 46, descriptorIndex := 47, attributes := #[] }])
  fields := #[{ name := "HI_BYTE_SHIFT", type := .int, accessFlags := 26, slot := 0, constantValue := 0 }, { name := "LO_BYTE_SHIFT", type := .int, accessFlags := 26, slot := 1, constantValue := 0 }, { name := "MAX_LENGTH", type := .int, accessFlags := 24, slot := 2, constantValue := 0 }, { name := "$assertionsDisabled", type := .boolean, accessFlags := 4120, slot := 3, constantValue := 0 }]
  methods := #[k8m0, k8m1, k8m2, k8m3]
  instanceTypes := #[]
  staticTypes := #[.int, .int, .int, .boolean]
  resolved := Array.replicate 635 none
  statics := none }

def pool9 : Array CpInfo := pool [(2, .class_ 4), (1, u "java/lang/Object"), (0, u "<init>"), (0, u "()V"), (1, .class_ 10), (1, u "java/lang/String"), (21, .class_ 34), (1, u "com/example/termwell/termwell/tables/XmlText"), (0, u "PLAIN_TEXT"), (0, u "[Z"), (9, u "LONGS"), (0, u "Ljava/lang/invoke/VarHandle;"), (32, .methodref 8 81), (0, .nameAndType 82 83), (0, u "indexOf"), (0, u "(I)I"), (4, u "plainAscii"), (0, u "(Ljava/lang/String;)[Z"), (14, u "ESCAPED"), (0, u "Ljava/lang/String;")] 30

def k9m0 : Method := { name := "<init>", desc := "()V", sig := { parameters := [], returnType := none }, accessFlags := 2, code := none }
def k9c1 : Code := { maxStack := 4, maxLocals := 3, code := prog_152_method_8_code, exceptionTable := #[], attributes := #[] }
def k9m1 : Method := { name := "plainAscii", desc := "(Ljava/lang/String;)[Z", sig := { parameters := [(.object "java/lang/String")], returnType := some (.array .boolean) }, accessFlags := 9, code := some k9c1 }
/-- com/example/termwell/termwell/tables/XmlText -/
def k9 : Class := { plain "com/example/termwell/termwell/tables/XmlText" (some 0) with
  accessFlags := 49
  interfaces := #[]
  cf := some (fileOf pool9 32 #[] #[{ accessFlags := 2, nameIndex := 5, descriptorIndex := 6, attributes := #[] }, { accessFlags := 9, nameIndex := 88, descriptorIndex := 89, attributes := #[] }] 49 2 #[] #[{ accessFlags := 26, nameIndex := 104, descriptorIndex := 105, attributes := #[] }, { accessFlags := 26, nameIndex := 35, descriptorIndex := 36, attributes := #[] }, { accessFlags := 26, nameIndex := 46, descriptorIndex := 47, attributes := #[] }])
  fields := #[{ name := "ESCAPED", type := (.object "java/lang/String"), accessFlags := 26, slot := 0, constantValue := 0 }, { name := "PLAIN_TEXT", type := (.array .boolean), accessFlags := 26, slot := 1, constantValue := 0 }, { name := "LONGS", type := (.object "java/lang/invoke/VarHandle"), accessFlags := 26, slot := 2, constantValue := 0 }]
  methods := #[k9m0, k9m1]
  instanceTypes := #[]
  staticTypes := #[(.object "java/lang/String"), (.array .boolean), (.object "java/lang/invoke/VarHandle")]
  resolved := Array.replicate 136 none
  statics := none }

def pool10 : Array CpInfo := pool [(4, .class_ 6), (1, u "java/lang/Object"), (0, u "<init>"), (0, u "()V"), (5, .class_ 16), (1, u "java/lang/StringLatin1"), (21, .methodref 39 40), (0, .class_ 41), (0, .nameAndType 42 43), (0, u "java/lang/Math"), (0, u "min"), (0, u "(II)I"), (44, .methodref 14 89), (0, .nameAndType 90 91), (0, u "canEncode"), (0, u "(I)Z"), (0, .methodref 39 93), (0, .nameAndType 94 43), (0, u "max"), (0, .methodref 14 96), (0, .nameAndType 97 98), (0, u "indexOfChar"), (0, u "([BIII)I"), (2, u "indexOf"), (19, u "$assertionsDisabled"), (0, u "Z"), (98, .class_ 223), (1, u "java/lang/StringLatin1$LinesSpliterator"), (166, .class_ 391), (0, u "java/lang/StringLatin1$CharsSpliterator")] 3

def k10m0 : Method := { name := "<init>", desc := "()V", sig := { parameters := [], returnType := none }, accessFlags := 0, code := none }
def k10c1 : Code := { maxStack := 2, maxLocals := 1, code := jdk_43_method_4_code, exceptionTable := #[], attributes := #[] }
def k10m1 : Method := { name := "canEncode", desc := "(I)Z", sig := { parameters := [.int], returnType := some .boolean }, accessFlags := 9, code := some k10c1 }
def k10c2 : Code := { maxStack := 4, maxLocals := 4, code := jdk_43_method_22_code, exceptionTable := #[], attributes := #[] }
def k10m2 : Method := { name := "indexOf", desc := "([BIII)I", sig := { parameters := [(.array .byte), .int, .int, .int], returnType := some .int }, accessFlags := 9, code := some k10c2 }
def k10c3 : Code := { maxStack := 2, maxLocals := 6, code := jdk_43_method_23_code, exceptionTable := #[], attributes := #[] }
def k10m3 : Method := { name := "indexOfChar", desc := "([BIII)I", sig := { parameters := [(.array .byte), .int, .int, .int], returnType := some .int }, accessFlags := 10, code := some k10c3 }
/-- java/lang/StringLatin1 -/
def k10 : Class := { plain "java/lang/StringLatin1" (some 0) with
  accessFlags := 48
  interfaces := #[]
  cf := some (fileOf pool10 14 #[.nestMembers #[390, 221]] #[{ accessFlags := 0, nameIndex := 7, descriptorIndex := 8, attributes := #[] }, { accessFlags := 9, nameIndex := 90, descriptorIndex := 91, attributes := #[] }, { accessFlags := 9, nameIndex := 101, descriptorIndex := 98, attributes := #[] }, { accessFlags := 10, nameIndex := 97, descriptorIndex := 98, attributes := #[] }] 48 4 #[] #[{ accessFlags := 4120, nameIndex := 121, descriptorIndex := 122, attributes := #[] }])
  fields := #[{ name := "$assertionsDisabled", type := .boolean, accessFlags := 4120, slot := 0, constantValue := 0 }]
  methods := #[k10m0, k10m1, k10m2, k10m3]
  instanceTypes := #[]
  staticTypes := #[.boolean]
  resolved := Array.replicate 395 none
  statics := none }

def pool11 : Array CpInfo := pool [(1, .class_ 2), (0, u "java/lang/Math"), (1, .class_ 6), (1, u "java/lang/Object"), (0, u "<init>"), (0, u "()V"), (89, .class_ 100), (1, u "java/lang/Math$RandomNumberGeneratorHolder"), (71, u "negativeZeroFloatBits"), (0, u "J"), (2, u "negativeZeroDoubleBits"), (21, u "max"), (2, u "min"), (43, u "$assertionsDisabled"), (0, u "Z"), (88, u "(II)I"), (2, u "twoToTheDoubleScaleDown"), (0, u "D"), (4, u "twoToTheDoubleScaleUp"), (9, u "E"), (3, u "PI"), (2, u "TAU"), (2, u "DEGREES_TO_RADIANS"), (0, u "RADIANS_TO_DEGREES")] 94

def k11m0 : Method := { name := "<init>", desc := "()V", sig := { parameters := [], returnType := none }, accessFlags := 2, code := none }
def k11c1 : Code := { maxStack := 2, maxLocals := 2, code := jdk_29_method_65_code, exceptionTable := #[], attributes := #[] }
def k11m1 : Method := { name := "max", desc := "(II)I", sig := { parameters := [.int, .int], returnType := some .int }, accessFlags := 9, code := some k11c1 }
def k11c2 : Code := { maxStack := 2, maxLocals := 2, code := jdk_29_method_69_code, exceptionTable := #[], attributes := #[] }
def k11m2 : Method := { name := "min", desc := "(II)I", sig := { parameters := [.int, .int], returnType := some .int }, accessFlags := 9, code := some k11c2 }
/-- java/lang/Math -/
def k11 : Class := { plain "java/lang/Math" (some 0) with
  accessFlags := 49
  interfaces := #[]
  cf := some (fileOf pool11 1 #[.nestMembers #[98]] #[{ accessFlags := 2, nameIndex := 7, descriptorIndex := 8, attributes := #[] }, { accessFlags := 9, nameIndex := 198, descriptorIndex := 335, attributes := #[] }, { accessFlags := 9, nameIndex := 201, descriptorIndex := 335, attributes := #[] }] 49 4 #[] #[{ accessFlags := 25, nameIndex := 354, descriptorIndex := 339, attributes := #[] }, { accessFlags := 25, nameIndex := 358, descriptorIndex := 339, attributes := #[] }, { accessFlags := 25, nameIndex := 361, descriptorIndex := 339, attributes := #[] }, { accessFlags := 26, nameIndex := 364, descriptorIndex := 339, attributes := #[] }, { accessFlags := 26, nameIndex := 365, descriptorIndex := 339, attributes := #[] }, { accessFlags := 26, nameIndex := 172, descriptorIndex := 173, attributes := #[] }, { accessFlags := 26, nameIndex := 176, descriptorIndex := 173, attributes := #[] }, { accessFlags := 8, nameIndex := 344, descriptorIndex := 339, attributes := #[] }, { accessFlags := 8, nameIndex := 338, descriptorIndex := 339, attributes := #[] }, { accessFlags := 4120, nameIndex := 245, descriptorIndex := 246, attributes := #[] }])
  fields := #[{ name := "E", type := .double, accessFlags := 25, slot := 0, constantValue := 0 }, { name := "PI", type := .double, accessFlags := 25, slot := 1, constantValue := 0 }, { name := "TAU", type := .double, accessFlags := 25, slot := 2, constantValue := 0 }, { name := "DEGREES_TO_RADIANS", type := .double, accessFlags := 26, slot := 3, constantValue := 0 }, { name := "RADIANS_TO_DEGREES", type := .double, accessFlags := 26, slot := 4, constantValue := 0 }, { name := "negativeZeroFloatBits", type := .long, accessFlags := 26, slot := 5, constantValue := 0 }, { name := "negativeZeroDoubleBits", type := .long, accessFlags := 26, slot := 6, constantValue := 0 }, { name := "twoToTheDoubleScaleUp", type := .double, accessFlags := 8, slot := 7, constantValue := 0 }, { name := "twoToTheDoubleScaleDown", type := .double, accessFlags := 8, slot := 8, constantValue := 0 }, { name := "$assertionsDisabled", type := .boolean, accessFlags := 4120, slot := 9, constantValue := 0 }]
  methods := #[k11m0, k11m1, k11m2]
  instanceTypes := #[]
  staticTypes := #[.double, .double, .double, .double, .double, .long, .long, .double, .double, .boolean]
  resolved := Array.replicate 460 none
  statics := none }

def pool12 : Array CpInfo := pool [(2, .class_ 4), (1, u "java/lang/Object"), (0, u "<init>"), (0, u "()V"), (17, .class_ 26), (1, u "jdk/internal/util/Preconditions"), (28, .class_ 56), (0, u "jdk/internal/util/Preconditions$4"), (57, .class_ 115), (0, u "jdk/internal/util/Preconditions$1"), (7, u "SIOOBE_FORMATTER"), (0, u "Ljava/util/function/BiFunction;"), (0, .class_ 126), (0, u "jdk/internal/util/Preconditions$2"), (3, u "AIOOBE_FORMATTER"), (0, .class_ 132), (0, u "jdk/internal/util/Preconditions$3"), (3, u "IOOBE_FORMATTER")] 57

def k12m0 : Method := { name := "<init>", desc := "()V", sig := { parameters := [], returnType := none }, accessFlags := 1, code := none }
/-- jdk/internal/util/Preconditions -/
def k12 : Class := { plain "jdk/internal/util/Preconditions" (some 0) with
  accessFlags := 33
  interfaces := #[]
  cf := some (fileOf pool12 24 #[.nestMembers #[55, 131, 125, 114]] #[{ accessFlags := 1, nameIndex := 5, descriptorIndex := 6, attributes := #[] }] 33 2 #[] #[{ accessFlags := 25, nameIndex := 123, descriptorIndex := 124, attributes := #[] }, { accessFlags := 25, nameIndex := 130, descriptorIndex := 124, attributes := #[] }, { accessFlags := 25, nameIndex := 136, descriptorIndex := 124, attributes := #[] }])
  fields := #[{ name := "SIOOBE_FORMATTER", type := (.object "java/util/function/BiFunction"), accessFlags := 25, slot := 0, constantValue := 0 }, { name := "AIOOBE_FORMATTER", type := (.object "java/util/function/BiFunction"), accessFlags := 25, slot := 1, constantValue := 0 }, { name := "IOOBE_FORMATTER", type := (.object "java/util/function/BiFunction"), accessFlags := 25, slot := 2, constantValue := 0 }]
  methods := #[k12m0]
  instanceTypes := #[]
  staticTypes := #[(.object "java/util/function/BiFunction"), (.object "java/util/function/BiFunction"), (.object "java/util/function/BiFunction")]
  resolved := Array.replicate 194 none
  statics := some 1 }

def pool13 : Array CpInfo := pool [(9, u "<init>"), (6, .class_ 18), (1, u "java/lang/Object"), (0, u "()V"), (1, .class_ 23), (1, u "jdk/internal/util/ArraysSupport"), (0, u "LOG2_ARRAY_LONG_INDEX_SCALE"), (0, u "I"), (2, u "U"), (0, u "Ljdk/internal/misc/Unsafe;"), (8, u "BIG_ENDIAN"), (0, u "Z"), (8, u "LOG2_BYTE_BIT_SIZE"), (4, u "LOG2_ARRAY_INT_INDEX_SCALE"), (54, u "JLA"), (0, u "Ljdk/internal/access/JavaLangAccess;"), (11, u "LOG2_ARRAY_BOOLEAN_INDEX_SCALE"), (9, u "LOG2_ARRAY_BYTE_INDEX_SCALE"), (5, u "LOG2_ARRAY_CHAR_INDEX_SCALE"), (5, u "LOG2_ARRAY_SHORT_INDEX_SCALE"), (18, u "LOG2_ARRAY_FLOAT_INDEX_SCALE"), (24, u "LOG2_ARRAY_DOUBLE_INDEX_SCALE"), (89, u "T_BOOLEAN"), (2, u "T_CHAR"), (1, u "T_FLOAT"), (1, u "T_DOUBLE"), (1, u "T_BYTE"), (1, u "T_SHORT"), (1, u "T_INT"), (1, u "T_LONG"), (1, u "SOFT_MAX_ARRAY_LENGTH")] 83

def k13m0 : Method := { name := "<init>", desc := "()V", sig := { parameters := [], returnType := none }, accessFlags := 2, code := none }
/-- jdk/internal/util/ArraysSupport -/
def k13 : Class := { plain "jdk/internal/util/ArraysSupport" (some 0) with
  accessFlags := 33
  interfaces := #[]
  cf := some (fileOf pool13 21 #[] #[{ accessFlags := 2, nameIndex := 9, descriptorIndex := 19, attributes := #[] }] 33 16 #[] #[{ accessFlags := 24, nameIndex := 28, descriptorIndex := 29, attributes := #[] }, { accessFlags := 26, nameIndex := 38, descriptorIndex := 39, attributes := #[] }, { accessFlags := 25, nameIndex := 121, descriptorIndex := 25, attributes := #[] }, { accessFlags := 25, nameIndex := 131, descriptorIndex := 25, attributes := #[] }, { accessFlags := 25, nameIndex := 137, descriptorIndex := 25, attributes := #[] }, { accessFlags := 25, nameIndex := 143, descriptorIndex := 25, attributes := #[] }, { accessFlags := 25, nameIndex := 53, descriptorIndex := 25, attributes := #[] }, { accessFlags := 25, nameIndex := 24, descriptorIndex := 25, attributes := #[] }, { accessFlags := 25, nameIndex := 162, descriptorIndex := 25, attributes := #[] }, { accessFlags := 25, nameIndex := 187, descriptorIndex := 25, attributes := #[] }, { accessFlags := 26, nameIndex := 48, descriptorIndex := 25, attributes := #[] }, { accessFlags := 25, nameIndex := 277, descriptorIndex := 25, attributes := #[] }, { accessFlags := 25, nameIndex := 280, descriptorIndex := 25, attributes := #[] }, { accessFlags := 25, nameIndex := 282, descriptorIndex := 25, attributes := #[] }, { accessFlags := 25, nameIndex := 284, descriptorIndex := 25, attributes := #[] }, { accessFlags := 25, nameIndex := 286, descriptorIndex := 25, attributes := #[] }, { accessFlags := 25, nameIndex := 288, descriptorIndex := 25, attributes := #[] }, { accessFlags := 25, nameIndex := 290, descriptorIndex := 25, attributes := #[] }, { accessFlags := 25, nameIndex := 292, descriptorIndex := 25, attributes := #[] }, { accessFlags := 26, nameIndex := 108, descriptorIndex := 109, attributes := #[] }, { accessFlags := 25, nameIndex := 294, descriptorIndex := 25, attributes := #[] }])
  fields := #[{ name := "U", type := (.object "jdk/internal/misc/Unsafe"), accessFlags := 24, slot := 0, constantValue := 0 }, { name := "BIG_ENDIAN", type := .boolean, accessFlags := 26, slot := 1, constantValue := 0 }, { name := "LOG2_ARRAY_BOOLEAN_INDEX_SCALE", type := .int, accessFlags := 25, slot := 2, constantValue := 0 }, { name := "LOG2_ARRAY_BYTE_INDEX_SCALE", type := .int, accessFlags := 25, slot := 3, constantValue := 0 }, { name := "LOG2_ARRAY_CHAR_INDEX_SCALE", type := .int, accessFlags := 25, slot := 4, constantValue := 0 }, { name := "LOG2_ARRAY_SHORT_INDEX_SCALE", type := .int, accessFlags := 25, slot := 5, constantValue := 0 }, { name := "LOG2_ARRAY_INT_INDEX_SCALE", type := .int, accessFlags := 25, slot := 6, constantValue := 0 }, { name := "LOG2_ARRAY_LONG_INDEX_SCALE", type := .int, accessFlags := 25, slot := 7, constantValue := 0 }, { name := "LOG2_ARRAY_FLOAT_INDEX_SCALE", type := .int, accessFlags := 25, slot := 8, constantValue := 0 }, { name := "LOG2_ARRAY_DOUBLE_INDEX_SCALE", type := .int, accessFlags := 25, slot := 9, constantValue := 0 }, { name := "LOG2_BYTE_BIT_SIZE", type := .int, accessFlags := 26, slot := 10, constantValue := 0 }, { name := "T_BOOLEAN", type := .int, accessFlags := 25, slot := 11, constantValue := 0 }, { name := "T_CHAR", type := .int, accessFlags := 25, slot := 12, constantValue := 0 }, { name := "T_FLOAT", type := .int, accessFlags := 25, slot := 13, constantValue := 0 }, { name := "T_DOUBLE", type := .int, accessFlags := 25, slot := 14, constantValue := 0 }, { name := "T_BYTE", type := .int, accessFlags := 25, slot := 15, constantValue := 0 }, { name := "T_SHORT", type := .int, accessFlags := 25, slot := 16, constantValue := 0 }, { name := "T_INT", type := .int, accessFlags := 25, slot := 17, constantValue := 0 }, { name := "T_LONG", type := .int, accessFlags := 25, slot := 18, constantValue := 0 }, { name := "JLA", type := (.object "jdk/internal/access/JavaLangAccess"), accessFlags := 26, slot := 19, constantValue := 0 }, { name := "SOFT_MAX_ARRAY_LENGTH", type := .int, accessFlags := 25, slot := 20, constantValue := 0 }]
  methods := #[k13m0]
  instanceTypes := #[]
  staticTypes := #[(.object "jdk/internal/misc/Unsafe"), .boolean, .int, .int, .int, .int, .int, .int, .int, .int, .int, .int, .int, .int, .int, .int, .int, .int, .int, (.object "jdk/internal/access/JavaLangAccess"), .int]
  resolved := Array.replicate 378 none
  statics := none }

def pool14 : Array CpInfo := pool [(1, u "java/lang/Cloneable"), (0, .class_ 1), (0, u "java/lang/Object"), (0, .class_ 3)] 3

/-- java/lang/Cloneable -/
def k14 : Class := { plain "java/lang/Cloneable" (some 0) with
  accessFlags := 1537
  interfaces := #[]
  cf := some (fileOf pool14 2 #[] #[] 1537 4 #[] #[])
  fields := #[]
  methods := #[]
  instanceTypes := #[]
  staticTypes := #[]
  resolved := Array.replicate 8 none
  statics := none }

/-- the primitive boolean -/
def k15 : Class := { plain "boolean" none with kind := .primitive 'Z', accessFlags := 0x411 }
/-- [Z -/
def k16 : Class := { plain "[Z" (some 0) with kind := .array 15 .boolean, interfaces := #[14, 2], accessFlags := 1041 }

/-- the primitive byte -/
def k17 : Class := { plain "byte" none with kind := .primitive 'B', accessFlags := 0x411 }
/-- [B -/
def k18 : Class := { plain "[B" (some 0) with kind := .array 17 .byte, interfaces := #[14, 2], accessFlags := 1041 }

/-- the primitive char -/
def k19 : Class := { plain "char" none with kind := .primitive 'C', accessFlags := 0x411 }
/-- [C -/
def k20 : Class := { plain "[C" (some 0) with kind := .array 19 .char, interfaces := #[14, 2], accessFlags := 1041 }

/-- the primitive int -/
def k21 : Class := { plain "int" none with kind := .primitive 'I', accessFlags := 0x411 }
/-- [I -/
def k22 : Class := { plain "[I" (some 0) with kind := .array 21 .int, interfaces := #[14, 2], accessFlags := 1041 }

def heap : Heap := #[{ cls := 7, slots := #[.long 0, .int 1, .null, .int 0, .null, .int 0, .int 0], vm := .statics 7 },
  { cls := 12, slots := #[.null, .null, .null], vm := .statics 12 }]
def classes : Array Class := #[k0, k1, k2, k3, k4, k5, k6, k7, k8, k9, k10, k11, k12, k13, k14, k15, k16, k17, k18, k19, k20, k21, k22]
def interned : List (Array UInt16 × Addr) := []
def slotsUsed : Nat := 10
def theMethod : MethodId := ⟨1, 1⟩
def args0 : Array Value := #[.int 65, .int 66, .int 67, .int 2, .int 65, .int 70]
def aboutOver (below : List Frame) : State where
  vm := { classes := classes, interned := interned.toArray }
  heap := heap
  slotsUsed := slotsUsed
  threads := #[{ frames := .invoking theMethod args0 :: below }]
def below0 : List Frame := [.native { method := ⟨0, 0⟩, args := #[] }]
def about1 : State := aboutOver below0
def p0 : Program := .bare "" "" ""
def e0 : Env := launch0.env 0 0 0
theorem w_frames : about1.frames = Frame.invoking theMethod args0 :: below0 := rfl
set_option maxRecDepth 65536 in
theorem w_args : argsFit about1.vm theMethod args0 = true := by decide +kernel
set_option maxRecDepth 65536 in
theorem w_heap : heapFits about1 = true := by decide +kernel
set_option maxRecDepth 65536 in
theorem w_runnable : about1.curStatus? = some .runnable := by decide +kernel
set_option maxRecDepth 65536 in
theorem w_alone : about1.alone = true := by decide +kernel
set_option maxRecDepth 65536 in
theorem w_named : about1.methodNamed? x = some theMethod := by decide +kernel
set_option maxRecDepth 65536 in
theorem w_hears : about1.hears theMethod below0 = true := by decide +kernel
set_option maxRecDepth 65536 in
theorem w_ripe : about1.ripe theMethod args0 below0 = true := by decide +kernel
theorem w_running : about1.status = .running := rfl
set_option maxRecDepth 65536 in
theorem w_room : about1.hasRoom e0.platform room_1 = true :=
  launch0.hasRoom_least _ room_1 (by decide +kernel) (by decide +kernel) (by decide +kernel) (by decide +kernel) (by decide +kernel) (by decide +kernel)
theorem allAtoms_all (ts : List Jvm.Cond) (a : Array Jvm.Value) (st : Jvm.State) : (allAtoms ts).before a st = ts.all (fun c => c.before a st) := by
  induction ts with
  | nil => rfl
  | cons c t ih =>
    show (Jvm.Cond.and c (allAtoms t)).before a st = _
    rw [Jvm.Cond.before_and, ih, List.all_cons]
def words1 : List Jvm.Cond := Jvm.Cond.code x code maxLocals ret :: tables_1
/-- a 'code' word, met by the world's own term for the bytes: nothing is compared byte by byte -/
theorem code_word {y : MethodName} {bytes : ByteArray} {mx : Nat} {rt : Option FieldType} {a : Array Value} {s : State} {m : MethodId} {meth : Method} {c : Code} (h1 : s.methodNamed? y = some m) (h2 : s.vm.method? m = some meth) (h3 : meth.code = some c) (h4 : c.code = bytes)
    (h5 : (c.maxLocals == mx && c.exceptionTable.isEmpty && decide (c.maxStack ≤ mostOperands) && decide (meth.sig.returnType = rt) && !meth.locks && decide (parseMethodDescriptor y.desc = some meth.sig)) = true) : (Jvm.Cond.code y bytes mx rt).before a s = true := by
  simp only [Bool.and_eq_true, beq_iff_eq, Bool.not_eq_true', decide_eq_true_eq] at h5
  obtain ⟨⟨⟨⟨⟨g1, g2⟩, g3⟩, g4⟩, g5⟩, g6⟩ := h5
  simp [Cond.before, Cond.holds, Cond.value, h1, h2, h3, h4, g1, g2, g3, g4, g5, g6]
def isCode : Jvm.Cond → Bool
  | .code _ _ _ _ => true
  | _ => false
theorem all_split {L : List Jvm.Cond} {P : Jvm.Cond → Bool} (h1 : L.all (fun c => isCode c || P c) = true) (h2 : ∀ c ∈ L.filter isCode, P c = true) : L.all P = true := by
  refine List.all_eq_true.mpr fun c hc => ?_
  have h := List.all_eq_true.mp h1 c hc
  rcases Bool.eq_false_or_eq_true (isCode c) with hi | hi
  · exact h2 c (List.mem_filter.mpr ⟨hc, hi⟩)
  · simpa [hi] using h
set_option maxRecDepth 65536 in
theorem w_c0 : (Jvm.Cond.code x code maxLocals ret).before args0 about1 = true := code_word (m := ⟨1, 1⟩) (meth := k1m1) (c := k1c1) (by decide +kernel) rfl rfl rfl (by decide +kernel)
set_option maxRecDepth 65536 in
theorem w_c1 : (Jvm.Cond.code ({ cls := "com/example/termwell/termwell/tables/XmlTextPlainAsciiPinLaw", name := "make", desc := "(ICCC)Ljava/lang/String;" } : Jvm.MethodName) method_3_code (4 : Nat) (Option.some (Jvm.ClassFile.FieldType.object "java/lang/String"))).before args0 about1 = true := code_word (m := ⟨1, 2⟩) (meth := k1m2) (c := k1c2) (by decide +kernel) rfl rfl rfl (by decide +kernel)
set_option maxRecDepth 65536 in
theorem w_c2 : (Jvm.Cond.code ({ cls := "java/lang/String", name := "<init>", desc := "([C)V" } : Jvm.MethodName) jdk_42_method_3_code (2 : Nat) (Option.none : Option Jvm.ClassFile.FieldType)).before args0 about1 = true := code_word (m := ⟨7, 1⟩) (meth := k7m1) (c := k7c1) (by decide +kernel) rfl rfl rfl (by decide +kernel)
set_option maxRecDepth 65536 in
theorem w_c3 : (Jvm.Cond.code ({ cls := "java/lang/String", name := "<init>", desc := "([CIILjava/lang/Void;)V" } : Jvm.MethodName) jdk_42_method_149_code (6 : Nat) (Option.none : Option Jvm.ClassFile.FieldType)).before args0 about1 = true := code_word (m := ⟨7, 5⟩) (meth := k7m5) (c := k7c5) (by decide +kernel) rfl rfl rfl (by decide +kernel)
set_option maxRecDepth 65536 in
theorem w_c4 : (Jvm.Cond.code ({ cls := "java/lang/Object", name := "<init>", desc := "()V" } : Jvm.MethodName) object_method_1_code (1 : Nat) (Option.none : Option Jvm.ClassFile.FieldType)).before args0 about1 = true := code_word (m := ⟨0, 0⟩) (meth := k0m0) (c := k0c0) (by decide +kernel) rfl rfl rfl (by decide +kernel)
set_option maxRecDepth 65536 in
theorem w_c5 : (Jvm.Cond.code ({ cls := "java/lang/StringUTF16", name := "compress", desc := "([CII)[B" } : Jvm.MethodName) jdk_52_method_16_code (6 : Nat) (Option.some (Jvm.ClassFile.FieldType.array Jvm.ClassFile.FieldType.byte))).before args0 about1 = true := code_word (m := ⟨8, 2⟩) (meth := k8m2) (c := k8c2) (by decide +kernel) rfl rfl rfl (by decide +kernel)
set_option maxRecDepth 65536 in
theorem w_c6 : (Jvm.Cond.code ({ cls := "java/lang/StringUTF16", name := "compress", desc := "([CI[BII)I" } : Jvm.MethodName) jdk_52_method_21_code (7 : Nat) (Option.some Jvm.ClassFile.FieldType.int)).before args0 about1 = true := code_word (m := ⟨8, 3⟩) (meth := k8m3) (c := k8c3) (by decide +kernel) rfl rfl rfl (by decide +kernel)
set_option maxRecDepth 65536 in
theorem w_c7 : (Jvm.Cond.code ({ cls := "java/lang/StringUTF16", name := "coderFromArrayLen", desc := "([BI)B" } : Jvm.MethodName) jdk_52_method_15_code (2 : Nat) (Option.some Jvm.ClassFile.FieldType.byte)).before args0 about1 = true := code_word (m := ⟨8, 1⟩) (meth := k8m1) (c := k8c1) (by decide +kernel) rfl rfl rfl (by decide +kernel)
set_option maxRecDepth 65536 in
theorem w_c8 : (Jvm.Cond.code ({ cls := "com/example/termwell/termwell/tables/XmlText", name := "plainAscii", desc := "(Ljava/lang/String;)[Z" } : Jvm.MethodName) prog_152_method_8_code (3 : Nat) (Option.some (Jvm.ClassFile.FieldType.array Jvm.ClassFile.FieldType.boolean))).before args0 about1 = true := code_word (m := ⟨9, 1⟩) (meth := k9m1) (c := k9c1) (by decide +kernel) rfl rfl rfl (by decide +kernel)
set_option maxRecDepth 65536 in
theorem w_c9 : (Jvm.Cond.code ({ cls := "java/lang/String", name := "indexOf", desc := "(I)I" } : Jvm.MethodName) jdk_42_method_79_code (2 : Nat) (Option.some Jvm.ClassFile.FieldType.int)).before args0 about1 = true := code_word (m := ⟨7, 3⟩) (meth := k7m3) (c := k7c3) (by decide +kernel) rfl rfl rfl (by decide +kernel)
set_option maxRecDepth 65536 in
theorem w_c10 : (Jvm.Cond.code ({ cls := "java/lang/String", name := "indexOf", desc := "(II)I" } : Jvm.MethodName) jdk_42_method_80_code (3 : Nat) (Option.some Jvm.ClassFile.FieldType.int)).before args0 about1 = true := code_word (m := ⟨7, 4⟩) (meth := k7m4) (c := k7c4) (by decide +kernel) rfl rfl rfl (by decide +kernel)
set_option maxRecDepth 65536 in
theorem w_c11 : (Jvm.Cond.code ({ cls := "java/lang/String", name := "isLatin1", desc := "()Z" } : Jvm.MethodName) jdk_42_method_154_code (1 : Nat) (Option.some Jvm.ClassFile.FieldType.boolean)).before args0 about1 = true := code_word (m := ⟨7, 7⟩) (meth := k7m7) (c := k7c7) (by decide +kernel) rfl rfl rfl (by decide +kernel)
set_option maxRecDepth 65536 in
theorem w_c12 : (Jvm.Cond.code ({ cls := "java/lang/String", name := "length", desc := "()I" } : Jvm.MethodName) jdk_42_method_54_code (1 : Nat) (Option.some Jvm.ClassFile.FieldType.int)).before args0 about1 = true := code_word (m := ⟨7, 2⟩) (meth := k7m2) (c := k7c2) (by decide +kernel) rfl rfl rfl (by decide +kernel)
set_option maxRecDepth 65536 in
theorem w_c13 : (Jvm.Cond.code ({ cls := "java/lang/String", name := "coder", desc := "()B" } : Jvm.MethodName) jdk_42_method_152_code (1 : Nat) (Option.some Jvm.ClassFile.FieldType.byte)).before args0 about1 = true := code_word (m := ⟨7, 6⟩) (meth := k7m6) (c := k7c6) (by decide +kernel) rfl rfl rfl (by decide +kernel)
set_option maxRecDepth 65536 in
theorem w_c14 : (Jvm.Cond.code ({ cls := "java/lang/StringLatin1", name := "indexOf", desc := "([BIII)I" } : Jvm.MethodName) jdk_43_method_22_code (4 : Nat) (Option.some Jvm.ClassFile.FieldType.int)).before args0 about1 = true := code_word (m := ⟨10, 2⟩) (meth := k10m2) (c := k10c2) (by decide +kernel) rfl rfl rfl (by decide +kernel)
set_option maxRecDepth 65536 in
theorem w_c15 : (Jvm.Cond.code ({ cls := "java/lang/StringLatin1", name := "canEncode", desc := "(I)Z" } : Jvm.MethodName) jdk_43_method_4_code (1 : Nat) (Option.some Jvm.ClassFile.FieldType.boolean)).before args0 about1 = true := code_word (m := ⟨10, 1⟩) (meth := k10m1) (c := k10c1) (by decide +kernel) rfl rfl rfl (by decide +kernel)
set_option maxRecDepth 65536 in
theorem w_c16 : (Jvm.Cond.code ({ cls := "java/lang/Math", name := "max", desc := "(II)I" } : Jvm.MethodName) jdk_29_method_65_code (2 : Nat) (Option.some Jvm.ClassFile.FieldType.int)).before args0 about1 = true := code_word (m := ⟨11, 1⟩) (meth := k11m1) (c := k11c1) (by decide +kernel) rfl rfl rfl (by decide +kernel)
set_option maxRecDepth 65536 in
theorem w_c17 : (Jvm.Cond.code ({ cls := "java/lang/Math", name := "min", desc := "(II)I" } : Jvm.MethodName) jdk_29_method_69_code (2 : Nat) (Option.some Jvm.ClassFile.FieldType.int)).before args0 about1 = true := code_word (m := ⟨11, 2⟩) (meth := k11m2) (c := k11c2) (by decide +kernel) rfl rfl rfl (by decide +kernel)
set_option maxRecDepth 65536 in
theorem w_c18 : (Jvm.Cond.code ({ cls := "java/lang/StringLatin1", name := "indexOfChar", desc := "([BIII)I" } : Jvm.MethodName) jdk_43_method_23_code (6 : Nat) (Option.some Jvm.ClassFile.FieldType.int)).before args0 about1 = true := code_word (m := ⟨10, 3⟩) (meth := k10m3) (c := k10c3) (by decide +kernel) rfl rfl rfl (by decide +kernel)
set_option maxRecDepth 65536 in
theorem w_c19 : (Jvm.Cond.code ({ cls := "com/example/termwell/termwell/tables/XmlTextPlainAsciiPinLaw", name := "expected", desc := "(IICCC)Z" } : Jvm.MethodName) method_4_code (6 : Nat) (Option.some Jvm.ClassFile.FieldType.boolean)).before args0 about1 = true := code_word (m := ⟨1, 3⟩) (meth := k1m3) (c := k1c3) (by decide +kernel) rfl rfl rfl (by decide +kernel)
def codes1 : List Jvm.Cond := [Jvm.Cond.code x code maxLocals ret, Jvm.Cond.code ({ cls := "com/example/termwell/termwell/tables/XmlTextPlainAsciiPinLaw", name := "make", desc := "(ICCC)Ljava/lang/String;" } : Jvm.MethodName) method_3_code (4 : Nat) (Option.some (Jvm.ClassFile.FieldType.object "java/lang/String")), Jvm.Cond.code ({ cls := "java/lang/String", name := "<init>", desc := "([C)V" } : Jvm.MethodName) jdk_42_method_3_code (2 : Nat) (Option.none : Option Jvm.ClassFile.FieldType), Jvm.Cond.code ({ cls := "java/lang/String", name := "<init>", desc := "([CIILjava/lang/Void;)V" } : Jvm.MethodName) jdk_42_method_149_code (6 : Nat) (Option.none : Option Jvm.ClassFile.FieldType), Jvm.Cond.code ({ cls := "java/lang/Object", name := "<init>", desc := "()V" } : Jvm.MethodName) object_method_1_code (1 : Nat) (Option.none : Option Jvm.ClassFile.FieldType), Jvm.Cond.code ({ cls := "java/lang/StringUTF16", name := "compress", desc := "([CII)[B" } : Jvm.MethodName) jdk_52_method_16_code (6 : Nat) (Option.some (Jvm.ClassFile.FieldType.array Jvm.ClassFile.FieldType.byte)), Jvm.Cond.code ({ cls := "java/lang/StringUTF16", name := "compress", desc := "([CI[BII)I" } : Jvm.MethodName) jdk_52_method_21_code (7 : Nat) (Option.some Jvm.ClassFile.FieldType.int), Jvm.Cond.code ({ cls := "java/lang/StringUTF16", name := "coderFromArrayLen", desc := "([BI)B" } : Jvm.MethodName) jdk_52_method_15_code (2 : Nat) (Option.some Jvm.ClassFile.FieldType.byte), Jvm.Cond.code ({ cls := "com/example/termwell/termwell/tables/XmlText", name := "plainAscii", desc := "(Ljava/lang/String;)[Z" } : Jvm.MethodName) prog_152_method_8_code (3 : Nat) (Option.some (Jvm.ClassFile.FieldType.array Jvm.ClassFile.FieldType.boolean)), Jvm.Cond.code ({ cls := "java/lang/String", name := "indexOf", desc := "(I)I" } : Jvm.MethodName) jdk_42_method_79_code (2 : Nat) (Option.some Jvm.ClassFile.FieldType.int), Jvm.Cond.code ({ cls := "java/lang/String", name := "indexOf", desc := "(II)I" } : Jvm.MethodName) jdk_42_method_80_code (3 : Nat) (Option.some Jvm.ClassFile.FieldType.int), Jvm.Cond.code ({ cls := "java/lang/String", name := "isLatin1", desc := "()Z" } : Jvm.MethodName) jdk_42_method_154_code (1 : Nat) (Option.some Jvm.ClassFile.FieldType.boolean), Jvm.Cond.code ({ cls := "java/lang/String", name := "length", desc := "()I" } : Jvm.MethodName) jdk_42_method_54_code (1 : Nat) (Option.some Jvm.ClassFile.FieldType.int), Jvm.Cond.code ({ cls := "java/lang/String", name := "coder", desc := "()B" } : Jvm.MethodName) jdk_42_method_152_code (1 : Nat) (Option.some Jvm.ClassFile.FieldType.byte), Jvm.Cond.code ({ cls := "java/lang/StringLatin1", name := "indexOf", desc := "([BIII)I" } : Jvm.MethodName) jdk_43_method_22_code (4 : Nat) (Option.some Jvm.ClassFile.FieldType.int), Jvm.Cond.code ({ cls := "java/lang/StringLatin1", name := "canEncode", desc := "(I)Z" } : Jvm.MethodName) jdk_43_method_4_code (1 : Nat) (Option.some Jvm.ClassFile.FieldType.boolean), Jvm.Cond.code ({ cls := "java/lang/Math", name := "max", desc := "(II)I" } : Jvm.MethodName) jdk_29_method_65_code (2 : Nat) (Option.some Jvm.ClassFile.FieldType.int), Jvm.Cond.code ({ cls := "java/lang/Math", name := "min", desc := "(II)I" } : Jvm.MethodName) jdk_29_method_69_code (2 : Nat) (Option.some Jvm.ClassFile.FieldType.int), Jvm.Cond.code ({ cls := "java/lang/StringLatin1", name := "indexOfChar", desc := "([BIII)I" } : Jvm.MethodName) jdk_43_method_23_code (6 : Nat) (Option.some Jvm.ClassFile.FieldType.int), Jvm.Cond.code ({ cls := "com/example/termwell/termwell/tables/XmlTextPlainAsciiPinLaw", name := "expected", desc := "(IICCC)Z" } : Jvm.MethodName) method_4_code (6 : Nat) (Option.some Jvm.ClassFile.FieldType.boolean)]
set_option maxRecDepth 65536 in
theorem codes_eq : words1.filter isCode = codes1 := rfl
theorem w_codes : ∀ c ∈ words1.filter isCode, c.before args0 about1 = true := by
  rw [codes_eq]
  intro c hc
  simp only [codes1, List.mem_cons, List.not_mem_nil, or_false] at hc
  rcases hc with rfl | rfl | rfl | rfl | rfl | rfl | rfl | rfl | rfl | rfl | rfl | rfl | rfl | rfl | rfl | rfl | rfl | rfl | rfl | rfl
  · exact w_c0
  · exact w_c1
  · exact w_c2
  · exact w_c3
  · exact w_c4
  · exact w_c5
  · exact w_c6
  · exact w_c7
  · exact w_c8
  · exact w_c9
  · exact w_c10
  · exact w_c11
  · exact w_c12
  · exact w_c13
  · exact w_c14
  · exact w_c15
  · exact w_c16
  · exact w_c17
  · exact w_c18
  · exact w_c19
set_option maxRecDepth 65536 in
theorem w_t1 : (words1.take 24).all (fun c => isCode c || c.before args0 about1) = true := by decide +kernel
set_option maxRecDepth 65536 in
theorem w_t2 : ((words1.drop 24).take 24).all (fun c => isCode c || c.before args0 about1) = true := by decide +kernel
set_option maxRecDepth 65536 in
theorem w_t3 : (((words1.drop 24).drop 24).take 24).all (fun c => isCode c || c.before args0 about1) = true := by decide +kernel
set_option maxRecDepth 65536 in
theorem w_t4 : (((words1.drop 24).drop 24).drop 24).all (fun c => isCode c || c.before args0 about1) = true := by decide +kernel
theorem w_tables : (allAtoms (Jvm.Cond.code x code maxLocals ret :: tables_1)).before args0 about1 = true := by
  rw [allAtoms_all]
  show words1.all (fun c => c.before args0 about1) = true
  refine all_split ?_ w_codes
  rw [← List.take_append_drop 24 words1, List.all_append, w_t1, ← List.take_append_drop 24 (words1.drop 24), List.all_append, w_t2, ← List.take_append_drop 24 ((words1.drop 24).drop 24), List.all_append, w_t3, w_t4]
  rfl
set_option maxRecDepth 65536 in
theorem w_rest : rest_1_c.before args0 about1 = true := by decide +kernel
set_option maxRecDepth 65536 in
theorem w_case : (Jvm.Cond.and given_1 narrow_1).before args0 about1 = true := by decide +kernel
set_option maxRecDepth 65536 in
theorem w_consts : constsHeld consts_1 about1 := Jvm.Lit.constsHeldB_iff.mp (by decide +kernel)
theorem w_applies : (headSpec (Jvm.Cond.code x code maxLocals ret :: tables_1) room_1).applies x e0.platform about1 = true :=
  (Spec.applies_iff w_frames).mpr ⟨w_running, w_runnable, w_alone, w_named, w_hears, w_ripe, w_room, w_tables⟩
theorem atStart : AtStart classFile x code maxLocals ret World_1 tables_1 room_1 Calls_1 rest_1 Pre_1 launch0 p0 e0 about1 theMethod args0 below0 :=
  ⟨lists_1, trivial, launch0.admits_env _ _ _, launch0.least_env, fairChoices_fair.cas, fairChoices_fair.clock, w_frames, w_args, w_heap, w_applies, ⟨w_consts, trivial⟩, w_rest, w_case⟩
end start1
theorem witness_1 : WitnessClaimed_1 := ⟨start1.p0, start1.e0, start1.about1, start1.theMethod, start1.args0, start1.below0, start1.atStart⟩
end Jvm.Pilot.@@N@@
