import JvmDerived
import JvmDerived.Pilot.@@N@@Statement
import JvmDerived.Pilot.@@N@@Code
set_option linter.unusedVariables false
set_option linter.unusedSimpArgs false
namespace Jvm.RoadKit
open Sem ClassFile Op Lib Jvm.Stand Jvm.Free Jvm.LawKit
section New
variable {p : Program} {l : Launch} {e : Env} {R : Room} {s : State} {m : MethodId} {args : Array Value} {below : List Frame} {meth : Method} {c : Code} {T : State} {locs : List Loc} {cells slots : Nat}
theorem retI (X : Stand p l e R s m args below meth c T locs cells slots) (hx : p.tables.exec = Jvm.exec) {pc : Nat} {Ls : Array Slot} {z : Int32} {rest : List Value} (hret : meth.sig.returnType = some .int) (hd : decode c.code pc = .ok (.ireturn, 1)) {fs : List Frame}
    (hl : ∀ (f : JFrame) (acts : List Action), f.method = m → f.locked = none → f.entered = [] → (doReturn e (T.setTop f) acts (some (.int z))).1 = T.setFrames fs) : Steps p.tables e below (T.setTop (mkF m pc Ls (.int z :: rest))) (T.setFrames fs) := by
  have hm' : T.vm.method? m = some meth := X.method'
  have hn : narrow .int (.int z) = .int z := rfl
  show Steps p.tables e below (T.setTop { method := m, pc := pc, locals := Ls, stack := _ :: rest, locked := none }) _
  jvm_step X.here [X.here.top, hx, hd, hm', hret, hn]
  first | (intro acts; rw [hl _ acts rfl rfl rfl]) | rw [hl _ _ rfl rfl rfl]
  exact Steps.refl _
end New
theorem own_sta_keep {Z : State} {h h' : Heap} {C n d : String} {v : Value} {ws : List Addr} (F : Sta Z h C n d v) (K : Keep h h' ws) (q : ∀ x ∈ ws, ∀ cell : Cell, h[x]? = some cell → cell.vm.isStatics = false) : Sta Z h' C n d v := by
  obtain ⟨cf, i, k, f, st, cell, h1, h2, h3, h4, h5, h6, h7⟩ := F
  exact ⟨cf, i, k, f, st, cell, h1, h2, h3, h4, K.2.1 st cell h5 (fun hm => by rw [q st hm cell h5] at h6; cases h6), h6, h7⟩
/-- a class that is none of the interfaces -/
def NoFace (Z : State) (N : String) : Prop := ∃ (c : ClassId) (k : Class), Z.vm.findClass N = some c ∧ Z.vm.classes[c]? = some k ∧ k.isInterface = false
theorem own_noface {Z : State} {a0 : Array Value} {C : String} {y : MethodName} (w : (Cond.selects C y y).before a0 Z = true) : NoFace Z y.cls := by
  obtain ⟨c2, r2, m2, q1, q2, q3, q4, kP, hkP, hkPi⟩ := Cond.selects_spec w
  exact ⟨m2.cls, kP, findClass_of_methodNamed q3, hkP, hkPi⟩
theorem own_same {Z : State} {a0 : Array Value} {y : MethodName} (F : NoFace Z y.cls) (wi : (Cond.instanceMethod y).before a0 Z = true) (hy : y.cls ≠ "java/lang/invoke/MethodHandle" ∧ y.cls ≠ "java/lang/invoke/VarHandle") : (Cond.sameMethod y.cls y.cls y.name y.desc).before a0 Z = true := by
  obtain ⟨c, k, h1, h2, h3⟩ := F
  obtain ⟨mk, methM, hnamed, hmethM, -, -⟩ := Cond.instanceMethod_spec wi
  have hfound : Z.methodFound? y.cls y.name y.desc = some mk := State.methodFound?_of_named hnamed hy
  have hn : Z.methodNamed? ⟨y.cls, y.name, y.desc⟩ = some mk := hnamed
  simp only [Cond.before, Cond.holds, Cond.value, h1, hfound, hn, h2]
  simp; exact h3
theorem own_psel {Z : State} {a0 : Array Value} {y : MethodName} (F : NoFace Z y.cls) (wi : (Cond.instanceMethod y).before a0 Z = true) (wp : (Cond.privateMethod y).before a0 Z = true) (hy : y.cls ≠ "java/lang/invoke/MethodHandle" ∧ y.cls ≠ "java/lang/invoke/VarHandle") : (Cond.selects y.cls y y).before a0 Z = true := by
  obtain ⟨c, k, h1, h2, h3⟩ := F
  exact selects_self_of_private h1 h2 h3 (Cond.privateMethod_at wp) wi hy
/-- from A the run goes on as from B -/
def Rch (tb : Tables) (e : Env) (below : List Frame) (A B : State) : Prop := ∀ t, Steps tb e below B t → Steps tb e below A t
end Jvm.RoadKit
namespace Jvm.Pilot.@@N@@
open Jvm Jvm.ClassFile Sem Op Lib Jvm.Free Jvm.Stand Jvm.LawKit Jvm.RoadKit Bundle Jvm.Pilot.@@N@@.Jvm.D
/-- the table's content -/
def PT (j : Int32) : Int32 := if j = 13 then 0 else if j = 38 then 0 else if j = 60 then 0 else if j = 62 then 0 else 1
theorem own_b_lt (x : Int32) : x.toInt8.toInt32 < 128 := by
  have h1 : (x.toInt8.toInt32).toInt = x.toInt8.toInt := Int8.toInt_toInt32 _
  have h2 := x.toInt8.toInt_lt
  rw [Int32.lt_iff_toInt_lt, h1]
  have e : (128 : Int32).toInt = 128 := by decide
  omega
theorem own_law (b esc ex : Int32) (h1 : esc = (if b = (38 : Int32) then (1 : Int32) else (if b = (60 : Int32) then (1 : Int32) else (if b = (62 : Int32) then (1 : Int32) else (if b = (13 : Int32) then (1 : Int32) else (0 : Int32))))))
    (h2 : ex = (if esc = (0 : Int32) then (1 : Int32) else (0 : Int32))) : (if b < 0 then 1 else PT b) = ex := by
  subst h2 h1
  unfold PT
  by_cases a : b = 38
  · subst a; decide
  by_cases c : b = 60
  · subst c; decide
  by_cases d : b = 62
  · subst d; decide
  by_cases f : b = 13
  · subst f; decide
  simp [a, c, d, f]
theorem d1_0 : decode prog_152_method_5_code 0 = .ok (.iload_n 0, 1) := by decide +kernel
theorem d1_1 : decode prog_152_method_5_code 1 = .ok (.ifCond .lt 11, 3) := by decide +kernel
theorem d1_12 : decode prog_152_method_5_code 12 = .ok (.iconst 1, 1) := by decide +kernel
theorem d1_13 : decode prog_152_method_5_code 13 = .ok (.goto 4, 3) := by decide +kernel
theorem d1_17 : decode prog_152_method_5_code 17 = .ok (.ireturn, 1) := by decide +kernel
theorem d1_4 : decode prog_152_method_5_code 4 = .ok (.getstatic 31, 3) := by decide +kernel
theorem d1_7 : decode prog_152_method_5_code 7 = .ok (.iload_n 0, 1) := by decide +kernel
theorem d1_8 : decode prog_152_method_5_code 8 = .ok (.baload, 1) := by decide +kernel
theorem d1_9 : decode prog_152_method_5_code 9 = .ok (.ifCond .eq 7, 3) := by decide +kernel
theorem d1_16 : decode prog_152_method_5_code 16 = .ok (.iconst 0, 1) := by decide +kernel
theorem pn_0 : plainName "com/example/termwell/termwell/tables/XmlText" = true := by first | (simp [plainName, overriddenIn]; done) | decide +kernel
theorem ef_1 (m : MethodId) (x0 : Int32) : entryFrame m #[(.int x0)] 1 = mkF m 0 #[.val (.int x0)] [] := by first | (simp [entryFrame, mkF, argsToLocals, Value.category]; done) | rfl
def Q1 (Z : State) (p1 : Int32) (w : Addr) (cl : Cell) (h0 : Heap) (n0 : Nat) (v : Option Value) (h : Heap) (L : List Loc) : Prop := v = some (.int (if p1 < 0 then 1 else PT p1)) ∧ Fr n0 L ∧ h = h0
set_option maxRecDepth 65536 in
set_option maxHeartbeats 40000000 in
theorem rm1 (l : Launch) (Z : State) (a0 : Array Value) (hw : ∀ d ∈ tables_1, d.before a0 Z = true) (ws : List Jvm.Cond) (p1 : Int32) (w : Addr) (cl : Cell) (h0 : Heap) (n0 : Nat) (Z0 : n0 ≤ h0.size) (S1 : Sta Z h0 "com/example/termwell/termwell/tables/XmlText" "PLAIN_TEXT" "[Z" (.ref w)) (A1 : Arr Z h0 w cl .boolean) (hcl : ∀ j : Int32, ¬ j < 0 → j < 128 → ¬ (j < 0 ∨ cl.slots.size ≤ j.toNatClampNeg) ∧ cl.slots[j.toNatClampNeg]? = some (.int (PT j))) (hp : p1 < 128) :
    MetFree l (⟨"com/example/termwell/termwell/tables/XmlText", "isPlainTextByte", "(B)Z"⟩ : MethodName) (head1 (Jvm.Cond.code (⟨"com/example/termwell/termwell/tables/XmlText", "isPlainTextByte", "(B)Z"⟩ : MethodName) prog_152_method_5_code 1 (some .boolean) :: ws) ({ frames := 0, cells := 0, slots := 0, locals := 0 } : Room)) (fun a U => a = #[(.int p1)] ∧ Z.Warmed39 U.vm ∧ U.heap = h0) (fun _ _ _ _ _ => True) (fun _ U o U' => ∃ v L, o = .returned v ∧ Q1 Z p1 w cl h0 n0 v U'.heap L ∧ FrameEnd U o U' L ({ frames := 0, cells := 0, slots := 0, locals := 0 } : Room).cells ({ frames := 0, cells := 0, slots := 0, locals := 0 } : Room).slots) := by
  refine MetFree.of_bodySF (plainFor_of_name pn_0) hisR ?_
  intro p e s m args below meth c s₁ Bd hml0 hP hK
  obtain ⟨rfl, hZ, hh⟩ := hP
  have hx := Bd.exec
  have hby := Bd.bytes
  have hml : c.maxLocals = 1 := hml0
  have hown : s.vm.findClass "com/example/termwell/termwell/tables/XmlText" = some m.cls := findClass_of_methodNamed Bd.named
  have hnm := (name_of_methodNamed Bd.named Bd.method).1
  have X0 : Stand p l e ({ frames := 0, cells := 0, slots := 0, locals := 0 } : Room) s m #[(.int p1)] below meth c s₁ [] 0 0 := Stand.of_body Bd
  have e0 : s₁.heap = h0 := by rw [← hh, Bd.state]; rfl
  have N0 := Fr.nil n0
  have K0 : Keep h0 h0 [] := Keep.refl _ _
  have pre0 : Rch p.tables e below (s₁.setTop (entryFrame m #[(.int p1)] 1)) (s₁.setTop (mkF m 0 #[.val (.int p1)] [])) := fun tgt k => castTop (ef_1 m p1) k
  have pre1 : Rch p.tables e below (s₁.setTop (entryFrame m #[(.int p1)] 1)) (s₁.setTop (mkF m 1 #[.val (.int p1)] [(.int p1)])) := fun tgt k => pre0 tgt (by
    show Steps p.tables e below (s₁.setTop (mkF m 0 #[.val (.int p1)] [])) _
    refine XS.iloadN X0.here hx rfl (hb hby d1_0) rfl ?_
    exact k)
  by_cases c2 : p1 < (0 : Int32)
  · skip
    have pre3 : Rch p.tables e below (s₁.setTop (entryFrame m #[(.int p1)] 1)) (s₁.setTop (mkF m 12 #[.val (.int p1)] [])) := fun tgt k => pre1 tgt (by
      show Steps p.tables e below (s₁.setTop (mkF m 1 #[.val (.int p1)] [(.int p1)])) _
      refine XS.ifYes X0.here hx rfl (pc0 := 1) (pc' := 12) rfl (hb hby d1_1) rfl ((if0 _ _).trans (tlt c2).1) (by decide) (by decide) ?_
      exact k)
    have pre4 : Rch p.tables e below (s₁.setTop (entryFrame m #[(.int p1)] 1)) (s₁.setTop (mkF m 17 #[.val (.int p1)] [(.int (1 : Int32))])) := fun tgt k => pre3 tgt (by
      show Steps p.tables e below (s₁.setTop (mkF m 12 #[.val (.int p1)] [])) _
      refine XS.iconst X0.here hx rfl (hb hby d1_12) ?_
      show Steps p.tables e below (s₁.setTop (mkF m 13 #[.val (.int p1)] [(.int (1 : Int32))])) _
      refine XS.goto X0.here hx rfl (pc0 := 13) (pc' := 17) rfl (hb hby d1_13) (by decide) (by decide) ?_
      exact k)
    obtain ⟨fs, hr, hrun, hended, hW, hsame⟩ := X0.leave (v := some (.int (1 : Int32))) (fun h => by rw [Bd.returns] at h; cases h)
    refine ⟨_, _, pre4 _ ?_, hrun, hended, _, _, rfl, ?_, ⟨_, rfl⟩, hW, hsame.mono (by decide) (by decide)⟩
    · show Steps p.tables e below (s₁.setTop (mkF m 17 #[.val (.int p1)] [(.int (1 : Int32))])) _
      exact retN X0 hx (t := .boolean) Bd.returns (by simp) (hb hby d1_17) hr
    · show Q1 Z p1 w cl h0 n0 _ s₁.heap _
      rw [e0]
      exact ⟨by rw [if_pos c2], N0, rfl⟩
  · skip
    have pre5 : Rch p.tables e below (s₁.setTop (entryFrame m #[(.int p1)] 1)) (s₁.setTop (mkF m 4 #[.val (.int p1)] [])) := fun tgt k => pre1 tgt (by
      show Steps p.tables e below (s₁.setTop (mkF m 1 #[.val (.int p1)] [(.int p1)])) _
      refine XS.ifNo X0.here hx rfl (hb hby d1_1) rfl ((if0 _ _).trans (flt c2).1) ?_
      exact k)
    obtain ⟨T6, X6, e6, st6⟩ := getS2 X0 hx hZ hown (host := "") (Or.inl (hw _ (List.mem_of_getElem? (i := 4) rfl))) Via.refl e0 S1 (g := (mkF m 4 #[.val (.int p1)] [])) rfl (hb hby d1_4)
    have pre6 : Rch p.tables e below (s₁.setTop (entryFrame m #[(.int p1)] 1)) (T6.setTop (mkF m 7 #[.val (.int p1)] [(.ref w)])) := fun tgt k => pre5 tgt (st6 tgt k)
    have pre7 : Rch p.tables e below (s₁.setTop (entryFrame m #[(.int p1)] 1)) (T6.setTop (mkF m 8 #[.val (.int p1)] [(.int p1), (.ref w)])) := fun tgt k => pre6 tgt (by
      show Steps p.tables e below (T6.setTop (mkF m 7 #[.val (.int p1)] [(.ref w)])) _
      refine XS.iloadN X6.here hx rfl (hb hby d1_7) rfl ?_
      exact k)
    obtain ⟨hin, hat⟩ := hcl p1 c2 hp
    have pre8 : Rch p.tables e below (s₁.setTop (entryFrame m #[(.int p1)] 1)) (T6.setTop (mkF m 9 #[.val (.int p1)] [(.int (PT p1))])) := fun t k => pre7 t (X6.baloadBooleans hx (j := p1) (v := (.int (PT p1))) (by rw [e6]; exact A1.1) (State.isArrayOf_alike hZ.alike A1.2.1) A1.2.2 hin hat (g := (mkF m 8 #[.val (.int p1)] [(.int p1), (.ref w)])) rfl rfl (hb hby d1_8) t k)
    by_cases c9 : (PT p1) = (0 : Int32)
    · skip
      have pre10 : Rch p.tables e below (s₁.setTop (entryFrame m #[(.int p1)] 1)) (T6.setTop (mkF m 16 #[.val (.int p1)] [])) := fun tgt k => pre8 tgt (by
        show Steps p.tables e below (T6.setTop (mkF m 9 #[.val (.int p1)] [(.int (PT p1))])) _
        refine XS.ifYes X6.here hx rfl (pc0 := 9) (pc' := 16) rfl (hb hby d1_9) rfl ((if0 _ _).trans (teq c9).1) (by decide) (by decide) ?_
        exact k)
      have pre11 : Rch p.tables e below (s₁.setTop (entryFrame m #[(.int p1)] 1)) (T6.setTop (mkF m 17 #[.val (.int p1)] [(.int (0 : Int32))])) := fun tgt k => pre10 tgt (by
        show Steps p.tables e below (T6.setTop (mkF m 16 #[.val (.int p1)] [])) _
        refine XS.iconst X6.here hx rfl (hb hby d1_16) ?_
        exact k)
      obtain ⟨fs, hr, hrun, hended, hW, hsame⟩ := X6.leave (v := some (.int (0 : Int32))) (fun h => by rw [Bd.returns] at h; cases h)
      refine ⟨_, _, pre11 _ ?_, hrun, hended, _, _, rfl, ?_, ⟨_, rfl⟩, hW, hsame.mono (by decide) (by decide)⟩
      · show Steps p.tables e below (T6.setTop (mkF m 17 #[.val (.int p1)] [(.int (0 : Int32))])) _
        exact retN X6 hx (t := .boolean) Bd.returns (by simp) (hb hby d1_17) hr
      · show Q1 Z p1 w cl h0 n0 _ T6.heap _
        rw [e6]
        exact ⟨by rw [if_neg c2, c9], N0, rfl⟩
    · skip
      have pre12 : Rch p.tables e below (s₁.setTop (entryFrame m #[(.int p1)] 1)) (T6.setTop (mkF m 12 #[.val (.int p1)] [])) := fun tgt k => pre8 tgt (by
        show Steps p.tables e below (T6.setTop (mkF m 9 #[.val (.int p1)] [(.int (PT p1))])) _
        refine XS.ifNo X6.here hx rfl (hb hby d1_9) rfl ((if0 _ _).trans (feq c9).1) ?_
        exact k)
      have pre13 : Rch p.tables e below (s₁.setTop (entryFrame m #[(.int p1)] 1)) (T6.setTop (mkF m 17 #[.val (.int p1)] [(.int (1 : Int32))])) := fun tgt k => pre12 tgt (by
        show Steps p.tables e below (T6.setTop (mkF m 12 #[.val (.int p1)] [])) _
        refine XS.iconst X6.here hx rfl (hb hby d1_12) ?_
        show Steps p.tables e below (T6.setTop (mkF m 13 #[.val (.int p1)] [(.int (1 : Int32))])) _
        refine XS.goto X6.here hx rfl (pc0 := 13) (pc' := 17) rfl (hb hby d1_13) (by decide) (by decide) ?_
        exact k)
      obtain ⟨fs, hr, hrun, hended, hW, hsame⟩ := X6.leave (v := some (.int (1 : Int32))) (fun h => by rw [Bd.returns] at h; cases h)
      refine ⟨_, _, pre13 _ ?_, hrun, hended, _, _, rfl, ?_, ⟨_, rfl⟩, hW, hsame.mono (by decide) (by decide)⟩
      · show Steps p.tables e below (T6.setTop (mkF m 17 #[.val (.int p1)] [(.int (1 : Int32))])) _
        exact retN X6 hx (t := .boolean) Bd.returns (by simp) (hb hby d1_17) hr
      · show Q1 Z p1 w cl h0 n0 _ T6.heap _
        rw [e6]
        exact ⟨by rw [if_neg c2]; unfold PT at *; split at * <;> (try split at *) <;> (try split at *) <;> (try split at *) <;> simp_all, N0, rfl⟩
theorem pd_0 : parseMethodDescriptor "(B)Z" = some ⟨[.byte], some .boolean⟩ := by decide +kernel
theorem pn_1 : plainName "com/example/termwell/termwell/tables/XmlTextIsPlainTextBytePinLaw" = true := by first | (simp [plainName, overriddenIn]; done) | decide +kernel
theorem ef_0 (m : MethodId) (x0 : Int32) : entryFrame m #[(.int x0)] maxLocals = mkF m 0 #[.val (.int x0), .unset, .unset, .unset] [] := by first | (simp [entryFrame, mkF, argsToLocals, Value.category, maxLocals]; done) | rfl
def Q0 (Z : State) (p1 : Int32) (h0 : Heap) (n0 : Nat) (v : Option Value) (h : Heap) (L : List Loc) : Prop := v = some (.int 1) ∧ Fr n0 L
set_option maxRecDepth 65536 in
set_option maxHeartbeats 40000000 in
theorem rm0 (l : Launch) (Z : State) (a0 : Array Value) (hw : ∀ d ∈ tables_1, d.before a0 Z = true) (ws : List Jvm.Cond) (p1 : Int32) (h0 : Heap) (n0 : Nat) (Z0 : n0 ≤ h0.size) (w : Addr) (cl : Cell) (S1 : Sta Z h0 "com/example/termwell/termwell/tables/XmlText" "PLAIN_TEXT" "[Z" (.ref w)) (A1 : Arr Z h0 w cl .boolean) (hcl : ∀ j : Int32, ¬ j < 0 → j < 128 → ¬ (j < 0 ∨ cl.slots.size ≤ j.toNatClampNeg) ∧ cl.slots[j.toNatClampNeg]? = some (.int (PT j))) :
    MetFree l x (head1 (Jvm.Cond.code x code maxLocals ret :: ws) room_1) (fun a U => a = #[(.int p1)] ∧ Z.Warmed39 U.vm ∧ U.heap = h0) (fun _ _ _ _ _ => True) (fun _ U o U' => ∃ v L, o = .returned v ∧ Q0 Z p1 h0 n0 v U'.heap L ∧ FrameEnd U o U' L room_1.cells room_1.slots) := by
  refine MetFree.of_bodySF (plainFor_of_name pn_1) hisR ?_
  intro p e s m args below meth c s₁ Bd hml0 hP hK
  obtain ⟨rfl, hZ, hh⟩ := hP
  have hx := Bd.exec
  have hby := Bd.bytes
  have hml : c.maxLocals = 4 := hml0
  have hown : s.vm.findClass "com/example/termwell/termwell/tables/XmlTextIsPlainTextBytePinLaw" = some m.cls := findClass_of_methodNamed Bd.named
  have hnm := (name_of_methodNamed Bd.named Bd.method).1
  have X0 : Stand p l e room_1 s m #[(.int p1)] below meth c s₁ [] 0 0 := Stand.of_body Bd
  have e0 : s₁.heap = h0 := by rw [← hh, Bd.state]; rfl
  have N0 := Fr.nil n0
  have K0 : Keep h0 h0 [] := Keep.refl _ _
  have pre0 : Rch p.tables e below (s₁.setTop (entryFrame m #[(.int p1)] maxLocals)) (s₁.setTop (mkF m 0 #[.val (.int p1), .unset, .unset, .unset] [])) := fun tgt k => castTop (ef_0 m p1) k
  have pre1 : Rch p.tables e below (s₁.setTop (entryFrame m #[(.int p1)] maxLocals)) (s₁.setTop (mkF m 2 #[.val (.int p1), .unset, .unset, .unset] [(.int (p1.toInt8.toInt32))])) := fun tgt k => pre0 tgt (by
    show Steps p.tables e below (s₁.setTop (mkF m 0 #[.val (.int p1), .unset, .unset, .unset] [])) _
    refine XS.iloadN X0.here hx rfl (hb hby at_0) rfl ?_
    show Steps p.tables e below (s₁.setTop (mkF m 1 #[.val (.int p1), .unset, .unset, .unset] [(.int p1)])) _
    refine XT.i2b X0.here hx rfl (hb hby at_1) rfl ?_
    exact k)
  obtain ⟨b, hv_b⟩ : ∃ z : Int32, z = (p1.toInt8.toInt32) := ⟨_, rfl⟩
  have pre2 : Rch p.tables e below (s₁.setTop (entryFrame m #[(.int p1)] maxLocals)) (s₁.setTop (mkF m 2 #[.val (.int p1), .unset, .unset, .unset] [(.int b)])) := fun tgt k => pre1 tgt (by rw [hv_b] at k; exact k)
  have pre3 : Rch p.tables e below (s₁.setTop (entryFrame m #[(.int p1)] maxLocals)) (s₁.setTop (mkF m 3 #[.val (.int p1), .val (.int b), .unset, .unset] [])) := fun tgt k => pre2 tgt (by
    show Steps p.tables e below (s₁.setTop (mkF m 2 #[.val (.int p1), .unset, .unset, .unset] [(.int b)])) _
    refine XS.istoreN X0.here hx rfl (hb hby at_2) rfl (l' := #[.val (.int p1), .val (.int b), .unset, .unset]) rfl ?_
    exact k)
  obtain ⟨esc, hv_esc⟩ : ∃ z : Int32, z = (if b = (38 : Int32) then (1 : Int32) else (if b = (60 : Int32) then (1 : Int32) else (if b = (62 : Int32) then (1 : Int32) else (if b = (13 : Int32) then (1 : Int32) else (0 : Int32))))) := ⟨_, rfl⟩
  have pre8 : Rch p.tables e below (s₁.setTop (entryFrame m #[(.int p1)] maxLocals)) (s₁.setTop (mkF m 32 #[.val (.int p1), .val (.int b), .unset, .unset] [(.int esc)])) := fun tgt k => pre3 tgt (by
    show Steps p.tables e below (s₁.setTop (mkF m 3 #[.val (.int p1), .val (.int b), .unset, .unset] [])) _
    refine XS.iloadN X0.here hx rfl (hb hby at_3) rfl ?_
    show Steps p.tables e below (s₁.setTop (mkF m 4 #[.val (.int p1), .val (.int b), .unset, .unset] [(.int b)])) _
    refine XS.bipush X0.here hx rfl (hb hby at_4) ?_
    by_cases q4 : b = (38 : Int32)
    · skip
      show Steps p.tables e below (s₁.setTop (mkF m 6 #[.val (.int p1), .val (.int b), .unset, .unset] [(.int (38 : Int32)), (.int b)])) _
      refine XS.icmpYes X0.here hx rfl (pc0 := 6) (pc' := 27) rfl (hb hby at_6) rfl (teq q4).1 (by decide) (by decide) ?_
      show Steps p.tables e below (s₁.setTop (mkF m 27 #[.val (.int p1), .val (.int b), .unset, .unset] [])) _
      refine XS.iconst X0.here hx rfl (hb hby at_27) ?_
      show Steps p.tables e below (s₁.setTop (mkF m 28 #[.val (.int p1), .val (.int b), .unset, .unset] [(.int (1 : Int32))])) _
      refine XS.goto X0.here hx rfl (pc0 := 28) (pc' := 32) rfl (hb hby at_28) (by decide) (by decide) ?_
      have ev_esc : esc = (1 : Int32) := by rw [hv_esc, if_pos q4]
      rw [ev_esc] at k
      exact k
    · skip
      show Steps p.tables e below (s₁.setTop (mkF m 6 #[.val (.int p1), .val (.int b), .unset, .unset] [(.int (38 : Int32)), (.int b)])) _
      refine XS.icmpNo X0.here hx rfl (hb hby at_6) rfl (feq q4).1 ?_
      show Steps p.tables e below (s₁.setTop (mkF m 9 #[.val (.int p1), .val (.int b), .unset, .unset] [])) _
      refine XS.iloadN X0.here hx rfl (hb hby at_9) rfl ?_
      show Steps p.tables e below (s₁.setTop (mkF m 10 #[.val (.int p1), .val (.int b), .unset, .unset] [(.int b)])) _
      refine XS.bipush X0.here hx rfl (hb hby at_10) ?_
      by_cases q5 : b = (60 : Int32)
      · skip
        show Steps p.tables e below (s₁.setTop (mkF m 12 #[.val (.int p1), .val (.int b), .unset, .unset] [(.int (60 : Int32)), (.int b)])) _
        refine XS.icmpYes X0.here hx rfl (pc0 := 12) (pc' := 27) rfl (hb hby at_12) rfl (teq q5).1 (by decide) (by decide) ?_
        show Steps p.tables e below (s₁.setTop (mkF m 27 #[.val (.int p1), .val (.int b), .unset, .unset] [])) _
        refine XS.iconst X0.here hx rfl (hb hby at_27) ?_
        show Steps p.tables e below (s₁.setTop (mkF m 28 #[.val (.int p1), .val (.int b), .unset, .unset] [(.int (1 : Int32))])) _
        refine XS.goto X0.here hx rfl (pc0 := 28) (pc' := 32) rfl (hb hby at_28) (by decide) (by decide) ?_
        have ev_esc : esc = (1 : Int32) := by rw [hv_esc, if_neg q4, if_pos q5]
        rw [ev_esc] at k
        exact k
      · skip
        show Steps p.tables e below (s₁.setTop (mkF m 12 #[.val (.int p1), .val (.int b), .unset, .unset] [(.int (60 : Int32)), (.int b)])) _
        refine XS.icmpNo X0.here hx rfl (hb hby at_12) rfl (feq q5).1 ?_
        show Steps p.tables e below (s₁.setTop (mkF m 15 #[.val (.int p1), .val (.int b), .unset, .unset] [])) _
        refine XS.iloadN X0.here hx rfl (hb hby at_15) rfl ?_
        show Steps p.tables e below (s₁.setTop (mkF m 16 #[.val (.int p1), .val (.int b), .unset, .unset] [(.int b)])) _
        refine XS.bipush X0.here hx rfl (hb hby at_16) ?_
        by_cases q6 : b = (62 : Int32)
        · skip
          show Steps p.tables e below (s₁.setTop (mkF m 18 #[.val (.int p1), .val (.int b), .unset, .unset] [(.int (62 : Int32)), (.int b)])) _
          refine XS.icmpYes X0.here hx rfl (pc0 := 18) (pc' := 27) rfl (hb hby at_18) rfl (teq q6).1 (by decide) (by decide) ?_
          show Steps p.tables e below (s₁.setTop (mkF m 27 #[.val (.int p1), .val (.int b), .unset, .unset] [])) _
          refine XS.iconst X0.here hx rfl (hb hby at_27) ?_
          show Steps p.tables e below (s₁.setTop (mkF m 28 #[.val (.int p1), .val (.int b), .unset, .unset] [(.int (1 : Int32))])) _
          refine XS.goto X0.here hx rfl (pc0 := 28) (pc' := 32) rfl (hb hby at_28) (by decide) (by decide) ?_
          have ev_esc : esc = (1 : Int32) := by rw [hv_esc, if_neg q4, if_neg q5, if_pos q6]
          rw [ev_esc] at k
          exact k
        · skip
          show Steps p.tables e below (s₁.setTop (mkF m 18 #[.val (.int p1), .val (.int b), .unset, .unset] [(.int (62 : Int32)), (.int b)])) _
          refine XS.icmpNo X0.here hx rfl (hb hby at_18) rfl (feq q6).1 ?_
          show Steps p.tables e below (s₁.setTop (mkF m 21 #[.val (.int p1), .val (.int b), .unset, .unset] [])) _
          refine XS.iloadN X0.here hx rfl (hb hby at_21) rfl ?_
          show Steps p.tables e below (s₁.setTop (mkF m 22 #[.val (.int p1), .val (.int b), .unset, .unset] [(.int b)])) _
          refine XS.bipush X0.here hx rfl (hb hby at_22) ?_
          by_cases q7 : b = (13 : Int32)
          · skip
            show Steps p.tables e below (s₁.setTop (mkF m 24 #[.val (.int p1), .val (.int b), .unset, .unset] [(.int (13 : Int32)), (.int b)])) _
            refine XS.icmpNo X0.here hx rfl (hb hby at_24) rfl (teq q7).2 ?_
            show Steps p.tables e below (s₁.setTop (mkF m 27 #[.val (.int p1), .val (.int b), .unset, .unset] [])) _
            refine XS.iconst X0.here hx rfl (hb hby at_27) ?_
            show Steps p.tables e below (s₁.setTop (mkF m 28 #[.val (.int p1), .val (.int b), .unset, .unset] [(.int (1 : Int32))])) _
            refine XS.goto X0.here hx rfl (pc0 := 28) (pc' := 32) rfl (hb hby at_28) (by decide) (by decide) ?_
            have ev_esc : esc = (1 : Int32) := by rw [hv_esc, if_neg q4, if_neg q5, if_neg q6, if_pos q7]
            rw [ev_esc] at k
            exact k
          · skip
            show Steps p.tables e below (s₁.setTop (mkF m 24 #[.val (.int p1), .val (.int b), .unset, .unset] [(.int (13 : Int32)), (.int b)])) _
            refine XS.icmpYes X0.here hx rfl (pc0 := 24) (pc' := 31) rfl (hb hby at_24) rfl (feq q7).2 (by decide) (by decide) ?_
            show Steps p.tables e below (s₁.setTop (mkF m 31 #[.val (.int p1), .val (.int b), .unset, .unset] [])) _
            refine XS.iconst X0.here hx rfl (hb hby at_31) ?_
            have ev_esc : esc = (0 : Int32) := by rw [hv_esc, if_neg q4, if_neg q5, if_neg q6, if_neg q7]
            rw [ev_esc] at k
            exact k
    done)
  have pre9 : Rch p.tables e below (s₁.setTop (entryFrame m #[(.int p1)] maxLocals)) (s₁.setTop (mkF m 33 #[.val (.int p1), .val (.int b), .val (.int esc), .unset] [])) := fun tgt k => pre8 tgt (by
    show Steps p.tables e below (s₁.setTop (mkF m 32 #[.val (.int p1), .val (.int b), .unset, .unset] [(.int esc)])) _
    refine XS.istoreN X0.here hx rfl (hb hby at_32) rfl (l' := #[.val (.int p1), .val (.int b), .val (.int esc), .unset]) rfl ?_
    exact k)
  obtain ⟨ex, hv_ex⟩ : ∃ z : Int32, z = (if esc = (0 : Int32) then (1 : Int32) else (0 : Int32)) := ⟨_, rfl⟩
  have pre11 : Rch p.tables e below (s₁.setTop (entryFrame m #[(.int p1)] maxLocals)) (s₁.setTop (mkF m 42 #[.val (.int p1), .val (.int b), .val (.int esc), .unset] [(.int ex)])) := fun tgt k => pre9 tgt (by
    show Steps p.tables e below (s₁.setTop (mkF m 33 #[.val (.int p1), .val (.int b), .val (.int esc), .unset] [])) _
    refine XS.iloadN X0.here hx rfl (hb hby at_33) rfl ?_
    by_cases q10 : esc = (0 : Int32)
    · skip
      show Steps p.tables e below (s₁.setTop (mkF m 34 #[.val (.int p1), .val (.int b), .val (.int esc), .unset] [(.int esc)])) _
      refine XS.ifNo X0.here hx rfl (hb hby at_34) rfl ((if0 _ _).trans (teq q10).2) ?_
      show Steps p.tables e below (s₁.setTop (mkF m 37 #[.val (.int p1), .val (.int b), .val (.int esc), .unset] [])) _
      refine XS.iconst X0.here hx rfl (hb hby at_37) ?_
      show Steps p.tables e below (s₁.setTop (mkF m 38 #[.val (.int p1), .val (.int b), .val (.int esc), .unset] [(.int (1 : Int32))])) _
      refine XS.goto X0.here hx rfl (pc0 := 38) (pc' := 42) rfl (hb hby at_38) (by decide) (by decide) ?_
      have ev_ex : ex = (1 : Int32) := by rw [hv_ex, if_pos q10]
      rw [ev_ex] at k
      exact k
    · skip
      show Steps p.tables e below (s₁.setTop (mkF m 34 #[.val (.int p1), .val (.int b), .val (.int esc), .unset] [(.int esc)])) _
      refine XS.ifYes X0.here hx rfl (pc0 := 34) (pc' := 41) rfl (hb hby at_34) rfl ((if0 _ _).trans (feq q10).2) (by decide) (by decide) ?_
      show Steps p.tables e below (s₁.setTop (mkF m 41 #[.val (.int p1), .val (.int b), .val (.int esc), .unset] [])) _
      refine XS.iconst X0.here hx rfl (hb hby at_41) ?_
      have ev_ex : ex = (0 : Int32) := by rw [hv_ex, if_neg q10]
      rw [ev_ex] at k
      exact k
    done)
  have pre12 : Rch p.tables e below (s₁.setTop (entryFrame m #[(.int p1)] maxLocals)) (s₁.setTop (mkF m 44 #[.val (.int p1), .val (.int b), .val (.int esc), .val (.int ex)] [(.int b)])) := fun tgt k => pre11 tgt (by
    show Steps p.tables e below (s₁.setTop (mkF m 42 #[.val (.int p1), .val (.int b), .val (.int esc), .unset] [(.int ex)])) _
    refine XS.istoreN X0.here hx rfl (hb hby at_42) rfl (l' := #[.val (.int p1), .val (.int b), .val (.int esc), .val (.int ex)]) rfl ?_
    show Steps p.tables e below (s₁.setTop (mkF m 43 #[.val (.int p1), .val (.int b), .val (.int esc), .val (.int ex)] [])) _
    refine XS.iloadN X0.here hx rfl (hb hby at_43) rfl ?_
    exact k)
  obtain ⟨_, _, ⟨T13, L13, k13, n13⟩, -, X13, ⟨Lc13, hQ13, l13, y13, z13⟩, st13⟩ := Jvm.LawKit.callS X0 hx (y := (⟨"com/example/termwell/termwell/tables/XmlText", "isPlainTextByte", "(B)Z"⟩ : MethodName)) hown (mvT hZ (hw _ (List.mem_of_getElem? (i := 0) rfl))) (mvT hZ (hw _ (List.mem_of_getElem? (i := 1) rfl))) (mvT hZ (hw _ (List.mem_of_getElem? (i := 2) rfl))) (mvT hZ (hw _ (List.mem_of_getElem? (i := 3) rfl))) (by decide) (backOf (W := 0) (rm1 l Z a0 hw [] b w cl h0 n0 Z0 S1 A1 hcl (hv_b ▸ own_b_lt p1)) hZ (hw _ (List.mem_of_getElem? (i := 3) rfl)) (hw _ (List.mem_of_getElem? (i := 2) rfl)) (by decide) (by decide)) (g := (mkF m 44 #[.val (.int p1), .val (.int b), .val (.int esc), .val (.int ex)] [(.int b)])) rfl (by rw [hml]; rfl) (argsL := [(.int b)]) (rest := []) (lenOf pd_0 rfl) rfl (by show 2 * 0 + _ ≤ _; exact Nat.le_of_eq rfl) (hb hby at_44) (fun _ _ => ⟨rfl, e0, (by decide : 0 + 0 ≤ _), (by decide : 0 + 0 ≤ _)⟩)
  dsimp only [Pt.U, Pt.locs, Pt.cells, Pt.slots] at X13 l13 y13 z13 st13 hQ13
  subst l13 y13 z13
  obtain ⟨rfl, Nq13, eh13⟩ := hQ13
  have N14 := Fr.app N0 Nq13
  have pre13 : Rch p.tables e below (s₁.setTop (entryFrame m #[(.int p1)] maxLocals)) (T13.setTop (mkF m 47 #[.val (.int p1), .val (.int b), .val (.int esc), .val (.int ex)] [(.int (if b < 0 then 1 else PT b))])) := fun tgt k => pre12 tgt (st13 tgt k)
  have pre15 : Rch p.tables e below (s₁.setTop (entryFrame m #[(.int p1)] maxLocals)) (T13.setTop (mkF m 48 #[.val (.int p1), .val (.int b), .val (.int esc), .val (.int ex)] [(.int ex), (.int (if b < 0 then 1 else PT b))])) := fun tgt k => pre13 tgt (by
    show Steps p.tables e below (T13.setTop (mkF m 47 #[.val (.int p1), .val (.int b), .val (.int esc), .val (.int ex)] [(.int (if b < 0 then 1 else PT b))])) _
    refine XS.iloadN X13.here hx rfl (hb hby at_47) rfl ?_
    exact k)
  have pre16 : Rch p.tables e below (s₁.setTop (entryFrame m #[(.int p1)] maxLocals)) (T13.setTop (mkF m 56 #[.val (.int p1), .val (.int b), .val (.int esc), .val (.int ex)] [(.int (1 : Int32))])) := fun tgt k => pre15 tgt (by
    show Steps p.tables e below (T13.setTop (mkF m 48 #[.val (.int p1), .val (.int b), .val (.int esc), .val (.int ex)] [(.int ex), (.int (if b < 0 then 1 else PT b))])) _
    refine XS.icmpNo X13.here hx rfl (hb hby at_48) rfl (teq (own_law b esc ex hv_esc hv_ex)).2 ?_
    show Steps p.tables e below (T13.setTop (mkF m 51 #[.val (.int p1), .val (.int b), .val (.int esc), .val (.int ex)] [])) _
    refine XS.iconst X13.here hx rfl (hb hby at_51) ?_
    show Steps p.tables e below (T13.setTop (mkF m 52 #[.val (.int p1), .val (.int b), .val (.int esc), .val (.int ex)] [(.int (1 : Int32))])) _
    refine XS.goto X13.here hx rfl (pc0 := 52) (pc' := 56) rfl (hb hby at_52) (by decide) (by decide) ?_
    exact k)
  obtain ⟨fs, hr, hrun, hended, hW, hsame⟩ := X13.leave (v := some (.int (1 : Int32))) (fun h => by rw [Bd.returns] at h; cases h)
  refine ⟨_, _, pre16 _ ?_, hrun, hended, _, _, rfl, ?_, ⟨_, rfl⟩, hW, hsame.mono (by decide) (by decide)⟩
  · show Steps p.tables e below (T13.setTop (mkF m 56 #[.val (.int p1), .val (.int b), .val (.int esc), .val (.int ex)] [(.int (1 : Int32))])) _
    exact retN X13 hx (t := .boolean) Bd.returns (by simp) (hb hby at_56) hr
  · show Q0 Z p1 h0 n0 _ T13.heap _
    rw [eh13]
    exact ⟨rfl, N14⟩
section Own
variable {args : Array Value} {s : State} {t : Term} {w : Addr} {cl : Cell}
theorem own_or {f : State} {o : Option Outcome} {idx : List Nat} {c d : Jvm.Cond} (h : (Jvm.Cond.or c d).value args f o s idx = some true) : c.value args f o s idx = some true ∨ d.value args f o s idx = some true := by
  simp only [Cond.value] at h
  cases hc : c.value args f o s idx with
  | none => simp [hc] at h
  | some x => cases x <;> simp [hc] at h ⊢; exact h
theorem own_eqi {f : State} {o : Option Outcome} {idx : List Nat} {a : Term} {v : Int32} (h : (Jvm.Cond.eq a (.int v)).value args f o s idx = some true) : a.eval args f o idx s = some (.int v) := by
  simp only [Cond.value, Term.int_eval] at h
  cases ha : a.eval args f o idx s with
  | none => simp [ha] at h
  | some x => cases x <;> simp [ha] at h; rw [h]
theorem own_at {j v : Int32} (ew : t.eval args s none [] s = some (.ref w)) (A : Arr s s.heap w cl .boolean) (h : (Jvm.Cond.eq (.elem t (.int j)) (.int v)).value args s none s [] = some true) : cl.slots[j.toNatClampNeg]? = some (.int v) :=
  (elem_in (own_eqi h) ew (Term.int_eval _) A.1).2
theorem own_all {X : Jvm.Cond} (ew : t.eval args s none [] s = some (.ref w)) (A : Arr s s.heap w cl .boolean) (h : (Jvm.Cond.all t X).value args s none s [] = some true) (j : Int32) (hj : ¬ j < 0) (hs : j.toNatClampNeg < cl.slots.size) : X.value args s none s [j.toNatClampNeg] = some true :=
  Cond.all_elim ew (A.fin (Vm.Alike.refl _)) h _ hs
theorem own_elem {j v : Int32} (et : t.eval args s none [j.toNatClampNeg] s = some (.ref w)) (A : Arr s s.heap w cl .boolean) (hj : ¬ j < 0) (h : (Jvm.Cond.eq (.elem t (.index 0)) (.int v)).value args s none s [j.toNatClampNeg] = some true) : cl.slots[j.toNatClampNeg]? = some (.int v) :=
  (elem_in (own_eqi h) et (idx_at hj) A.1).2
theorem own_len (ew : t.eval args s none [] s = some (.ref w)) (A : Arr s s.heap w cl .boolean) {v : Int32} (h : (Jvm.Cond.eq (.length t) (.int v)).value args s none s [] = some true) (hv : ¬ v < 0) : cl.slots.size = v.toNatClampNeg := by
  have e := own_eqi h
  obtain ⟨b, cell, e1, e2, e3, e4⟩ := Lib.length_spec e
  cases ew.symm.trans e1
  cases (A.fin (Vm.Alike.refl _)).symm.trans e2
  have q := len_toInt e3
  have q2 := nat_of hv
  rw [Value.int.inj e4] at q2 ⊢
  omega
end Own
theorem own_cl {args : Array Value} {s : State} {w : Addr} {cl : Cell} (ew : (Jvm.Term.static "com/example/termwell/termwell/tables/XmlText" "PLAIN_TEXT" "[Z").eval args s none [] s = some (.ref w)) (A : Arr s s.heap w cl .boolean)
    (n3 : (Jvm.Cond.eq (.length (Jvm.Term.static "com/example/termwell/termwell/tables/XmlText" "PLAIN_TEXT" "[Z")) (.int 128)).value args s none s [] = some true)
    (n5 : (Jvm.Cond.all (Jvm.Term.static "com/example/termwell/termwell/tables/XmlText" "PLAIN_TEXT" "[Z") (.or (.le (.int 13) (.index 0)) (.eq (.elem (Jvm.Term.static "com/example/termwell/termwell/tables/XmlText" "PLAIN_TEXT" "[Z") (.index 0)) (.int 1)))).value args s none s [] = some true)
    (n7 : (Jvm.Cond.eq (.elem (Jvm.Term.static "com/example/termwell/termwell/tables/XmlText" "PLAIN_TEXT" "[Z") (.int 13)) (.int 0)).value args s none s [] = some true)
    (n9 : (Jvm.Cond.all (Jvm.Term.static "com/example/termwell/termwell/tables/XmlText" "PLAIN_TEXT" "[Z") (.or (.lt (.index 0) (.int 14)) (.or (.le (.int 38) (.index 0)) (.eq (.elem (Jvm.Term.static "com/example/termwell/termwell/tables/XmlText" "PLAIN_TEXT" "[Z") (.index 0)) (.int 1))))).value args s none s [] = some true)
    (n11 : (Jvm.Cond.eq (.elem (Jvm.Term.static "com/example/termwell/termwell/tables/XmlText" "PLAIN_TEXT" "[Z") (.int 38)) (.int 0)).value args s none s [] = some true)
    (n13 : (Jvm.Cond.all (Jvm.Term.static "com/example/termwell/termwell/tables/XmlText" "PLAIN_TEXT" "[Z") (.or (.lt (.index 0) (.int 39)) (.or (.le (.int 60) (.index 0)) (.eq (.elem (Jvm.Term.static "com/example/termwell/termwell/tables/XmlText" "PLAIN_TEXT" "[Z") (.index 0)) (.int 1))))).value args s none s [] = some true)
    (n15 : (Jvm.Cond.eq (.elem (Jvm.Term.static "com/example/termwell/termwell/tables/XmlText" "PLAIN_TEXT" "[Z") (.int 60)) (.int 0)).value args s none s [] = some true)
    (n17 : (Jvm.Cond.eq (.elem (Jvm.Term.static "com/example/termwell/termwell/tables/XmlText" "PLAIN_TEXT" "[Z") (.int 61)) (.int 1)).value args s none s [] = some true)
    (n19 : (Jvm.Cond.eq (.elem (Jvm.Term.static "com/example/termwell/termwell/tables/XmlText" "PLAIN_TEXT" "[Z") (.int 62)) (.int 0)).value args s none s [] = some true)
    (n20 : (Jvm.Cond.all (Jvm.Term.static "com/example/termwell/termwell/tables/XmlText" "PLAIN_TEXT" "[Z") (.or (.lt (.index 0) (.int 63)) (.eq (.elem (Jvm.Term.static "com/example/termwell/termwell/tables/XmlText" "PLAIN_TEXT" "[Z") (.index 0)) (.int 1)))).value args s none s [] = some true) :
    ∀ j : Int32, ¬ j < 0 → j < 128 → ¬ (j < 0 ∨ cl.slots.size ≤ j.toNatClampNeg) ∧ cl.slots[j.toNatClampNeg]? = some (.int (PT j)) := by
  intro j hj hj2
  have hsz := own_len ew A n3 (by decide)
  have hin : j.toNatClampNeg < cl.slots.size := by
    rw [hsz]
    have q := nat_of hj
    have q2 : j.toInt < 128 := by rw [Int32.lt_iff_toInt_lt] at hj2; exact hj2
    have q3 : (128 : Int32).toNatClampNeg = 128 := by decide
    omega
  refine ⟨fun h => h.elim hj (fun q => absurd hin (Nat.not_lt.mpr q)), ?_⟩
  have et : (Jvm.Term.static "com/example/termwell/termwell/tables/XmlText" "PLAIN_TEXT" "[Z").eval args s none [j.toNatClampNeg] s = some (.ref w) := ew
  have ix : (Jvm.Term.index 0).eval args s none [j.toNatClampNeg] s = some (.int j) := idx_at hj
  unfold PT
  by_cases a : j = 13
  · subst a; exact own_at ew A n7
  by_cases c : j = 38
  · subst c; exact own_at ew A n11
  by_cases d : j = 60
  · subst d; exact own_at ew A n15
  by_cases f : j = 62
  · subst f; exact own_at ew A n19
  by_cases g : j = 61
  · subst g; exact own_at ew A n17
  rw [if_neg a, if_neg c, if_neg d, if_neg f]
  have ne : ∀ k : Int32, j ≠ k → j.toInt ≠ k.toInt := fun k h q => h (Int32.toInt_inj.mp q)
  have a' := ne _ a; have c' := ne _ c; have d' := ne _ d; have f' := ne _ f; have g' := ne _ g
  have v13 : (13 : Int32).toInt = 13 := by decide
  have v14 : (14 : Int32).toInt = 14 := by decide
  have v38 : (38 : Int32).toInt = 38 := by decide
  have v39 : (39 : Int32).toInt = 39 := by decide
  have v60 : (60 : Int32).toInt = 60 := by decide
  have v61 : (61 : Int32).toInt = 61 := by decide
  have v62 : (62 : Int32).toInt = 62 := by decide
  have v63 : (63 : Int32).toInt = 63 := by decide
  rcases own_or (own_all ew A n5 j hj hin) with h | h
  · have h1 := gotT (Cond.le_ints (Term.int_eval _) ix) h
    rcases own_or (own_all ew A n9 j hj hin) with h | h
    · have h2 := gotT (Cond.lt_ints ix (Term.int_eval _)) h
      rw [Int32.le_iff_toInt_le] at h1; rw [Int32.lt_iff_toInt_lt] at h2; omega
    rcases own_or h with h | h
    · have h2 := gotT (Cond.le_ints (Term.int_eval _) ix) h
      rcases own_or (own_all ew A n13 j hj hin) with h | h
      · have h3 := gotT (Cond.lt_ints ix (Term.int_eval _)) h
        rw [Int32.le_iff_toInt_le] at h2; rw [Int32.lt_iff_toInt_lt] at h3; omega
      rcases own_or h with h | h
      · have h3 := gotT (Cond.le_ints (Term.int_eval _) ix) h
        rcases own_or (own_all ew A n20 j hj hin) with h | h
        · have h4 := gotT (Cond.lt_ints ix (Term.int_eval _)) h
          rw [Int32.le_iff_toInt_le] at h3; rw [Int32.lt_iff_toInt_lt] at h4; omega
        · exact own_elem et A hj h
      · exact own_elem et A hj h
    · exact own_elem et A hj h
  · exact own_elem et A hj h
set_option maxRecDepth 65536 in
set_option maxHeartbeats 40000000 in
theorem comes_1 {Post : Tables → Env → Array Value → State → Outcome → State → Prop} (hpost : ∀ tb e args s v u, (limb_1_1.after args s (.returned v) u = true ∧ limb_1_2.after args s (.returned v) u = true ∧ True) → FrameEnd s (.returned v) u (Jvm.fieldLocs frame_1_writes args s ++ Jvm.arrayLocs frame_1_arrays args s ++ Jvm.staticLocs frame_1_statics s) 0 0 → Post tb e args s (.returned v) u) :
    ArmFor flags0 classFile x code maxLocals ret World_1 tables_1 room_1 Calls_1 rest_1 Pre_1 Post := by
  intro l hfl _ _ p e ha hc hk s m args below hf hA hF happ hP
  obtain ⟨hcalls, hrest, hpre⟩ := hP
  obtain ⟨-, -, -, hnamed, -, -, -, hat⟩ := (Spec.applies_iff hf).mp happ
  obtain ⟨hg, hn⟩ := and_e (Cond.before_iff.mp (show (Jvm.Cond.and given_1 narrow_1).before args s = true from hpre))
  obtain ⟨gc, g0⟩ := and_e hg
  obtain ⟨w0, rfl⟩ : ∃ w0 : Value, args = #[w0] := by
    have hs : args.size = 1 := by simpa [Cond.value, given_1] using gc
    obtain ⟨L⟩ := args
    match L, hs with
    | [w0], _ => exact ⟨w0, rfl⟩
  have hw := fun d (hd : d ∈ tables_1) => atoms_spec (ws := Jvm.Cond.code x code maxLocals ret :: tables_1) hat d (List.mem_cons_of_mem _ hd)
  have hfit : Fit s := fun {y c} hc i hi => by
    obtain ⟨ha, rfl⟩ := Array.getElem?_eq_some_iff.mp hc
    have q := List.all_eq_true.mp ((Array.all_eq_true_iff_forall_mem.mp hF) _ (Array.getElem_mem ha)) i (List.mem_range.mpr hi)
    simpa [Array.getElem?_eq_getElem hi] using q
  obtain ⟨i0, ei0⟩ := is_v g0
  obtain rfl : w0 = (.int i0) := Option.some.inj ei0
  obtain ⟨n1, n2⟩ := and_e hn
  obtain ⟨n3, n4⟩ := and_e n2
  obtain ⟨n5, n6⟩ := and_e n4
  obtain ⟨n7, n8⟩ := and_e n6
  obtain ⟨n9, n10⟩ := and_e n8
  obtain ⟨n11, n12⟩ := and_e n10
  obtain ⟨n13, n14⟩ := and_e n12
  obtain ⟨n15, n16⟩ := and_e n14
  obtain ⟨n17, n18⟩ := and_e n16
  obtain ⟨n19, n20⟩ := and_e n18
  obtain ⟨w, ew⟩ := arr_v n1
  have S1 : Sta s s.heap "com/example/termwell/termwell/tables/XmlText" "PLAIN_TEXT" "[Z" (.ref w) := Sta.start ew (Or.inr ⟨hw _ (List.mem_of_getElem? (i := 2) rfl), hw _ (List.mem_of_getElem? (i := 5) rfl)⟩)
  obtain ⟨cl, A1⟩ := Arr.start ew n1
  have hcl := own_cl ew A1 n3 n5 n7 n9 n11 n13 n15 n17 n19 n20
  obtain ⟨n, o, h1, h2, h3, _, L, rfl, ⟨rfl, N⟩, hq⟩ := rm0 l s _ hw tables_1 i0 s.heap s.heap.size (Nat.le_refl _) w cl S1 A1 hcl p e ha hc hk s m _ below hf ((Spec.applies_iff_loose hf).mp happ).1 ⟨rfl, State.Warmed39.refl s, rfl⟩ trivial
  refine ⟨n, _, h1, h2, h3, hpost _ _ _ _ _ _ ⟨Cond.after_iff.mpr rfl, Cond.after_iff.mpr (eq_i res_at (Term.int_eval (1)) rfl), trivial⟩ ⟨hq.1, hq.2.1, (hq.2.2.sift fun y hy => Or.inr (N y hy)).mono (by decide) (by decide)⟩⟩
theorem main_1_1 : Claimed_1_1 := comes_1 fun _ _ _ _ _ _ h hF => ⟨h.1, hF⟩
theorem main_1_2 : Claimed_1_2 := comes_1 fun _ _ _ _ _ _ h hF => ⟨h.2.1, hF⟩
end Jvm.Pilot.@@N@@
namespace Jvm.Pilot.@@N@@
open Jvm Jvm.ClassFile Sem Op Lib Jvm.Free Jvm.Stand Jvm.Pilot.@@N@@.Jvm.D
/-! MADE BY PROGRAM (witnessworld.py) out of the Statement's table words and the real class files: 11 classes; the members and pool entries that the words name. The judged class is class 1, her method 1. -/
namespace start1
open Jvm.ClassFile
def u (s : String) : CpInfo := .utf8 (stringToUtf16 s)
/-- a pool by its gaps: so many unusable entries, then the entry; so many at the end -/
def gap : Nat → List CpInfo → List CpInfo
  | 0, r => r
  | n + 1, r => .unusable :: gap n r
def poolList (es : List (Nat × CpInfo)) (last : Nat) : List CpInfo := es.foldr (fun e r => gap e.1 (e.2 :: r)) (gap last [])
def pool (es : List (Nat × CpInfo)) (last : Nat) : Array CpInfo := ⟨poolList es last⟩
def fileOf (pool : Array CpInfo) (this : Nat) (attrs : Array Attribute := #[]) (ms : Array MethodInfo := #[]) (fl : Nat := 33) (sup : Nat := 0) (ifs : Array Nat := #[]) (fds : Array FieldInfo := #[]) : ClassFile where
  minorVersion := 0
  majorVersion := 65
  constantPool := pool
  accessFlags := fl
  thisClass := this
  superClass := sup
  interfaces := ifs
  fields := fds
  methods := ms
  attributes := attrs
def plain (name : String) (sup : Option ClassId) : Class where
  name := name
  kind := .ordinary
  loader := none
  accessFlags := 33
  super := sup
  interfaces := #[]
  cf := none
  fields := #[]
  methods := #[]
  instanceTypes := #[]
  staticTypes := #[]
  resolved := #[]
  callSites := []
  init := .initialized
  statics := none
  mirror := none

def pool0 : Array CpInfo := pool [(5, u "<init>"), (0, u "()V"), (1, .class_ 10), (1, u "java/lang/Object")] 113

def k0m0 : Method := { name := "<init>", desc := "()V", sig := { parameters := [], returnType := none }, accessFlags := 1, code := none }
/-- java/lang/Object -/
def k0 : Class := { plain "java/lang/Object" none with
  accessFlags := 33
  interfaces := #[]
  cf := some (fileOf pool0 8 #[] #[{ accessFlags := 1, nameIndex := 5, descriptorIndex := 6, attributes := #[] }] 33 0 #[] #[])
  fields := #[]
  methods := #[k0m0]
  instanceTypes := #[]
  staticTypes := #[]
  resolved := Array.replicate 124 none
  statics := none }

def pool1 : Array CpInfo := pool [(2, .class_ 4), (1, u "java/lang/Object"), (0, u "<init>"), (0, u "()V"), (0, .methodref 8 9), (0, .class_ 10), (0, .nameAndType 11 12), (0, u "com/example/termwell/termwell/tables/XmlText"), (0, u "isPlainTextByte"), (0, u "(B)Z"), (0, .class_ 14), (0, u "com/example/termwell/termwell/tables/XmlTextIsPlainTextBytePinLaw"), (2, u "law"), (0, u "(I)Z")] 3

def k1m0 : Method := { name := "<init>", desc := "()V", sig := { parameters := [], returnType := none }, accessFlags := 2, code := none }
def k1c1 : Code := { maxStack := 2, maxLocals := 4, code := code, exceptionTable := #[], attributes := #[] }
def k1m1 : Method := { name := "law", desc := "(I)Z", sig := { parameters := [.int], returnType := some .boolean }, accessFlags := 9, code := some k1c1 }
/-- com/example/termwell/termwell/tables/XmlTextIsPlainTextBytePinLaw -/
def k1 : Class := { plain "com/example/termwell/termwell/tables/XmlTextIsPlainTextBytePinLaw" (some 0) with
  accessFlags := 49
  interfaces := #[]
  cf := some (fileOf pool1 13 #[] #[{ accessFlags := 2, nameIndex := 5, descriptorIndex := 6, attributes := #[] }, { accessFlags := 9, nameIndex := 17, descriptorIndex := 18, attributes := #[] }] 49 2 #[] #[])
  fields := #[]
  methods := #[k1m0, k1m1]
  instanceTypes := #[]
  staticTypes := #[]
  resolved := Array.replicate 22 none
  statics := none }

def pool2 : Array CpInfo := pool [(2, .class_ 4), (1, u "java/lang/Object"), (0, u "<init>"), (0, u "()V"), (24, .fieldref 32 33), (0, .class_ 34), (0, .nameAndType 35 36), (0, u "com/example/termwell/termwell/tables/XmlText"), (0, u "PLAIN_TEXT"), (0, u "[Z"), (9, u "LONGS"), (0, u "Ljava/lang/invoke/VarHandle;"), (20, u "isPlainTextByte"), (0, u "(B)Z"), (34, u "ESCAPED"), (0, u "Ljava/lang/String;")] 30

def k2m0 : Method := { name := "<init>", desc := "()V", sig := { parameters := [], returnType := none }, accessFlags := 2, code := none }
def k2c1 : Code := { maxStack := 2, maxLocals := 1, code := prog_152_method_5_code, exceptionTable := #[], attributes := #[] }
def k2m1 : Method := { name := "isPlainTextByte", desc := "(B)Z", sig := { parameters := [.byte], returnType := some .boolean }, accessFlags := 9, code := some k2c1 }
/-- com/example/termwell/termwell/tables/XmlText -/
def k2 : Class := { plain "com/example/termwell/termwell/tables/XmlText" (some 0) with
  accessFlags := 49
  interfaces := #[]
  cf := some (fileOf pool2 32 #[] #[{ accessFlags := 2, nameIndex := 5, descriptorIndex := 6, attributes := #[] }, { accessFlags := 9, nameIndex := 68, descriptorIndex := 69, attributes := #[] }] 49 2 #[] #[{ accessFlags := 26, nameIndex := 104, descriptorIndex := 105, attributes := #[] }, { accessFlags := 26, nameIndex := 35, descriptorIndex := 36, attributes := #[] }, { accessFlags := 26, nameIndex := 46, descriptorIndex := 47, attributes := #[] }])
  fields := #[{ name := "ESCAPED", type := (.object "java/lang/String"), accessFlags := 26, slot := 0, constantValue := 0 }, { name := "PLAIN_TEXT", type := (.array .boolean), accessFlags := 26, slot := 1, constantValue := 0 }, { name := "LONGS", type := (.object "java/lang/invoke/VarHandle"), accessFlags := 26, slot := 2, constantValue := 0 }]
  methods := #[k2m0, k2m1]
  instanceTypes := #[]
  staticTypes := #[(.object "java/lang/String"), (.array .boolean), (.object "java/lang/invoke/VarHandle")]
  resolved := Array.replicate 136 none
  statics := some 0 }

def pool3 : Array CpInfo := pool [(1, u "java/lang/Cloneable"), (0, .class_ 1), (0, u "java/lang/Object"), (0, .class_ 3)] 3

/-- java/lang/Cloneable -/
def k3 : Class := { plain "java/lang/Cloneable" (some 0) with
  accessFlags := 1537
  interfaces := #[]
  cf := some (fileOf pool3 2 #[] #[] 1537 4 #[] #[])
  fields := #[]
  methods := #[]
  instanceTypes := #[]
  staticTypes := #[]
  resolved := Array.replicate 8 none
  statics := none }

def pool4 : Array CpInfo := pool [(1, u "java/io/Serializable"), (0, .class_ 1), (0, u "java/lang/Object"), (0, .class_ 3)] 3

/-- java/io/Serializable -/
def k4 : Class := { plain "java/io/Serializable" (some 0) with
  accessFlags := 1537
  interfaces := #[]
  cf := some (fileOf pool4 2 #[] #[] 1537 4 #[] #[])
  fields := #[]
  methods := #[]
  instanceTypes := #[]
  staticTypes := #[]
  resolved := Array.replicate 8 none
  statics := none }

/-- the primitive boolean -/
def k5 : Class := { plain "boolean" none with kind := .primitive 'Z', accessFlags := 0x411 }
/-- [Z -/
def k6 : Class := { plain "[Z" (some 0) with kind := .array 5 .boolean, interfaces := #[3, 4], accessFlags := 1041 }

/-- the primitive byte -/
def k7 : Class := { plain "byte" none with kind := .primitive 'B', accessFlags := 0x411 }
/-- [B -/
def k8 : Class := { plain "[B" (some 0) with kind := .array 7 .byte, interfaces := #[3, 4], accessFlags := 1041 }

/-- the primitive int -/
def k9 : Class := { plain "int" none with kind := .primitive 'I', accessFlags := 0x411 }
/-- [I -/
def k10 : Class := { plain "[I" (some 0) with kind := .array 9 .int, interfaces := #[3, 4], accessFlags := 1041 }

def heap : Heap := #[{ cls := 2, slots := #[.null, .ref 1, .null], vm := .statics 2 },
  { cls := 6, slots := #[.int 1, .int 1, .int 1, .int 1, .int 1, .int 1, .int 1, .int 1, .int 1, .int 1, .int 1, .int 1, .int 1, .int 0, .int 1, .int 1, .int 1, .int 1, .int 1, .int 1, .int 1, .int 1, .int 1, .int 1, .int 1, .int 1, .int 1, .int 1, .int 1, .int 1, .int 1, .int 1, .int 1, .int 1, .int 1, .int 1, .int 1, .int 1, .int 0, .int 1, .int 1, .int 1, .int 1, .int 1, .int 1, .int 1, .int 1, .int 1, .int 1, .int 1, .int 1, .int 1, .int 1, .int 1, .int 1, .int 1, .int 1, .int 1, .int 1, .int 1, .int 0, .int 1, .int 0, .int 1, .int 1, .int 1, .int 1, .int 1, .int 1, .int 1, .int 1, .int 1, .int 1, .int 1, .int 1, .int 1, .int 1, .int 1, .int 1, .int 1, .int 1, .int 1, .int 1, .int 1, .int 1, .int 1, .int 1, .int 1, .int 1, .int 1, .int 1, .int 1, .int 1, .int 1, .int 1, .int 1, .int 1, .int 1, .int 1, .int 1, .int 1, .int 1, .int 1, .int 1, .int 1, .int 1, .int 1, .int 1, .int 1, .int 1, .int 1, .int 1, .int 1, .int 1, .int 1, .int 1, .int 1, .int 1, .int 1, .int 1, .int 1, .int 1, .int 1, .int 1, .int 1, .int 1, .int 1, .int 1], vm := .none }]
def classes : Array Class := #[k0, k1, k2, k3, k4, k5, k6, k7, k8, k9, k10]
def interned : List (Array UInt16 × Addr) := []
def slotsUsed : Nat := 131
def theMethod : MethodId := ⟨1, 1⟩
def args0 : Array Value := #[.int 5]
def aboutOver (below : List Frame) : State where
  vm := { classes := classes, interned := interned.toArray }
  heap := heap
  slotsUsed := slotsUsed
  threads := #[{ frames := .invoking theMethod args0 :: below }]
def below0 : List Frame := [.native { method := ⟨0, 0⟩, args := #[] }]
def about1 : State := aboutOver below0
def p0 : Program := .bare "" "" ""
def e0 : Env := launch0.env 0 0 0
theorem w_frames : about1.frames = Frame.invoking theMethod args0 :: below0 := rfl
set_option maxRecDepth 65536 in
theorem w_args : argsFit about1.vm theMethod args0 = true := by decide +kernel
set_option maxRecDepth 65536 in
theorem w_heap : heapFits about1 = true := by decide +kernel
set_option maxRecDepth 65536 in
theorem w_runnable : about1.curStatus? = some .runnable := by decide +kernel
set_option maxRecDepth 65536 in
theorem w_alone : about1.alone = true := by decide +kernel
set_option maxRecDepth 65536 in
theorem w_named : about1.methodNamed? x = some theMethod := by decide +kernel
set_option maxRecDepth 65536 in
theorem w_hears : about1.hears theMethod below0 = true := by decide +kernel
set_option maxRecDepth 65536 in
theorem w_ripe : about1.ripe theMethod args0 below0 = true := by decide +kernel
theorem w_running : about1.status = .running := rfl
set_option maxRecDepth 65536 in
theorem w_room : about1.hasRoom e0.platform room_1 = true :=
  launch0.hasRoom_least _ room_1 (by decide +kernel) (by decide +kernel) (by decide +kernel) (by decide +kernel) (by decide +kernel) (by decide +kernel)
theorem allAtoms_all (ts : List Jvm.Cond) (a : Array Jvm.Value) (st : Jvm.State) : (allAtoms ts).before a st = ts.all (fun c => c.before a st) := by
  induction ts with
  | nil => rfl
  | cons c t ih =>
    show (Jvm.Cond.and c (allAtoms t)).before a st = _
    rw [Jvm.Cond.before_and, ih, List.all_cons]
def words1 : List Jvm.Cond := Jvm.Cond.code x code maxLocals ret :: tables_1
/-- a 'code' word, met by the world's own term for the bytes: nothing is compared byte by byte -/
theorem code_word {y : MethodName} {bytes : ByteArray} {mx : Nat} {rt : Option FieldType} {a : Array Value} {s : State} {m : MethodId} {meth : Method} {c : Code} (h1 : s.methodNamed? y = some m) (h2 : s.vm.method? m = some meth) (h3 : meth.code = some c) (h4 : c.code = bytes)
    (h5 : (c.maxLocals == mx && c.exceptionTable.isEmpty && decide (c.maxStack ≤ mostOperands) && decide (meth.sig.returnType = rt) && !meth.locks && decide (parseMethodDescriptor y.desc = some meth.sig)) = true) : (Jvm.Cond.code y bytes mx rt).before a s = true := by
  simp only [Bool.and_eq_true, beq_iff_eq, Bool.not_eq_true', decide_eq_true_eq] at h5
  obtain ⟨⟨⟨⟨⟨g1, g2⟩, g3⟩, g4⟩, g5⟩, g6⟩ := h5
  simp [Cond.before, Cond.holds, Cond.value, h1, h2, h3, h4, g1, g2, g3, g4, g5, g6]
def isCode : Jvm.Cond → Bool
  | .code _ _ _ _ => true
  | _ => false
theorem all_split {L : List Jvm.Cond} {P : Jvm.Cond → Bool} (h1 : L.all (fun c => isCode c || P c) = true) (h2 : ∀ c ∈ L.filter isCode, P c = true) : L.all P = true := by
  refine List.all_eq_true.mpr fun c hc => ?_
  have h := List.all_eq_true.mp h1 c hc
  rcases Bool.eq_false_or_eq_true (isCode c) with hi | hi
  · exact h2 c (List.mem_filter.mpr ⟨hc, hi⟩)
  · simpa [hi] using h
set_option maxRecDepth 65536 in
theorem w_c0 : (Jvm.Cond.code x code maxLocals ret).before args0 about1 = true := code_word (m := ⟨1, 1⟩) (meth := k1m1) (c := k1c1) (by decide +kernel) rfl rfl rfl (by decide +kernel)
set_option maxRecDepth 65536 in
theorem w_c1 : (Jvm.Cond.code ({ cls := "com/example/termwell/termwell/tables/XmlText", name := "isPlainTextByte", desc := "(B)Z" } : Jvm.MethodName) prog_152_method_5_code (1 : Nat) (Option.some Jvm.ClassFile.FieldType.boolean)).before args0 about1 = true := code_word (m := ⟨2, 1⟩) (meth := k2m1) (c := k2c1) (by decide +kernel) rfl rfl rfl (by decide +kernel)
def codes1 : List Jvm.Cond := [Jvm.Cond.code x code maxLocals ret, Jvm.Cond.code ({ cls := "com/example/termwell/termwell/tables/XmlText", name := "isPlainTextByte", desc := "(B)Z" } : Jvm.MethodName) prog_152_method_5_code (1 : Nat) (Option.some Jvm.ClassFile.FieldType.boolean)]
set_option maxRecDepth 65536 in
theorem codes_eq : words1.filter isCode = codes1 := rfl
theorem w_codes : ∀ c ∈ words1.filter isCode, c.before args0 about1 = true := by
  rw [codes_eq]
  intro c hc
  simp only [codes1, List.mem_cons, List.not_mem_nil, or_false] at hc
  rcases hc with rfl | rfl
  · exact w_c0
  · exact w_c1
set_option maxRecDepth 65536 in
theorem w_t1 : words1.all (fun c => isCode c || c.before args0 about1) = true := by decide +kernel
theorem w_tables : (allAtoms (Jvm.Cond.code x code maxLocals ret :: tables_1)).before args0 about1 = true := by
  rw [allAtoms_all]
  show words1.all (fun c => c.before args0 about1) = true
  refine all_split ?_ w_codes
  rw [w_t1]
set_option maxRecDepth 65536 in
theorem w_case : (Jvm.Cond.and given_1 narrow_1).before args0 about1 = true := by decide +kernel
theorem w_applies : (headSpec (Jvm.Cond.code x code maxLocals ret :: tables_1) room_1).applies x e0.platform about1 = true :=
  (Spec.applies_iff w_frames).mpr ⟨w_running, w_runnable, w_alone, w_named, w_hears, w_ripe, w_room, w_tables⟩
theorem atStart : AtStart classFile x code maxLocals ret World_1 tables_1 room_1 Calls_1 rest_1 Pre_1 launch0 p0 e0 about1 theMethod args0 below0 :=
  ⟨lists_1, trivial, launch0.admits_env _ _ _, launch0.least_env, fairChoices_fair.cas, fairChoices_fair.clock, w_frames, w_args, w_heap, w_applies, trivial, trivial, w_case⟩
end start1
theorem witness_1 : WitnessClaimed_1 := ⟨start1.p0, start1.e0, start1.about1, start1.theMethod, start1.args0, start1.below0, start1.atStart⟩
end Jvm.Pilot.@@N@@
