import JvmDerived
import JvmDerived.Pilot.@@N@@Statement
import JvmDerived.Pilot.@@N@@Code
set_option linter.unusedVariables false
set_option linter.unusedSimpArgs false
namespace Jvm.RoadKit
open Sem ClassFile Op Lib Jvm.Stand Jvm.Free Jvm.LawKit
section New
variable {p : Program} {l : Launch} {e : Env} {R : Room} {s : State} {m : MethodId} {args : Array Value} {below : List Frame} {meth : Method} {c : Code} {T : State} {locs : List Loc} {cells slots : Nat}
theorem retI (X : Stand p l e R s m args below meth c T locs cells slots) (hx : p.tables.exec = Jvm.exec) {pc : Nat} {Ls : Array Slot} {z : Int32} {rest : List Value} (hret : meth.sig.returnType = some .int) (hd : decode c.code pc = .ok (.ireturn, 1)) {fs : List Frame}
    (hl : ∀ (f : JFrame) (acts : List Action), f.method = m → f.locked = none → f.entered = [] → (doReturn e (T.setTop f) acts (some (.int z))).1 = T.setFrames fs) : Steps p.tables e below (T.setTop (mkF m pc Ls (.int z :: rest))) (T.setFrames fs) := by
  have hm' : T.vm.method? m = some meth := X.method'
  have hn : narrow .int (.int z) = .int z := rfl
  show Steps p.tables e below (T.setTop { method := m, pc := pc, locals := Ls, stack := _ :: rest, locked := none }) _
  jvm_step X.here [X.here.top, hx, hd, hm', hret, hn]
  first | (intro acts; rw [hl _ acts rfl rfl rfl]) | rw [hl _ _ rfl rfl rfl]
  exact Steps.refl _
end New
theorem own_sta_keep {Z : State} {h h' : Heap} {C n d : String} {v : Value} {ws : List Addr} (F : Sta Z h C n d v) (K : Keep h h' ws) (q : ∀ x ∈ ws, ∀ cell : Cell, h[x]? = some cell → cell.vm.isStatics = false) : Sta Z h' C n d v := by
  obtain ⟨cf, i, k, f, st, cell, h1, h2, h3, h4, h5, h6, h7⟩ := F
  exact ⟨cf, i, k, f, st, cell, h1, h2, h3, h4, K.2.1 st cell h5 (fun hm => by rw [q st hm cell h5] at h6; cases h6), h6, h7⟩
/-- a class that is none of the interfaces -/
def NoFace (Z : State) (N : String) : Prop := ∃ (c : ClassId) (k : Class), Z.vm.findClass N = some c ∧ Z.vm.classes[c]? = some k ∧ k.isInterface = false
theorem own_noface {Z : State} {a0 : Array Value} {C : String} {y : MethodName} (w : (Cond.selects C y y).before a0 Z = true) : NoFace Z y.cls := by
  obtain ⟨c2, r2, m2, q1, q2, q3, q4, kP, hkP, hkPi⟩ := Cond.selects_spec w
  exact ⟨m2.cls, kP, findClass_of_methodNamed q3, hkP, hkPi⟩
theorem own_same {Z : State} {a0 : Array Value} {y : MethodName} (F : NoFace Z y.cls) (wi : (Cond.instanceMethod y).before a0 Z = true) (hy : y.cls ≠ "java/lang/invoke/MethodHandle" ∧ y.cls ≠ "java/lang/invoke/VarHandle") : (Cond.sameMethod y.cls y.cls y.name y.desc).before a0 Z = true := by
  obtain ⟨c, k, h1, h2, h3⟩ := F
  obtain ⟨mk, methM, hnamed, hmethM, -, -⟩ := Cond.instanceMethod_spec wi
  have hfound : Z.methodFound? y.cls y.name y.desc = some mk := State.methodFound?_of_named hnamed hy
  have hn : Z.methodNamed? ⟨y.cls, y.name, y.desc⟩ = some mk := hnamed
  simp only [Cond.before, Cond.holds, Cond.value, h1, hfound, hn, h2]
  simp; exact h3
theorem own_psel {Z : State} {a0 : Array Value} {y : MethodName} (F : NoFace Z y.cls) (wi : (Cond.instanceMethod y).before a0 Z = true) (wp : (Cond.privateMethod y).before a0 Z = true) (hy : y.cls ≠ "java/lang/invoke/MethodHandle" ∧ y.cls ≠ "java/lang/invoke/VarHandle") : (Cond.selects y.cls y y).before a0 Z = true := by
  obtain ⟨c, k, h1, h2, h3⟩ := F
  exact selects_self_of_private h1 h2 h3 (Cond.privateMethod_at wp) wi hy
/-- from A the run goes on as from B -/
def Rch (tb : Tables) (e : Env) (below : List Frame) (A B : State) : Prop := ∀ t, Steps tb e below B t → Steps tb e below A t
end Jvm.RoadKit
namespace Jvm.Pilot.@@N@@
open Jvm Jvm.ClassFile Sem Op Lib Jvm.Free Jvm.Stand Jvm.LawKit Jvm.RoadKit Bundle Jvm.Pilot.@@N@@.Jvm.D
def stv (k : Int32) : Int32 := if k = 0 then 404 else if k = 1 then 405 else if k = 2 then 415 else if k = 3 then 413 else if k = 4 then 400 else if k = 5 then 422 else if k = 6 then 429 else 500
def cl (k : Int32) : Int32 := if k = 0 then 0 else if k = 1 then 1 else if k = 2 then 2 else if k = 3 then 3 else if k = 4 then 4 else if k = 5 then 5 else if k = 6 then 6 else 7
theorem d1_0 : decode method_3_code 0 = .ok (.iload_n 0, 1) := by decide +kernel
theorem d1_1 : decode method_3_code 1 = .ok (.ifCond .ne 7, 3) := by decide +kernel
theorem d1_4 : decode method_3_code 4 = .ok (.sipush 404, 3) := by decide +kernel
theorem d1_7 : decode method_3_code 7 = .ok (.ireturn, 1) := by decide +kernel
theorem d1_8 : decode method_3_code 8 = .ok (.iload_n 0, 1) := by decide +kernel
theorem d1_9 : decode method_3_code 9 = .ok (.iconst 1, 1) := by decide +kernel
theorem d1_10 : decode method_3_code 10 = .ok (.if_icmp .ne 7, 3) := by decide +kernel
theorem d1_13 : decode method_3_code 13 = .ok (.sipush 405, 3) := by decide +kernel
theorem d1_16 : decode method_3_code 16 = .ok (.ireturn, 1) := by decide +kernel
theorem d1_17 : decode method_3_code 17 = .ok (.iload_n 0, 1) := by decide +kernel
theorem d1_18 : decode method_3_code 18 = .ok (.iconst 2, 1) := by decide +kernel
theorem d1_19 : decode method_3_code 19 = .ok (.if_icmp .ne 7, 3) := by decide +kernel
theorem d1_22 : decode method_3_code 22 = .ok (.sipush 415, 3) := by decide +kernel
theorem d1_25 : decode method_3_code 25 = .ok (.ireturn, 1) := by decide +kernel
theorem d1_26 : decode method_3_code 26 = .ok (.iload_n 0, 1) := by decide +kernel
theorem d1_27 : decode method_3_code 27 = .ok (.iconst 3, 1) := by decide +kernel
theorem d1_28 : decode method_3_code 28 = .ok (.if_icmp .ne 7, 3) := by decide +kernel
theorem d1_31 : decode method_3_code 31 = .ok (.sipush 413, 3) := by decide +kernel
theorem d1_34 : decode method_3_code 34 = .ok (.ireturn, 1) := by decide +kernel
theorem d1_35 : decode method_3_code 35 = .ok (.iload_n 0, 1) := by decide +kernel
theorem d1_36 : decode method_3_code 36 = .ok (.iconst 4, 1) := by decide +kernel
theorem d1_37 : decode method_3_code 37 = .ok (.if_icmp .ne 7, 3) := by decide +kernel
theorem d1_40 : decode method_3_code 40 = .ok (.sipush 400, 3) := by decide +kernel
theorem d1_43 : decode method_3_code 43 = .ok (.ireturn, 1) := by decide +kernel
theorem d1_44 : decode method_3_code 44 = .ok (.iload_n 0, 1) := by decide +kernel
theorem d1_45 : decode method_3_code 45 = .ok (.iconst 5, 1) := by decide +kernel
theorem d1_46 : decode method_3_code 46 = .ok (.if_icmp .ne 7, 3) := by decide +kernel
theorem d1_49 : decode method_3_code 49 = .ok (.sipush 422, 3) := by decide +kernel
theorem d1_52 : decode method_3_code 52 = .ok (.ireturn, 1) := by decide +kernel
theorem d1_53 : decode method_3_code 53 = .ok (.iload_n 0, 1) := by decide +kernel
theorem d1_54 : decode method_3_code 54 = .ok (.bipush 6, 2) := by decide +kernel
theorem d1_56 : decode method_3_code 56 = .ok (.if_icmp .ne 7, 3) := by decide +kernel
theorem d1_59 : decode method_3_code 59 = .ok (.sipush 429, 3) := by decide +kernel
theorem d1_62 : decode method_3_code 62 = .ok (.ireturn, 1) := by decide +kernel
theorem d1_63 : decode method_3_code 63 = .ok (.sipush 500, 3) := by decide +kernel
theorem d1_66 : decode method_3_code 66 = .ok (.ireturn, 1) := by decide +kernel
theorem pn_0 : plainName "com/example/error_envelope/errorenvelope/BuiltInCodeStandsForPinLaw" = true := by first | (simp [plainName, overriddenIn]; done) | decide +kernel
theorem ef_1 (m : MethodId) (x0 : Int32) : entryFrame m #[(.int x0)] 1 = mkF m 0 #[.val (.int x0)] [] := by first | (simp [entryFrame, mkF, argsToLocals, Value.category]; done) | rfl
def Q1 (Z : State) (k : Int32) (h0 : Heap) (n0 : Nat) (v : Option Value) (h : Heap) (L : List Loc) : Prop := v = some (.int (stv k)) ∧ Fr n0 L ∧ h = h0
set_option maxRecDepth 65536 in
set_option maxHeartbeats 40000000 in
theorem rm1 (l : Launch) (Z : State) (a0 : Array Value) (hw : ∀ d ∈ tables_1, d.before a0 Z = true) (ws : List Jvm.Cond) (k : Int32) (h0 : Heap) (n0 : Nat) (Z0 : n0 ≤ h0.size)  :
    MetFree l (⟨"com/example/error_envelope/errorenvelope/BuiltInCodeStandsForPinLaw", "statusOf", "(I)I"⟩ : MethodName) (head1 (Jvm.Cond.code (⟨"com/example/error_envelope/errorenvelope/BuiltInCodeStandsForPinLaw", "statusOf", "(I)I"⟩ : MethodName) method_3_code 1 (some .int) :: ws) ({ frames := 0, cells := 0, slots := 0, locals := 0 } : Room)) (fun aA U => aA = #[(.int k)] ∧ Z.Warmed39 U.vm ∧ U.heap = h0) (fun _ _ _ _ _ => True) (fun _ U oO U' => ∃ vV LL, oO = .returned vV ∧ Q1 Z k h0 n0 vV U'.heap LL ∧ FrameEnd U oO U' LL ({ frames := 0, cells := 0, slots := 0, locals := 0 } : Room).cells ({ frames := 0, cells := 0, slots := 0, locals := 0 } : Room).slots) := by
  refine MetFree.of_bodySF (plainFor_of_name pn_0) hisR ?_
  intro p e s m args below meth c s₁ Bd hml0 hP hK
  obtain ⟨rfl, hZ, hh⟩ := hP
  have hx := Bd.exec
  have hby := Bd.bytes
  have hml : c.maxLocals = 1 := hml0
  have hown : s.vm.findClass "com/example/error_envelope/errorenvelope/BuiltInCodeStandsForPinLaw" = some m.cls := findClass_of_methodNamed Bd.named
  have hnm := (name_of_methodNamed Bd.named Bd.method).1
  have X0 : Stand p l e ({ frames := 0, cells := 0, slots := 0, locals := 0 } : Room) s m #[(.int k)] below meth c s₁ [] 0 0 := Stand.of_body Bd
  have e0 : s₁.heap = h0 := by rw [← hh, Bd.state]; rfl
  have N0 := Fr.nil n0
  have K0 : Keep h0 h0 [] := Keep.refl _ _
  have pre0 : Rch p.tables e below (s₁.setTop (entryFrame m #[(.int k)] 1)) (s₁.setTop (mkF m 0 #[.val (.int k)] [])) := fun tgt ktg => castTop (ef_1 m k) ktg
  have pre1 : Rch p.tables e below (s₁.setTop (entryFrame m #[(.int k)] 1)) (s₁.setTop (mkF m 1 #[.val (.int k)] [(.int k)])) := fun tgt ktg => pre0 tgt (by
    show Steps p.tables e below (s₁.setTop (mkF m 0 #[.val (.int k)] [])) _
    refine XS.iloadN X0.here hx rfl (hb hby d1_0) rfl ?_
    exact ktg)
  by_cases c2 : k = (0 : Int32)
  · skip
    have pre3 : Rch p.tables e below (s₁.setTop (entryFrame m #[(.int k)] 1)) (s₁.setTop (mkF m 4 #[.val (.int k)] [])) := fun tgt ktg => pre1 tgt (by
      show Steps p.tables e below (s₁.setTop (mkF m 1 #[.val (.int k)] [(.int k)])) _
      refine XS.ifNo X0.here hx rfl (hb hby d1_1) rfl ((if0 _ _).trans (teq c2).2) ?_
      exact ktg)
    have pre4 : Rch p.tables e below (s₁.setTop (entryFrame m #[(.int k)] 1)) (s₁.setTop (mkF m 7 #[.val (.int k)] [(.int (404 : Int32))])) := fun tgt ktg => pre3 tgt (by
      show Steps p.tables e below (s₁.setTop (mkF m 4 #[.val (.int k)] [])) _
      refine XS.sipush X0.here hx rfl (hb hby d1_4) ?_
      exact ktg)
    obtain ⟨fs, hr, hrun, hended, hW, hsame⟩ := X0.leave (v := some (.int (404 : Int32))) (fun h => by rw [Bd.returns] at h; cases h)
    refine ⟨_, _, pre4 _ ?_, hrun, hended, _, _, rfl, ?_, ⟨_, rfl⟩, hW, hsame.mono (by decide) (by decide)⟩
    · show Steps p.tables e below (s₁.setTop (mkF m 7 #[.val (.int k)] [(.int (404 : Int32))])) _
      exact retI X0 hx Bd.returns (hb hby d1_7) hr
    · show Q1 Z k h0 n0 _ s₁.heap _
      rw [e0]
      exact ⟨by simp [stv, c2], N0, rfl⟩
  · skip
    have pre5 : Rch p.tables e below (s₁.setTop (entryFrame m #[(.int k)] 1)) (s₁.setTop (mkF m 8 #[.val (.int k)] [])) := fun tgt ktg => pre1 tgt (by
      show Steps p.tables e below (s₁.setTop (mkF m 1 #[.val (.int k)] [(.int k)])) _
      refine XS.ifYes X0.here hx rfl (pc0 := 1) (pc' := 8) rfl (hb hby d1_1) rfl ((if0 _ _).trans (feq c2).2) (by decide) (by decide) ?_
      exact ktg)
    have pre6 : Rch p.tables e below (s₁.setTop (entryFrame m #[(.int k)] 1)) (s₁.setTop (mkF m 10 #[.val (.int k)] [(.int (1 : Int32)), (.int k)])) := fun tgt ktg => pre5 tgt (by
      show Steps p.tables e below (s₁.setTop (mkF m 8 #[.val (.int k)] [])) _
      refine XS.iloadN X0.here hx rfl (hb hby d1_8) rfl ?_
      show Steps p.tables e below (s₁.setTop (mkF m 9 #[.val (.int k)] [(.int k)])) _
      refine XS.iconst X0.here hx rfl (hb hby d1_9) ?_
      exact ktg)
    by_cases c7 : k = (1 : Int32)
    · skip
      have pre8 : Rch p.tables e below (s₁.setTop (entryFrame m #[(.int k)] 1)) (s₁.setTop (mkF m 13 #[.val (.int k)] [])) := fun tgt ktg => pre6 tgt (by
        show Steps p.tables e below (s₁.setTop (mkF m 10 #[.val (.int k)] [(.int (1 : Int32)), (.int k)])) _
        refine XS.icmpNo X0.here hx rfl (hb hby d1_10) rfl (teq c7).2 ?_
        exact ktg)
      have pre9 : Rch p.tables e below (s₁.setTop (entryFrame m #[(.int k)] 1)) (s₁.setTop (mkF m 16 #[.val (.int k)] [(.int (405 : Int32))])) := fun tgt ktg => pre8 tgt (by
        show Steps p.tables e below (s₁.setTop (mkF m 13 #[.val (.int k)] [])) _
        refine XS.sipush X0.here hx rfl (hb hby d1_13) ?_
        exact ktg)
      obtain ⟨fs, hr, hrun, hended, hW, hsame⟩ := X0.leave (v := some (.int (405 : Int32))) (fun h => by rw [Bd.returns] at h; cases h)
      refine ⟨_, _, pre9 _ ?_, hrun, hended, _, _, rfl, ?_, ⟨_, rfl⟩, hW, hsame.mono (by decide) (by decide)⟩
      · show Steps p.tables e below (s₁.setTop (mkF m 16 #[.val (.int k)] [(.int (405 : Int32))])) _
        exact retI X0 hx Bd.returns (hb hby d1_16) hr
      · show Q1 Z k h0 n0 _ s₁.heap _
        rw [e0]
        exact ⟨by simp [stv, c2, c7], N0, rfl⟩
    · skip
      have pre10 : Rch p.tables e below (s₁.setTop (entryFrame m #[(.int k)] 1)) (s₁.setTop (mkF m 17 #[.val (.int k)] [])) := fun tgt ktg => pre6 tgt (by
        show Steps p.tables e below (s₁.setTop (mkF m 10 #[.val (.int k)] [(.int (1 : Int32)), (.int k)])) _
        refine XS.icmpYes X0.here hx rfl (pc0 := 10) (pc' := 17) rfl (hb hby d1_10) rfl (feq c7).2 (by decide) (by decide) ?_
        exact ktg)
      have pre11 : Rch p.tables e below (s₁.setTop (entryFrame m #[(.int k)] 1)) (s₁.setTop (mkF m 19 #[.val (.int k)] [(.int (2 : Int32)), (.int k)])) := fun tgt ktg => pre10 tgt (by
        show Steps p.tables e below (s₁.setTop (mkF m 17 #[.val (.int k)] [])) _
        refine XS.iloadN X0.here hx rfl (hb hby d1_17) rfl ?_
        show Steps p.tables e below (s₁.setTop (mkF m 18 #[.val (.int k)] [(.int k)])) _
        refine XS.iconst X0.here hx rfl (hb hby d1_18) ?_
        exact ktg)
      by_cases c12 : k = (2 : Int32)
      · skip
        have pre13 : Rch p.tables e below (s₁.setTop (entryFrame m #[(.int k)] 1)) (s₁.setTop (mkF m 22 #[.val (.int k)] [])) := fun tgt ktg => pre11 tgt (by
          show Steps p.tables e below (s₁.setTop (mkF m 19 #[.val (.int k)] [(.int (2 : Int32)), (.int k)])) _
          refine XS.icmpNo X0.here hx rfl (hb hby d1_19) rfl (teq c12).2 ?_
          exact ktg)
        have pre14 : Rch p.tables e below (s₁.setTop (entryFrame m #[(.int k)] 1)) (s₁.setTop (mkF m 25 #[.val (.int k)] [(.int (415 : Int32))])) := fun tgt ktg => pre13 tgt (by
          show Steps p.tables e below (s₁.setTop (mkF m 22 #[.val (.int k)] [])) _
          refine XS.sipush X0.here hx rfl (hb hby d1_22) ?_
          exact ktg)
        obtain ⟨fs, hr, hrun, hended, hW, hsame⟩ := X0.leave (v := some (.int (415 : Int32))) (fun h => by rw [Bd.returns] at h; cases h)
        refine ⟨_, _, pre14 _ ?_, hrun, hended, _, _, rfl, ?_, ⟨_, rfl⟩, hW, hsame.mono (by decide) (by decide)⟩
        · show Steps p.tables e below (s₁.setTop (mkF m 25 #[.val (.int k)] [(.int (415 : Int32))])) _
          exact retI X0 hx Bd.returns (hb hby d1_25) hr
        · show Q1 Z k h0 n0 _ s₁.heap _
          rw [e0]
          exact ⟨by simp [stv, c2, c7, c12], N0, rfl⟩
      · skip
        have pre15 : Rch p.tables e below (s₁.setTop (entryFrame m #[(.int k)] 1)) (s₁.setTop (mkF m 26 #[.val (.int k)] [])) := fun tgt ktg => pre11 tgt (by
          show Steps p.tables e below (s₁.setTop (mkF m 19 #[.val (.int k)] [(.int (2 : Int32)), (.int k)])) _
          refine XS.icmpYes X0.here hx rfl (pc0 := 19) (pc' := 26) rfl (hb hby d1_19) rfl (feq c12).2 (by decide) (by decide) ?_
          exact ktg)
        have pre16 : Rch p.tables e below (s₁.setTop (entryFrame m #[(.int k)] 1)) (s₁.setTop (mkF m 28 #[.val (.int k)] [(.int (3 : Int32)), (.int k)])) := fun tgt ktg => pre15 tgt (by
          show Steps p.tables e below (s₁.setTop (mkF m 26 #[.val (.int k)] [])) _
          refine XS.iloadN X0.here hx rfl (hb hby d1_26) rfl ?_
          show Steps p.tables e below (s₁.setTop (mkF m 27 #[.val (.int k)] [(.int k)])) _
          refine XS.iconst X0.here hx rfl (hb hby d1_27) ?_
          exact ktg)
        by_cases c17 : k = (3 : Int32)
        · skip
          have pre18 : Rch p.tables e below (s₁.setTop (entryFrame m #[(.int k)] 1)) (s₁.setTop (mkF m 31 #[.val (.int k)] [])) := fun tgt ktg => pre16 tgt (by
            show Steps p.tables e below (s₁.setTop (mkF m 28 #[.val (.int k)] [(.int (3 : Int32)), (.int k)])) _
            refine XS.icmpNo X0.here hx rfl (hb hby d1_28) rfl (teq c17).2 ?_
            exact ktg)
          have pre19 : Rch p.tables e below (s₁.setTop (entryFrame m #[(.int k)] 1)) (s₁.setTop (mkF m 34 #[.val (.int k)] [(.int (413 : Int32))])) := fun tgt ktg => pre18 tgt (by
            show Steps p.tables e below (s₁.setTop (mkF m 31 #[.val (.int k)] [])) _
            refine XS.sipush X0.here hx rfl (hb hby d1_31) ?_
            exact ktg)
          obtain ⟨fs, hr, hrun, hended, hW, hsame⟩ := X0.leave (v := some (.int (413 : Int32))) (fun h => by rw [Bd.returns] at h; cases h)
          refine ⟨_, _, pre19 _ ?_, hrun, hended, _, _, rfl, ?_, ⟨_, rfl⟩, hW, hsame.mono (by decide) (by decide)⟩
          · show Steps p.tables e below (s₁.setTop (mkF m 34 #[.val (.int k)] [(.int (413 : Int32))])) _
            exact retI X0 hx Bd.returns (hb hby d1_34) hr
          · show Q1 Z k h0 n0 _ s₁.heap _
            rw [e0]
            exact ⟨by simp [stv, c2, c7, c12, c17], N0, rfl⟩
        · skip
          have pre20 : Rch p.tables e below (s₁.setTop (entryFrame m #[(.int k)] 1)) (s₁.setTop (mkF m 35 #[.val (.int k)] [])) := fun tgt ktg => pre16 tgt (by
            show Steps p.tables e below (s₁.setTop (mkF m 28 #[.val (.int k)] [(.int (3 : Int32)), (.int k)])) _
            refine XS.icmpYes X0.here hx rfl (pc0 := 28) (pc' := 35) rfl (hb hby d1_28) rfl (feq c17).2 (by decide) (by decide) ?_
            exact ktg)
          have pre21 : Rch p.tables e below (s₁.setTop (entryFrame m #[(.int k)] 1)) (s₁.setTop (mkF m 37 #[.val (.int k)] [(.int (4 : Int32)), (.int k)])) := fun tgt ktg => pre20 tgt (by
            show Steps p.tables e below (s₁.setTop (mkF m 35 #[.val (.int k)] [])) _
            refine XS.iloadN X0.here hx rfl (hb hby d1_35) rfl ?_
            show Steps p.tables e below (s₁.setTop (mkF m 36 #[.val (.int k)] [(.int k)])) _
            refine XS.iconst X0.here hx rfl (hb hby d1_36) ?_
            exact ktg)
          by_cases c22 : k = (4 : Int32)
          · skip
            have pre23 : Rch p.tables e below (s₁.setTop (entryFrame m #[(.int k)] 1)) (s₁.setTop (mkF m 40 #[.val (.int k)] [])) := fun tgt ktg => pre21 tgt (by
              show Steps p.tables e below (s₁.setTop (mkF m 37 #[.val (.int k)] [(.int (4 : Int32)), (.int k)])) _
              refine XS.icmpNo X0.here hx rfl (hb hby d1_37) rfl (teq c22).2 ?_
              exact ktg)
            have pre24 : Rch p.tables e below (s₁.setTop (entryFrame m #[(.int k)] 1)) (s₁.setTop (mkF m 43 #[.val (.int k)] [(.int (400 : Int32))])) := fun tgt ktg => pre23 tgt (by
              show Steps p.tables e below (s₁.setTop (mkF m 40 #[.val (.int k)] [])) _
              refine XS.sipush X0.here hx rfl (hb hby d1_40) ?_
              exact ktg)
            obtain ⟨fs, hr, hrun, hended, hW, hsame⟩ := X0.leave (v := some (.int (400 : Int32))) (fun h => by rw [Bd.returns] at h; cases h)
            refine ⟨_, _, pre24 _ ?_, hrun, hended, _, _, rfl, ?_, ⟨_, rfl⟩, hW, hsame.mono (by decide) (by decide)⟩
            · show Steps p.tables e below (s₁.setTop (mkF m 43 #[.val (.int k)] [(.int (400 : Int32))])) _
              exact retI X0 hx Bd.returns (hb hby d1_43) hr
            · show Q1 Z k h0 n0 _ s₁.heap _
              rw [e0]
              exact ⟨by simp [stv, c2, c7, c12, c17, c22], N0, rfl⟩
          · skip
            have pre25 : Rch p.tables e below (s₁.setTop (entryFrame m #[(.int k)] 1)) (s₁.setTop (mkF m 44 #[.val (.int k)] [])) := fun tgt ktg => pre21 tgt (by
              show Steps p.tables e below (s₁.setTop (mkF m 37 #[.val (.int k)] [(.int (4 : Int32)), (.int k)])) _
              refine XS.icmpYes X0.here hx rfl (pc0 := 37) (pc' := 44) rfl (hb hby d1_37) rfl (feq c22).2 (by decide) (by decide) ?_
              exact ktg)
            have pre26 : Rch p.tables e below (s₁.setTop (entryFrame m #[(.int k)] 1)) (s₁.setTop (mkF m 46 #[.val (.int k)] [(.int (5 : Int32)), (.int k)])) := fun tgt ktg => pre25 tgt (by
              show Steps p.tables e below (s₁.setTop (mkF m 44 #[.val (.int k)] [])) _
              refine XS.iloadN X0.here hx rfl (hb hby d1_44) rfl ?_
              show Steps p.tables e below (s₁.setTop (mkF m 45 #[.val (.int k)] [(.int k)])) _
              refine XS.iconst X0.here hx rfl (hb hby d1_45) ?_
              exact ktg)
            by_cases c27 : k = (5 : Int32)
            · skip
              have pre28 : Rch p.tables e below (s₁.setTop (entryFrame m #[(.int k)] 1)) (s₁.setTop (mkF m 49 #[.val (.int k)] [])) := fun tgt ktg => pre26 tgt (by
                show Steps p.tables e below (s₁.setTop (mkF m 46 #[.val (.int k)] [(.int (5 : Int32)), (.int k)])) _
                refine XS.icmpNo X0.here hx rfl (hb hby d1_46) rfl (teq c27).2 ?_
                exact ktg)
              have pre29 : Rch p.tables e below (s₁.setTop (entryFrame m #[(.int k)] 1)) (s₁.setTop (mkF m 52 #[.val (.int k)] [(.int (422 : Int32))])) := fun tgt ktg => pre28 tgt (by
                show Steps p.tables e below (s₁.setTop (mkF m 49 #[.val (.int k)] [])) _
                refine XS.sipush X0.here hx rfl (hb hby d1_49) ?_
                exact ktg)
              obtain ⟨fs, hr, hrun, hended, hW, hsame⟩ := X0.leave (v := some (.int (422 : Int32))) (fun h => by rw [Bd.returns] at h; cases h)
              refine ⟨_, _, pre29 _ ?_, hrun, hended, _, _, rfl, ?_, ⟨_, rfl⟩, hW, hsame.mono (by decide) (by decide)⟩
              · show Steps p.tables e below (s₁.setTop (mkF m 52 #[.val (.int k)] [(.int (422 : Int32))])) _
                exact retI X0 hx Bd.returns (hb hby d1_52) hr
              · show Q1 Z k h0 n0 _ s₁.heap _
                rw [e0]
                exact ⟨by simp [stv, c2, c7, c12, c17, c22, c27], N0, rfl⟩
            · skip
              have pre30 : Rch p.tables e below (s₁.setTop (entryFrame m #[(.int k)] 1)) (s₁.setTop (mkF m 53 #[.val (.int k)] [])) := fun tgt ktg => pre26 tgt (by
                show Steps p.tables e below (s₁.setTop (mkF m 46 #[.val (.int k)] [(.int (5 : Int32)), (.int k)])) _
                refine XS.icmpYes X0.here hx rfl (pc0 := 46) (pc' := 53) rfl (hb hby d1_46) rfl (feq c27).2 (by decide) (by decide) ?_
                exact ktg)
              have pre31 : Rch p.tables e below (s₁.setTop (entryFrame m #[(.int k)] 1)) (s₁.setTop (mkF m 56 #[.val (.int k)] [(.int (6 : Int32)), (.int k)])) := fun tgt ktg => pre30 tgt (by
                show Steps p.tables e below (s₁.setTop (mkF m 53 #[.val (.int k)] [])) _
                refine XS.iloadN X0.here hx rfl (hb hby d1_53) rfl ?_
                show Steps p.tables e below (s₁.setTop (mkF m 54 #[.val (.int k)] [(.int k)])) _
                refine XS.bipush X0.here hx rfl (hb hby d1_54) ?_
                exact ktg)
              by_cases c32 : k = (6 : Int32)
              · skip
                have pre33 : Rch p.tables e below (s₁.setTop (entryFrame m #[(.int k)] 1)) (s₁.setTop (mkF m 59 #[.val (.int k)] [])) := fun tgt ktg => pre31 tgt (by
                  show Steps p.tables e below (s₁.setTop (mkF m 56 #[.val (.int k)] [(.int (6 : Int32)), (.int k)])) _
                  refine XS.icmpNo X0.here hx rfl (hb hby d1_56) rfl (teq c32).2 ?_
                  exact ktg)
                have pre34 : Rch p.tables e below (s₁.setTop (entryFrame m #[(.int k)] 1)) (s₁.setTop (mkF m 62 #[.val (.int k)] [(.int (429 : Int32))])) := fun tgt ktg => pre33 tgt (by
                  show Steps p.tables e below (s₁.setTop (mkF m 59 #[.val (.int k)] [])) _
                  refine XS.sipush X0.here hx rfl (hb hby d1_59) ?_
                  exact ktg)
                obtain ⟨fs, hr, hrun, hended, hW, hsame⟩ := X0.leave (v := some (.int (429 : Int32))) (fun h => by rw [Bd.returns] at h; cases h)
                refine ⟨_, _, pre34 _ ?_, hrun, hended, _, _, rfl, ?_, ⟨_, rfl⟩, hW, hsame.mono (by decide) (by decide)⟩
                · show Steps p.tables e below (s₁.setTop (mkF m 62 #[.val (.int k)] [(.int (429 : Int32))])) _
                  exact retI X0 hx Bd.returns (hb hby d1_62) hr
                · show Q1 Z k h0 n0 _ s₁.heap _
                  rw [e0]
                  exact ⟨by simp [stv, c2, c7, c12, c17, c22, c27, c32], N0, rfl⟩
              · skip
                have pre35 : Rch p.tables e below (s₁.setTop (entryFrame m #[(.int k)] 1)) (s₁.setTop (mkF m 63 #[.val (.int k)] [])) := fun tgt ktg => pre31 tgt (by
                  show Steps p.tables e below (s₁.setTop (mkF m 56 #[.val (.int k)] [(.int (6 : Int32)), (.int k)])) _
                  refine XS.icmpYes X0.here hx rfl (pc0 := 56) (pc' := 63) rfl (hb hby d1_56) rfl (feq c32).2 (by decide) (by decide) ?_
                  exact ktg)
                have pre36 : Rch p.tables e below (s₁.setTop (entryFrame m #[(.int k)] 1)) (s₁.setTop (mkF m 66 #[.val (.int k)] [(.int (500 : Int32))])) := fun tgt ktg => pre35 tgt (by
                  show Steps p.tables e below (s₁.setTop (mkF m 63 #[.val (.int k)] [])) _
                  refine XS.sipush X0.here hx rfl (hb hby d1_63) ?_
                  exact ktg)
                obtain ⟨fs, hr, hrun, hended, hW, hsame⟩ := X0.leave (v := some (.int (500 : Int32))) (fun h => by rw [Bd.returns] at h; cases h)
                refine ⟨_, _, pre36 _ ?_, hrun, hended, _, _, rfl, ?_, ⟨_, rfl⟩, hW, hsame.mono (by decide) (by decide)⟩
                · show Steps p.tables e below (s₁.setTop (mkF m 66 #[.val (.int k)] [(.int (500 : Int32))])) _
                  exact retI X0 hx Bd.returns (hb hby d1_66) hr
                · show Q1 Z k h0 n0 _ s₁.heap _
                  rw [e0]
                  exact ⟨by simp [stv, c2, c7, c12, c17, c22, c27, c32], N0, rfl⟩
theorem d2_0 : decode method_2_code 0 = .ok (.iload_n 0, 1) := by decide +kernel
theorem d2_1 : decode method_2_code 1 = .ok (.ifCond .ne 7, 3) := by decide +kernel
theorem d2_4 : decode method_2_code 4 = .ok (.getstatic 7, 3) := by decide +kernel
theorem d2_7 : decode method_2_code 7 = .ok (.areturn, 1) := by decide +kernel
theorem d2_8 : decode method_2_code 8 = .ok (.iload_n 0, 1) := by decide +kernel
theorem d2_9 : decode method_2_code 9 = .ok (.iconst 1, 1) := by decide +kernel
theorem d2_10 : decode method_2_code 10 = .ok (.if_icmp .ne 7, 3) := by decide +kernel
theorem d2_13 : decode method_2_code 13 = .ok (.getstatic 13, 3) := by decide +kernel
theorem d2_16 : decode method_2_code 16 = .ok (.areturn, 1) := by decide +kernel
theorem d2_17 : decode method_2_code 17 = .ok (.iload_n 0, 1) := by decide +kernel
theorem d2_18 : decode method_2_code 18 = .ok (.iconst 2, 1) := by decide +kernel
theorem d2_19 : decode method_2_code 19 = .ok (.if_icmp .ne 7, 3) := by decide +kernel
theorem d2_22 : decode method_2_code 22 = .ok (.getstatic 16, 3) := by decide +kernel
theorem d2_25 : decode method_2_code 25 = .ok (.areturn, 1) := by decide +kernel
theorem d2_26 : decode method_2_code 26 = .ok (.iload_n 0, 1) := by decide +kernel
theorem d2_27 : decode method_2_code 27 = .ok (.iconst 3, 1) := by decide +kernel
theorem d2_28 : decode method_2_code 28 = .ok (.if_icmp .ne 7, 3) := by decide +kernel
theorem d2_31 : decode method_2_code 31 = .ok (.getstatic 19, 3) := by decide +kernel
theorem d2_34 : decode method_2_code 34 = .ok (.areturn, 1) := by decide +kernel
theorem d2_35 : decode method_2_code 35 = .ok (.iload_n 0, 1) := by decide +kernel
theorem d2_36 : decode method_2_code 36 = .ok (.iconst 4, 1) := by decide +kernel
theorem d2_37 : decode method_2_code 37 = .ok (.if_icmp .ne 7, 3) := by decide +kernel
theorem d2_40 : decode method_2_code 40 = .ok (.getstatic 22, 3) := by decide +kernel
theorem d2_43 : decode method_2_code 43 = .ok (.areturn, 1) := by decide +kernel
theorem d2_44 : decode method_2_code 44 = .ok (.iload_n 0, 1) := by decide +kernel
theorem d2_45 : decode method_2_code 45 = .ok (.iconst 5, 1) := by decide +kernel
theorem d2_46 : decode method_2_code 46 = .ok (.if_icmp .ne 7, 3) := by decide +kernel
theorem d2_49 : decode method_2_code 49 = .ok (.getstatic 25, 3) := by decide +kernel
theorem d2_52 : decode method_2_code 52 = .ok (.areturn, 1) := by decide +kernel
theorem d2_53 : decode method_2_code 53 = .ok (.iload_n 0, 1) := by decide +kernel
theorem d2_54 : decode method_2_code 54 = .ok (.bipush 6, 2) := by decide +kernel
theorem d2_56 : decode method_2_code 56 = .ok (.if_icmp .ne 7, 3) := by decide +kernel
theorem d2_59 : decode method_2_code 59 = .ok (.getstatic 28, 3) := by decide +kernel
theorem d2_62 : decode method_2_code 62 = .ok (.areturn, 1) := by decide +kernel
theorem d2_63 : decode method_2_code 63 = .ok (.getstatic 31, 3) := by decide +kernel
theorem d2_66 : decode method_2_code 66 = .ok (.areturn, 1) := by decide +kernel
theorem ef_2 (m : MethodId) (x0 : Int32) : entryFrame m #[(.int x0)] 1 = mkF m 0 #[.val (.int x0)] [] := by first | (simp [entryFrame, mkF, argsToLocals, Value.category]; done) | rfl
def Q2 (Z : State) (k : Int32) (W : Int32 → Addr) (h0 : Heap) (n0 : Nat) (v : Option Value) (h : Heap) (L : List Loc) : Prop := v = some (.ref (W (cl k))) ∧ Fr n0 L ∧ h = h0
set_option maxRecDepth 65536 in
set_option maxHeartbeats 40000000 in
theorem rm2 (l : Launch) (Z : State) (a0 : Array Value) (hw : ∀ d ∈ tables_1, d.before a0 Z = true) (ws : List Jvm.Cond) (k : Int32) (W : Int32 → Addr) (h0 : Heap) (n0 : Nat) (Z0 : n0 ≤ h0.size) (S0 : Sta Z h0 "com/example/error_envelope/errorenvelope/BuiltInCode" "NOT_FOUND" "Lcom/example/error_envelope/errorenvelope/BuiltInCode;" (.ref (W 0))) (S1 : Sta Z h0 "com/example/error_envelope/errorenvelope/BuiltInCode" "METHOD_NOT_ALLOWED" "Lcom/example/error_envelope/errorenvelope/BuiltInCode;" (.ref (W 1))) (S2 : Sta Z h0 "com/example/error_envelope/errorenvelope/BuiltInCode" "UNSUPPORTED_MEDIA_TYPE" "Lcom/example/error_envelope/errorenvelope/BuiltInCode;" (.ref (W 2))) (S3 : Sta Z h0 "com/example/error_envelope/errorenvelope/BuiltInCode" "PAYLOAD_TOO_LARGE" "Lcom/example/error_envelope/errorenvelope/BuiltInCode;" (.ref (W 3))) (S4 : Sta Z h0 "com/example/error_envelope/errorenvelope/BuiltInCode" "INVALID_JSON" "Lcom/example/error_envelope/errorenvelope/BuiltInCode;" (.ref (W 4))) (S5 : Sta Z h0 "com/example/error_envelope/errorenvelope/BuiltInCode" "VALIDATION_ERROR" "Lcom/example/error_envelope/errorenvelope/BuiltInCode;" (.ref (W 5))) (S6 : Sta Z h0 "com/example/error_envelope/errorenvelope/BuiltInCode" "RATE_LIMITED" "Lcom/example/error_envelope/errorenvelope/BuiltInCode;" (.ref (W 6))) (S7 : Sta Z h0 "com/example/error_envelope/errorenvelope/BuiltInCode" "INTERNAL_ERROR" "Lcom/example/error_envelope/errorenvelope/BuiltInCode;" (.ref (W 7))) :
    MetFree l (⟨"com/example/error_envelope/errorenvelope/BuiltInCodeStandsForPinLaw", "constant", "(I)Lcom/example/error_envelope/errorenvelope/BuiltInCode;"⟩ : MethodName) (head1 (Jvm.Cond.code (⟨"com/example/error_envelope/errorenvelope/BuiltInCodeStandsForPinLaw", "constant", "(I)Lcom/example/error_envelope/errorenvelope/BuiltInCode;"⟩ : MethodName) method_2_code 1 (some (.object "com/example/error_envelope/errorenvelope/BuiltInCode")) :: ws) ({ frames := 0, cells := 0, slots := 0, locals := 0 } : Room)) (fun aA U => aA = #[(.int k)] ∧ Z.Warmed39 U.vm ∧ U.heap = h0) (fun _ _ _ _ _ => True) (fun _ U oO U' => ∃ vV LL, oO = .returned vV ∧ Q2 Z k W h0 n0 vV U'.heap LL ∧ FrameEnd U oO U' LL ({ frames := 0, cells := 0, slots := 0, locals := 0 } : Room).cells ({ frames := 0, cells := 0, slots := 0, locals := 0 } : Room).slots) := by
  refine MetFree.of_bodySF (plainFor_of_name pn_0) hisR ?_
  intro p e s m args below meth c s₁ Bd hml0 hP hK
  obtain ⟨rfl, hZ, hh⟩ := hP
  have hx := Bd.exec
  have hby := Bd.bytes
  have hml : c.maxLocals = 1 := hml0
  have hown : s.vm.findClass "com/example/error_envelope/errorenvelope/BuiltInCodeStandsForPinLaw" = some m.cls := findClass_of_methodNamed Bd.named
  have hnm := (name_of_methodNamed Bd.named Bd.method).1
  have X0 : Stand p l e ({ frames := 0, cells := 0, slots := 0, locals := 0 } : Room) s m #[(.int k)] below meth c s₁ [] 0 0 := Stand.of_body Bd
  have e0 : s₁.heap = h0 := by rw [← hh, Bd.state]; rfl
  have N0 := Fr.nil n0
  have K0 : Keep h0 h0 [] := Keep.refl _ _
  have pre0 : Rch p.tables e below (s₁.setTop (entryFrame m #[(.int k)] 1)) (s₁.setTop (mkF m 0 #[.val (.int k)] [])) := fun tgt ktg => castTop (ef_2 m k) ktg
  have pre1 : Rch p.tables e below (s₁.setTop (entryFrame m #[(.int k)] 1)) (s₁.setTop (mkF m 1 #[.val (.int k)] [(.int k)])) := fun tgt ktg => pre0 tgt (by
    show Steps p.tables e below (s₁.setTop (mkF m 0 #[.val (.int k)] [])) _
    refine XS.iloadN X0.here hx rfl (hb hby d2_0) rfl ?_
    exact ktg)
  by_cases c2 : k = (0 : Int32)
  · skip
    have pre3 : Rch p.tables e below (s₁.setTop (entryFrame m #[(.int k)] 1)) (s₁.setTop (mkF m 4 #[.val (.int k)] [])) := fun tgt ktg => pre1 tgt (by
      show Steps p.tables e below (s₁.setTop (mkF m 1 #[.val (.int k)] [(.int k)])) _
      refine XS.ifNo X0.here hx rfl (hb hby d2_1) rfl ((if0 _ _).trans (teq c2).2) ?_
      exact ktg)
    obtain ⟨T4, X4, e4, st4⟩ := getS2 X0 hx hZ hown (host := "") (Or.inl (hw _ (List.mem_of_getElem? (i := 7) rfl))) Via.refl e0 S0 (g := (mkF m 4 #[.val (.int k)] [])) rfl (hb hby d2_4)
    have pre4 : Rch p.tables e below (s₁.setTop (entryFrame m #[(.int k)] 1)) (T4.setTop (mkF m 7 #[.val (.int k)] [(.ref (W 0))])) := fun tgt ktg => pre3 tgt (st4 tgt ktg)
    obtain ⟨fs, hr, hrun, hended, hW, hsame⟩ := X4.leave (v := some (.ref (W 0))) (fun h => by rw [Bd.returns] at h; cases h)
    refine ⟨_, _, pre4 _ ?_, hrun, hended, _, _, rfl, ?_, ⟨_, rfl⟩, hW, hsame.mono (by decide) (by decide)⟩
    · show Steps p.tables e below (T4.setTop (mkF m 7 #[.val (.int k)] [(.ref (W 0))])) _
      jvm_step X4.here [X4.here.top, hx, (hb hby d2_7), X4.method', Bd.returns, Value.isRef, FieldType.isReference]
      first | (intro acts; rw [hr _ acts rfl rfl rfl]) | rw [hr _ _ rfl rfl rfl]
      exact Steps.refl _
    · show Q2 Z k W h0 n0 _ T4.heap _
      rw [e4]
      exact ⟨by simp [cl, c2], N0, rfl⟩
  · skip
    have pre5 : Rch p.tables e below (s₁.setTop (entryFrame m #[(.int k)] 1)) (s₁.setTop (mkF m 8 #[.val (.int k)] [])) := fun tgt ktg => pre1 tgt (by
      show Steps p.tables e below (s₁.setTop (mkF m 1 #[.val (.int k)] [(.int k)])) _
      refine XS.ifYes X0.here hx rfl (pc0 := 1) (pc' := 8) rfl (hb hby d2_1) rfl ((if0 _ _).trans (feq c2).2) (by decide) (by decide) ?_
      exact ktg)
    have pre6 : Rch p.tables e below (s₁.setTop (entryFrame m #[(.int k)] 1)) (s₁.setTop (mkF m 10 #[.val (.int k)] [(.int (1 : Int32)), (.int k)])) := fun tgt ktg => pre5 tgt (by
      show Steps p.tables e below (s₁.setTop (mkF m 8 #[.val (.int k)] [])) _
      refine XS.iloadN X0.here hx rfl (hb hby d2_8) rfl ?_
      show Steps p.tables e below (s₁.setTop (mkF m 9 #[.val (.int k)] [(.int k)])) _
      refine XS.iconst X0.here hx rfl (hb hby d2_9) ?_
      exact ktg)
    by_cases c7 : k = (1 : Int32)
    · skip
      have pre8 : Rch p.tables e below (s₁.setTop (entryFrame m #[(.int k)] 1)) (s₁.setTop (mkF m 13 #[.val (.int k)] [])) := fun tgt ktg => pre6 tgt (by
        show Steps p.tables e below (s₁.setTop (mkF m 10 #[.val (.int k)] [(.int (1 : Int32)), (.int k)])) _
        refine XS.icmpNo X0.here hx rfl (hb hby d2_10) rfl (teq c7).2 ?_
        exact ktg)
      obtain ⟨T9, X9, e9, st9⟩ := getS2 X0 hx hZ hown (host := "") (Or.inl (hw _ (List.mem_of_getElem? (i := 33) rfl))) Via.refl e0 S1 (g := (mkF m 13 #[.val (.int k)] [])) rfl (hb hby d2_13)
      have pre9 : Rch p.tables e below (s₁.setTop (entryFrame m #[(.int k)] 1)) (T9.setTop (mkF m 16 #[.val (.int k)] [(.ref (W 1))])) := fun tgt ktg => pre8 tgt (st9 tgt ktg)
      obtain ⟨fs, hr, hrun, hended, hW, hsame⟩ := X9.leave (v := some (.ref (W 1))) (fun h => by rw [Bd.returns] at h; cases h)
      refine ⟨_, _, pre9 _ ?_, hrun, hended, _, _, rfl, ?_, ⟨_, rfl⟩, hW, hsame.mono (by decide) (by decide)⟩
      · show Steps p.tables e below (T9.setTop (mkF m 16 #[.val (.int k)] [(.ref (W 1))])) _
        jvm_step X9.here [X9.here.top, hx, (hb hby d2_16), X9.method', Bd.returns, Value.isRef, FieldType.isReference]
        first | (intro acts; rw [hr _ acts rfl rfl rfl]) | rw [hr _ _ rfl rfl rfl]
        exact Steps.refl _
      · show Q2 Z k W h0 n0 _ T9.heap _
        rw [e9]
        exact ⟨by simp [cl, c2, c7], N0, rfl⟩
    · skip
      have pre10 : Rch p.tables e below (s₁.setTop (entryFrame m #[(.int k)] 1)) (s₁.setTop (mkF m 17 #[.val (.int k)] [])) := fun tgt ktg => pre6 tgt (by
        show Steps p.tables e below (s₁.setTop (mkF m 10 #[.val (.int k)] [(.int (1 : Int32)), (.int k)])) _
        refine XS.icmpYes X0.here hx rfl (pc0 := 10) (pc' := 17) rfl (hb hby d2_10) rfl (feq c7).2 (by decide) (by decide) ?_
        exact ktg)
      have pre11 : Rch p.tables e below (s₁.setTop (entryFrame m #[(.int k)] 1)) (s₁.setTop (mkF m 19 #[.val (.int k)] [(.int (2 : Int32)), (.int k)])) := fun tgt ktg => pre10 tgt (by
        show Steps p.tables e below (s₁.setTop (mkF m 17 #[.val (.int k)] [])) _
        refine XS.iloadN X0.here hx rfl (hb hby d2_17) rfl ?_
        show Steps p.tables e below (s₁.setTop (mkF m 18 #[.val (.int k)] [(.int k)])) _
        refine XS.iconst X0.here hx rfl (hb hby d2_18) ?_
        exact ktg)
      by_cases c12 : k = (2 : Int32)
      · skip
        have pre13 : Rch p.tables e below (s₁.setTop (entryFrame m #[(.int k)] 1)) (s₁.setTop (mkF m 22 #[.val (.int k)] [])) := fun tgt ktg => pre11 tgt (by
          show Steps p.tables e below (s₁.setTop (mkF m 19 #[.val (.int k)] [(.int (2 : Int32)), (.int k)])) _
          refine XS.icmpNo X0.here hx rfl (hb hby d2_19) rfl (teq c12).2 ?_
          exact ktg)
        obtain ⟨T14, X14, e14, st14⟩ := getS2 X0 hx hZ hown (host := "") (Or.inl (hw _ (List.mem_of_getElem? (i := 31) rfl))) Via.refl e0 S2 (g := (mkF m 22 #[.val (.int k)] [])) rfl (hb hby d2_22)
        have pre14 : Rch p.tables e below (s₁.setTop (entryFrame m #[(.int k)] 1)) (T14.setTop (mkF m 25 #[.val (.int k)] [(.ref (W 2))])) := fun tgt ktg => pre13 tgt (st14 tgt ktg)
        obtain ⟨fs, hr, hrun, hended, hW, hsame⟩ := X14.leave (v := some (.ref (W 2))) (fun h => by rw [Bd.returns] at h; cases h)
        refine ⟨_, _, pre14 _ ?_, hrun, hended, _, _, rfl, ?_, ⟨_, rfl⟩, hW, hsame.mono (by decide) (by decide)⟩
        · show Steps p.tables e below (T14.setTop (mkF m 25 #[.val (.int k)] [(.ref (W 2))])) _
          jvm_step X14.here [X14.here.top, hx, (hb hby d2_25), X14.method', Bd.returns, Value.isRef, FieldType.isReference]
          first | (intro acts; rw [hr _ acts rfl rfl rfl]) | rw [hr _ _ rfl rfl rfl]
          exact Steps.refl _
        · show Q2 Z k W h0 n0 _ T14.heap _
          rw [e14]
          exact ⟨by simp [cl, c2, c7, c12], N0, rfl⟩
      · skip
        have pre15 : Rch p.tables e below (s₁.setTop (entryFrame m #[(.int k)] 1)) (s₁.setTop (mkF m 26 #[.val (.int k)] [])) := fun tgt ktg => pre11 tgt (by
          show Steps p.tables e below (s₁.setTop (mkF m 19 #[.val (.int k)] [(.int (2 : Int32)), (.int k)])) _
          refine XS.icmpYes X0.here hx rfl (pc0 := 19) (pc' := 26) rfl (hb hby d2_19) rfl (feq c12).2 (by decide) (by decide) ?_
          exact ktg)
        have pre16 : Rch p.tables e below (s₁.setTop (entryFrame m #[(.int k)] 1)) (s₁.setTop (mkF m 28 #[.val (.int k)] [(.int (3 : Int32)), (.int k)])) := fun tgt ktg => pre15 tgt (by
          show Steps p.tables e below (s₁.setTop (mkF m 26 #[.val (.int k)] [])) _
          refine XS.iloadN X0.here hx rfl (hb hby d2_26) rfl ?_
          show Steps p.tables e below (s₁.setTop (mkF m 27 #[.val (.int k)] [(.int k)])) _
          refine XS.iconst X0.here hx rfl (hb hby d2_27) ?_
          exact ktg)
        by_cases c17 : k = (3 : Int32)
        · skip
          have pre18 : Rch p.tables e below (s₁.setTop (entryFrame m #[(.int k)] 1)) (s₁.setTop (mkF m 31 #[.val (.int k)] [])) := fun tgt ktg => pre16 tgt (by
            show Steps p.tables e below (s₁.setTop (mkF m 28 #[.val (.int k)] [(.int (3 : Int32)), (.int k)])) _
            refine XS.icmpNo X0.here hx rfl (hb hby d2_28) rfl (teq c17).2 ?_
            exact ktg)
          obtain ⟨T19, X19, e19, st19⟩ := getS2 X0 hx hZ hown (host := "") (Or.inl (hw _ (List.mem_of_getElem? (i := 35) rfl))) Via.refl e0 S3 (g := (mkF m 31 #[.val (.int k)] [])) rfl (hb hby d2_31)
          have pre19 : Rch p.tables e below (s₁.setTop (entryFrame m #[(.int k)] 1)) (T19.setTop (mkF m 34 #[.val (.int k)] [(.ref (W 3))])) := fun tgt ktg => pre18 tgt (st19 tgt ktg)
          obtain ⟨fs, hr, hrun, hended, hW, hsame⟩ := X19.leave (v := some (.ref (W 3))) (fun h => by rw [Bd.returns] at h; cases h)
          refine ⟨_, _, pre19 _ ?_, hrun, hended, _, _, rfl, ?_, ⟨_, rfl⟩, hW, hsame.mono (by decide) (by decide)⟩
          · show Steps p.tables e below (T19.setTop (mkF m 34 #[.val (.int k)] [(.ref (W 3))])) _
            jvm_step X19.here [X19.here.top, hx, (hb hby d2_34), X19.method', Bd.returns, Value.isRef, FieldType.isReference]
            first | (intro acts; rw [hr _ acts rfl rfl rfl]) | rw [hr _ _ rfl rfl rfl]
            exact Steps.refl _
          · show Q2 Z k W h0 n0 _ T19.heap _
            rw [e19]
            exact ⟨by simp [cl, c2, c7, c12, c17], N0, rfl⟩
        · skip
          have pre20 : Rch p.tables e below (s₁.setTop (entryFrame m #[(.int k)] 1)) (s₁.setTop (mkF m 35 #[.val (.int k)] [])) := fun tgt ktg => pre16 tgt (by
            show Steps p.tables e below (s₁.setTop (mkF m 28 #[.val (.int k)] [(.int (3 : Int32)), (.int k)])) _
            refine XS.icmpYes X0.here hx rfl (pc0 := 28) (pc' := 35) rfl (hb hby d2_28) rfl (feq c17).2 (by decide) (by decide) ?_
            exact ktg)
          have pre21 : Rch p.tables e below (s₁.setTop (entryFrame m #[(.int k)] 1)) (s₁.setTop (mkF m 37 #[.val (.int k)] [(.int (4 : Int32)), (.int k)])) := fun tgt ktg => pre20 tgt (by
            show Steps p.tables e below (s₁.setTop (mkF m 35 #[.val (.int k)] [])) _
            refine XS.iloadN X0.here hx rfl (hb hby d2_35) rfl ?_
            show Steps p.tables e below (s₁.setTop (mkF m 36 #[.val (.int k)] [(.int k)])) _
            refine XS.iconst X0.here hx rfl (hb hby d2_36) ?_
            exact ktg)
          by_cases c22 : k = (4 : Int32)
          · skip
            have pre23 : Rch p.tables e below (s₁.setTop (entryFrame m #[(.int k)] 1)) (s₁.setTop (mkF m 40 #[.val (.int k)] [])) := fun tgt ktg => pre21 tgt (by
              show Steps p.tables e below (s₁.setTop (mkF m 37 #[.val (.int k)] [(.int (4 : Int32)), (.int k)])) _
              refine XS.icmpNo X0.here hx rfl (hb hby d2_37) rfl (teq c22).2 ?_
              exact ktg)
            obtain ⟨T24, X24, e24, st24⟩ := getS2 X0 hx hZ hown (host := "") (Or.inl (hw _ (List.mem_of_getElem? (i := 27) rfl))) Via.refl e0 S4 (g := (mkF m 40 #[.val (.int k)] [])) rfl (hb hby d2_40)
            have pre24 : Rch p.tables e below (s₁.setTop (entryFrame m #[(.int k)] 1)) (T24.setTop (mkF m 43 #[.val (.int k)] [(.ref (W 4))])) := fun tgt ktg => pre23 tgt (st24 tgt ktg)
            obtain ⟨fs, hr, hrun, hended, hW, hsame⟩ := X24.leave (v := some (.ref (W 4))) (fun h => by rw [Bd.returns] at h; cases h)
            refine ⟨_, _, pre24 _ ?_, hrun, hended, _, _, rfl, ?_, ⟨_, rfl⟩, hW, hsame.mono (by decide) (by decide)⟩
            · show Steps p.tables e below (T24.setTop (mkF m 43 #[.val (.int k)] [(.ref (W 4))])) _
              jvm_step X24.here [X24.here.top, hx, (hb hby d2_43), X24.method', Bd.returns, Value.isRef, FieldType.isReference]
              first | (intro acts; rw [hr _ acts rfl rfl rfl]) | rw [hr _ _ rfl rfl rfl]
              exact Steps.refl _
            · show Q2 Z k W h0 n0 _ T24.heap _
              rw [e24]
              exact ⟨by simp [cl, c2, c7, c12, c17, c22], N0, rfl⟩
          · skip
            have pre25 : Rch p.tables e below (s₁.setTop (entryFrame m #[(.int k)] 1)) (s₁.setTop (mkF m 44 #[.val (.int k)] [])) := fun tgt ktg => pre21 tgt (by
              show Steps p.tables e below (s₁.setTop (mkF m 37 #[.val (.int k)] [(.int (4 : Int32)), (.int k)])) _
              refine XS.icmpYes X0.here hx rfl (pc0 := 37) (pc' := 44) rfl (hb hby d2_37) rfl (feq c22).2 (by decide) (by decide) ?_
              exact ktg)
            have pre26 : Rch p.tables e below (s₁.setTop (entryFrame m #[(.int k)] 1)) (s₁.setTop (mkF m 46 #[.val (.int k)] [(.int (5 : Int32)), (.int k)])) := fun tgt ktg => pre25 tgt (by
              show Steps p.tables e below (s₁.setTop (mkF m 44 #[.val (.int k)] [])) _
              refine XS.iloadN X0.here hx rfl (hb hby d2_44) rfl ?_
              show Steps p.tables e below (s₁.setTop (mkF m 45 #[.val (.int k)] [(.int k)])) _
              refine XS.iconst X0.here hx rfl (hb hby d2_45) ?_
              exact ktg)
            by_cases c27 : k = (5 : Int32)
            · skip
              have pre28 : Rch p.tables e below (s₁.setTop (entryFrame m #[(.int k)] 1)) (s₁.setTop (mkF m 49 #[.val (.int k)] [])) := fun tgt ktg => pre26 tgt (by
                show Steps p.tables e below (s₁.setTop (mkF m 46 #[.val (.int k)] [(.int (5 : Int32)), (.int k)])) _
                refine XS.icmpNo X0.here hx rfl (hb hby d2_46) rfl (teq c27).2 ?_
                exact ktg)
              obtain ⟨T29, X29, e29, st29⟩ := getS2 X0 hx hZ hown (host := "") (Or.inl (hw _ (List.mem_of_getElem? (i := 37) rfl))) Via.refl e0 S5 (g := (mkF m 49 #[.val (.int k)] [])) rfl (hb hby d2_49)
              have pre29 : Rch p.tables e below (s₁.setTop (entryFrame m #[(.int k)] 1)) (T29.setTop (mkF m 52 #[.val (.int k)] [(.ref (W 5))])) := fun tgt ktg => pre28 tgt (st29 tgt ktg)
              obtain ⟨fs, hr, hrun, hended, hW, hsame⟩ := X29.leave (v := some (.ref (W 5))) (fun h => by rw [Bd.returns] at h; cases h)
              refine ⟨_, _, pre29 _ ?_, hrun, hended, _, _, rfl, ?_, ⟨_, rfl⟩, hW, hsame.mono (by decide) (by decide)⟩
              · show Steps p.tables e below (T29.setTop (mkF m 52 #[.val (.int k)] [(.ref (W 5))])) _
                jvm_step X29.here [X29.here.top, hx, (hb hby d2_52), X29.method', Bd.returns, Value.isRef, FieldType.isReference]
                first | (intro acts; rw [hr _ acts rfl rfl rfl]) | rw [hr _ _ rfl rfl rfl]
                exact Steps.refl _
              · show Q2 Z k W h0 n0 _ T29.heap _
                rw [e29]
                exact ⟨by simp [cl, c2, c7, c12, c17, c22, c27], N0, rfl⟩
            · skip
              have pre30 : Rch p.tables e below (s₁.setTop (entryFrame m #[(.int k)] 1)) (s₁.setTop (mkF m 53 #[.val (.int k)] [])) := fun tgt ktg => pre26 tgt (by
                show Steps p.tables e below (s₁.setTop (mkF m 46 #[.val (.int k)] [(.int (5 : Int32)), (.int k)])) _
                refine XS.icmpYes X0.here hx rfl (pc0 := 46) (pc' := 53) rfl (hb hby d2_46) rfl (feq c27).2 (by decide) (by decide) ?_
                exact ktg)
              have pre31 : Rch p.tables e below (s₁.setTop (entryFrame m #[(.int k)] 1)) (s₁.setTop (mkF m 56 #[.val (.int k)] [(.int (6 : Int32)), (.int k)])) := fun tgt ktg => pre30 tgt (by
                show Steps p.tables e below (s₁.setTop (mkF m 53 #[.val (.int k)] [])) _
                refine XS.iloadN X0.here hx rfl (hb hby d2_53) rfl ?_
                show Steps p.tables e below (s₁.setTop (mkF m 54 #[.val (.int k)] [(.int k)])) _
                refine XS.bipush X0.here hx rfl (hb hby d2_54) ?_
                exact ktg)
              by_cases c32 : k = (6 : Int32)
              · skip
                have pre33 : Rch p.tables e below (s₁.setTop (entryFrame m #[(.int k)] 1)) (s₁.setTop (mkF m 59 #[.val (.int k)] [])) := fun tgt ktg => pre31 tgt (by
                  show Steps p.tables e below (s₁.setTop (mkF m 56 #[.val (.int k)] [(.int (6 : Int32)), (.int k)])) _
                  refine XS.icmpNo X0.here hx rfl (hb hby d2_56) rfl (teq c32).2 ?_
                  exact ktg)
                obtain ⟨T34, X34, e34, st34⟩ := getS2 X0 hx hZ hown (host := "") (Or.inl (hw _ (List.mem_of_getElem? (i := 39) rfl))) Via.refl e0 S6 (g := (mkF m 59 #[.val (.int k)] [])) rfl (hb hby d2_59)
                have pre34 : Rch p.tables e below (s₁.setTop (entryFrame m #[(.int k)] 1)) (T34.setTop (mkF m 62 #[.val (.int k)] [(.ref (W 6))])) := fun tgt ktg => pre33 tgt (st34 tgt ktg)
                obtain ⟨fs, hr, hrun, hended, hW, hsame⟩ := X34.leave (v := some (.ref (W 6))) (fun h => by rw [Bd.returns] at h; cases h)
                refine ⟨_, _, pre34 _ ?_, hrun, hended, _, _, rfl, ?_, ⟨_, rfl⟩, hW, hsame.mono (by decide) (by decide)⟩
                · show Steps p.tables e below (T34.setTop (mkF m 62 #[.val (.int k)] [(.ref (W 6))])) _
                  jvm_step X34.here [X34.here.top, hx, (hb hby d2_62), X34.method', Bd.returns, Value.isRef, FieldType.isReference]
                  first | (intro acts; rw [hr _ acts rfl rfl rfl]) | rw [hr _ _ rfl rfl rfl]
                  exact Steps.refl _
                · show Q2 Z k W h0 n0 _ T34.heap _
                  rw [e34]
                  exact ⟨by simp [cl, c2, c7, c12, c17, c22, c27, c32], N0, rfl⟩
              · skip
                have pre35 : Rch p.tables e below (s₁.setTop (entryFrame m #[(.int k)] 1)) (s₁.setTop (mkF m 63 #[.val (.int k)] [])) := fun tgt ktg => pre31 tgt (by
                  show Steps p.tables e below (s₁.setTop (mkF m 56 #[.val (.int k)] [(.int (6 : Int32)), (.int k)])) _
                  refine XS.icmpYes X0.here hx rfl (pc0 := 56) (pc' := 63) rfl (hb hby d2_56) rfl (feq c32).2 (by decide) (by decide) ?_
                  exact ktg)
                obtain ⟨T36, X36, e36, st36⟩ := getS2 X0 hx hZ hown (host := "") (Or.inl (hw _ (List.mem_of_getElem? (i := 29) rfl))) Via.refl e0 S7 (g := (mkF m 63 #[.val (.int k)] [])) rfl (hb hby d2_63)
                have pre36 : Rch p.tables e below (s₁.setTop (entryFrame m #[(.int k)] 1)) (T36.setTop (mkF m 66 #[.val (.int k)] [(.ref (W 7))])) := fun tgt ktg => pre35 tgt (st36 tgt ktg)
                obtain ⟨fs, hr, hrun, hended, hW, hsame⟩ := X36.leave (v := some (.ref (W 7))) (fun h => by rw [Bd.returns] at h; cases h)
                refine ⟨_, _, pre36 _ ?_, hrun, hended, _, _, rfl, ?_, ⟨_, rfl⟩, hW, hsame.mono (by decide) (by decide)⟩
                · show Steps p.tables e below (T36.setTop (mkF m 66 #[.val (.int k)] [(.ref (W 7))])) _
                  jvm_step X36.here [X36.here.top, hx, (hb hby d2_66), X36.method', Bd.returns, Value.isRef, FieldType.isReference]
                  first | (intro acts; rw [hr _ acts rfl rfl rfl]) | rw [hr _ _ rfl rfl rfl]
                  exact Steps.refl _
                · show Q2 Z k W h0 n0 _ T36.heap _
                  rw [e36]
                  exact ⟨by simp [cl, c2, c7, c12, c17, c22, c27, c32], N0, rfl⟩
theorem d4_0 : decode prog_6_method_7_code 0 = .ok (.aload_n 0, 1) := by decide +kernel
theorem d4_1 : decode prog_6_method_7_code 1 = .ok (.getfield 57, 3) := by decide +kernel
theorem d4_4 : decode prog_6_method_7_code 4 = .ok (.ireturn, 1) := by decide +kernel
theorem pn_1 : plainName "com/example/error_envelope/errorenvelope/ErrorCode" = true := by first | (simp [plainName, overriddenIn]; done) | decide +kernel
theorem ef_4 (m : MethodId) (x0 : Addr) : entryFrame m #[(.ref x0)] 1 = mkF m 0 #[.val (.ref x0)] [] := by first | (simp [entryFrame, mkF, argsToLocals, Value.category]; done) | rfl
def Q4 (Z : State) (a : Addr) (st : Int32) (h0 : Heap) (n0 : Nat) (v : Option Value) (h : Heap) (L : List Loc) : Prop := v = some (.int st) ∧ Fr n0 L ∧ h = h0
set_option maxRecDepth 65536 in
set_option maxHeartbeats 40000000 in
theorem rm4 (l : Launch) (Z : State) (a0 : Array Value) (hw : ∀ d ∈ tables_1, d.before a0 Z = true) (ws : List Jvm.Cond) (a : Addr) (st : Int32) (h0 : Heap) (n0 : Nat) (Z0 : n0 ≤ h0.size) (F1 : Fld Z h0 a "com/example/error_envelope/errorenvelope/ErrorCode" "status" "I" (.int st)) :
    MetFree l (⟨"com/example/error_envelope/errorenvelope/ErrorCode", "status", "()I"⟩ : MethodName) (head1 (Jvm.Cond.code (⟨"com/example/error_envelope/errorenvelope/ErrorCode", "status", "()I"⟩ : MethodName) prog_6_method_7_code 1 (some .int) :: ws) ({ frames := 0, cells := 0, slots := 0, locals := 0 } : Room)) (fun aA U => aA = #[(.ref a)] ∧ Z.Warmed39 U.vm ∧ U.heap = h0) (fun _ _ _ _ _ => True) (fun _ U oO U' => ∃ vV LL, oO = .returned vV ∧ Q4 Z a st h0 n0 vV U'.heap LL ∧ FrameEnd U oO U' LL ({ frames := 0, cells := 0, slots := 0, locals := 0 } : Room).cells ({ frames := 0, cells := 0, slots := 0, locals := 0 } : Room).slots) := by
  refine MetFree.of_bodySF (plainFor_of_name pn_1) hisR ?_
  intro p e s m args below meth c s₁ Bd hml0 hP hK
  obtain ⟨rfl, hZ, hh⟩ := hP
  have hx := Bd.exec
  have hby := Bd.bytes
  have hml : c.maxLocals = 1 := hml0
  have hown : s.vm.findClass "com/example/error_envelope/errorenvelope/ErrorCode" = some m.cls := findClass_of_methodNamed Bd.named
  have hnm := (name_of_methodNamed Bd.named Bd.method).1
  have X0 : Stand p l e ({ frames := 0, cells := 0, slots := 0, locals := 0 } : Room) s m #[(.ref a)] below meth c s₁ [] 0 0 := Stand.of_body Bd
  have e0 : s₁.heap = h0 := by rw [← hh, Bd.state]; rfl
  have N0 := Fr.nil n0
  have K0 : Keep h0 h0 [] := Keep.refl _ _
  have pre0 : Rch p.tables e below (s₁.setTop (entryFrame m #[(.ref a)] 1)) (s₁.setTop (mkF m 0 #[.val (.ref a)] [])) := fun tgt ktg => castTop (ef_4 m a) ktg
  have pre1 : Rch p.tables e below (s₁.setTop (entryFrame m #[(.ref a)] 1)) (s₁.setTop (mkF m 1 #[.val (.ref a)] [(.ref a)])) := fun tgt ktg => pre0 tgt (by
    show Steps p.tables e below (s₁.setTop (mkF m 0 #[.val (.ref a)] [])) _
    refine XS.aloadN X0.here hx rfl (hb hby d4_0) rfl rfl ?_
    exact ktg)
  obtain ⟨T2, X2, e2, st2⟩ := getF X0 hx hZ hown (host := "") (Or.inl (hw _ (List.mem_of_getElem? (i := 25) rfl))) Via.refl e0 F1 (g := (mkF m 1 #[.val (.ref a)] [(.ref a)])) rfl rfl (hb hby d4_1)
  have pre2 : Rch p.tables e below (s₁.setTop (entryFrame m #[(.ref a)] 1)) (T2.setTop (mkF m 4 #[.val (.ref a)] [(.int st)])) := fun tgt ktg => pre1 tgt (st2 tgt ktg)
  obtain ⟨fs, hr, hrun, hended, hW, hsame⟩ := X2.leave (v := some (.int st)) (fun h => by rw [Bd.returns] at h; cases h)
  refine ⟨_, _, pre2 _ ?_, hrun, hended, _, _, rfl, ?_, ⟨_, rfl⟩, hW, hsame.mono (by decide) (by decide)⟩
  · show Steps p.tables e below (T2.setTop (mkF m 4 #[.val (.ref a)] [(.int st)])) _
    exact retI X2 hx Bd.returns (hb hby d4_4) hr
  · show Q4 Z a st h0 n0 _ T2.heap _
    rw [e2]
    exact ⟨rfl, N0, rfl⟩
theorem d3_0 : decode prog_2_method_5_code 0 = .ok (.aload_n 0, 1) := by decide +kernel
theorem d3_1 : decode prog_2_method_5_code 1 = .ok (.getfield 56, 3) := by decide +kernel
theorem d3_4 : decode prog_2_method_5_code 4 = .ok (.ifCond .eq 18, 3) := by decide +kernel
theorem d3_7 : decode prog_2_method_5_code 7 = .ok (.aload_n 0, 1) := by decide +kernel
theorem d3_8 : decode prog_2_method_5_code 8 = .ok (.getfield 52, 3) := by decide +kernel
theorem d3_11 : decode prog_2_method_5_code 11 = .ok (.invokevirtual 60, 3) := by decide +kernel
theorem pd_0 : parseMethodDescriptor "()I" = some ⟨[], some .int⟩ := by decide +kernel
theorem d3_14 : decode prog_2_method_5_code 14 = .ok (.iload_n 1, 1) := by decide +kernel
theorem d3_15 : decode prog_2_method_5_code 15 = .ok (.if_icmp .ne 7, 3) := by decide +kernel
theorem d3_18 : decode prog_2_method_5_code 18 = .ok (.iconst 1, 1) := by decide +kernel
theorem d3_19 : decode prog_2_method_5_code 19 = .ok (.goto 4, 3) := by decide +kernel
theorem d3_23 : decode prog_2_method_5_code 23 = .ok (.ireturn, 1) := by decide +kernel
theorem d3_22 : decode prog_2_method_5_code 22 = .ok (.iconst 0, 1) := by decide +kernel
theorem pn_2 : plainName "com/example/error_envelope/errorenvelope/BuiltInCode" = true := by first | (simp [plainName, overriddenIn]; done) | decide +kernel
theorem ef_F1 (m : MethodId) (x0 : Addr) (x1 : Int32) : entryFrame m #[(.ref x0), (.int x1)] 2 = mkF m 0 #[.val (.ref x0), .val (.int x1)] [] := by first | (simp [entryFrame, mkF, argsToLocals, Value.category]; done) | rfl
def QF1 (Z : State) (a : Addr) (q : Int32) (dd : Addr) (st : Int32) (h0 : Heap) (n0 : Nat) (v : Option Value) (h : Heap) (L : List Loc) : Prop := v = some (.int (if st = q then 1 else 0)) ∧ Fr n0 L ∧ h = h0
set_option maxRecDepth 65536 in
set_option maxHeartbeats 40000000 in
theorem rmF1 (l : Launch) (Z : State) (a0 : Array Value) (hw : ∀ d ∈ tables_1, d.before a0 Z = true) (ws : List Jvm.Cond) (a : Addr) (q : Int32) (dd : Addr) (st : Int32) (h0 : Heap) (n0 : Nat) (Z0 : n0 ≤ h0.size) (F1 : Fld Z h0 a "com/example/error_envelope/errorenvelope/BuiltInCode" "standsForStatus" "Z" (.int 1)) (F2 : Fld Z h0 a "com/example/error_envelope/errorenvelope/BuiltInCode" "defaultEntry" "Lcom/example/error_envelope/errorenvelope/ErrorCode;" (.ref dd)) (E2 : Exa Z h0 dd "com/example/error_envelope/errorenvelope/ErrorCode") (F3 : Fld Z h0 dd "com/example/error_envelope/errorenvelope/ErrorCode" "status" "I" (.int st)) :
    MetFree l (⟨"com/example/error_envelope/errorenvelope/BuiltInCode", "standsFor", "(I)Z"⟩ : MethodName) (head1 (Jvm.Cond.code (⟨"com/example/error_envelope/errorenvelope/BuiltInCode", "standsFor", "(I)Z"⟩ : MethodName) prog_2_method_5_code 2 (some .boolean) :: ws) ({ frames := 1, cells := 0, slots := 0, locals := 12 } : Room)) (fun aA U => aA = #[(.ref a), (.int q)] ∧ Z.Warmed39 U.vm ∧ U.heap = h0) (fun _ _ _ _ _ => True) (fun _ U oO U' => ∃ vV LL, oO = .returned vV ∧ QF1 Z a q dd st h0 n0 vV U'.heap LL ∧ FrameEnd U oO U' LL ({ frames := 1, cells := 0, slots := 0, locals := 12 } : Room).cells ({ frames := 1, cells := 0, slots := 0, locals := 12 } : Room).slots) := by
  refine MetFree.of_bodySF (plainFor_of_name pn_2) hisR ?_
  intro p e s m args below meth c s₁ Bd hml0 hP hK
  obtain ⟨rfl, hZ, hh⟩ := hP
  have hx := Bd.exec
  have hby := Bd.bytes
  have hml : c.maxLocals = 2 := hml0
  have hown : s.vm.findClass "com/example/error_envelope/errorenvelope/BuiltInCode" = some m.cls := findClass_of_methodNamed Bd.named
  have hnm := (name_of_methodNamed Bd.named Bd.method).1
  have X0 : Stand p l e ({ frames := 1, cells := 0, slots := 0, locals := 12 } : Room) s m #[(.ref a), (.int q)] below meth c s₁ [] 0 0 := Stand.of_body Bd
  have e0 : s₁.heap = h0 := by rw [← hh, Bd.state]; rfl
  have N0 := Fr.nil n0
  have K0 : Keep h0 h0 [] := Keep.refl _ _
  have pre0 : Rch p.tables e below (s₁.setTop (entryFrame m #[(.ref a), (.int q)] 2)) (s₁.setTop (mkF m 0 #[.val (.ref a), .val (.int q)] [])) := fun tgt ktg => castTop (ef_F1 m a q) ktg
  have pre1 : Rch p.tables e below (s₁.setTop (entryFrame m #[(.ref a), (.int q)] 2)) (s₁.setTop (mkF m 1 #[.val (.ref a), .val (.int q)] [(.ref a)])) := fun tgt ktg => pre0 tgt (by
    show Steps p.tables e below (s₁.setTop (mkF m 0 #[.val (.ref a), .val (.int q)] [])) _
    refine XS.aloadN X0.here hx rfl (hb hby d3_0) rfl rfl ?_
    exact ktg)
  obtain ⟨T2, X2, e2, st2⟩ := getF X0 hx hZ hown (host := "") (Or.inl (hw _ (List.mem_of_getElem? (i := 15) rfl))) Via.refl e0 F1 (g := (mkF m 1 #[.val (.ref a), .val (.int q)] [(.ref a)])) rfl rfl (hb hby d3_1)
  have pre2 : Rch p.tables e below (s₁.setTop (entryFrame m #[(.ref a), (.int q)] 2)) (T2.setTop (mkF m 4 #[.val (.ref a), .val (.int q)] [(.int (1 : Int32))])) := fun tgt ktg => pre1 tgt (st2 tgt ktg)
  have pre3 : Rch p.tables e below (s₁.setTop (entryFrame m #[(.ref a), (.int q)] 2)) (T2.setTop (mkF m 8 #[.val (.ref a), .val (.int q)] [(.ref a)])) := fun tgt ktg => pre2 tgt (by
    show Steps p.tables e below (T2.setTop (mkF m 4 #[.val (.ref a), .val (.int q)] [(.int (1 : Int32))])) _
    refine XS.ifNo X2.here hx rfl (hb hby d3_4) rfl ((if0 _ _).trans (feq (by decide : ¬ ((1 : Int32) = (0 : Int32)))).1) ?_
    show Steps p.tables e below (T2.setTop (mkF m 7 #[.val (.ref a), .val (.int q)] [])) _
    refine XS.aloadN X2.here hx rfl (hb hby d3_7) rfl rfl ?_
    exact ktg)
  obtain ⟨T4, X4, e4, st4⟩ := getF X2 hx hZ hown (host := "") (Or.inl (hw _ (List.mem_of_getElem? (i := 17) rfl))) Via.refl e2 F2 (g := (mkF m 8 #[.val (.ref a), .val (.int q)] [(.ref a)])) rfl rfl (hb hby d3_8)
  have pre4 : Rch p.tables e below (s₁.setTop (entryFrame m #[(.ref a), (.int q)] 2)) (T4.setTop (mkF m 11 #[.val (.ref a), .val (.int q)] [(.ref dd)])) := fun tgt ktg => pre3 tgt (st4 tgt ktg)
  obtain ⟨cq5, kq5, q5a, q5b, q5c⟩ := isOf hZ e4 E2
  obtain ⟨_, _, ⟨T5, L5, k5, n5⟩, -, X5, ⟨Lc5, hQ5, l5, y5, z5⟩, st5⟩ := X4.virtualBack hx (y := (⟨"com/example/error_envelope/errorenvelope/ErrorCode", "status", "()I"⟩ : MethodName)) (z := (⟨"com/example/error_envelope/errorenvelope/ErrorCode", "status", "()I"⟩ : MethodName)) hown (mvT hZ (hw _ (List.mem_of_getElem? (i := 19) rfl))) (mvT hZ (hw _ (List.mem_of_getElem? (i := 20) rfl))) (notFace_of_selects (args := #[]) (mvT hZ (hw _ (List.mem_of_getElem? (i := 22) rfl)))) (mvT hZ (hw _ (List.mem_of_getElem? (i := 22) rfl))) (mvT hZ (hw _ (List.mem_of_getElem? (i := 21) rfl))) (by decide) (backOf (W := 0) (rm4 l Z a0 hw [] dd st h0 n0 Z0 F3) hZ (hw _ (List.mem_of_getElem? (i := 24) rfl)) (hw _ (List.mem_of_getElem? (i := 23) rfl)) (by decide) (by decide)) q5a q5c (g := (mkF m 11 #[.val (.ref a), .val (.int q)] [(.ref dd)])) rfl (by rw [hml]; rfl) (Steps.refl _) (argsL := []) (rest := []) (lenOf pd_0 rfl) rfl (by show 2 * 0 + _ ≤ _; exact Nat.le_of_eq rfl) (hb hby d3_11) (fun _ _ => ⟨rfl, e4, (by decide : 0 + 0 ≤ _), (by decide : 0 + 0 ≤ _)⟩)
  dsimp only [Pt.U, Pt.locs, Pt.cells, Pt.slots] at X5 l5 y5 z5 st5 hQ5
  subst l5 y5 z5
  obtain ⟨rfl, Nq5, eh5⟩ := hQ5
  have N6 := Fr.app N0 Nq5
  have pre5 : Rch p.tables e below (s₁.setTop (entryFrame m #[(.ref a), (.int q)] 2)) (T5.setTop (mkF m 14 #[.val (.ref a), .val (.int q)] [(.int st)])) := fun tgt ktg => pre4 tgt (st5.trans ktg)
  have pre7 : Rch p.tables e below (s₁.setTop (entryFrame m #[(.ref a), (.int q)] 2)) (T5.setTop (mkF m 15 #[.val (.ref a), .val (.int q)] [(.int q), (.int st)])) := fun tgt ktg => pre5 tgt (by
    show Steps p.tables e below (T5.setTop (mkF m 14 #[.val (.ref a), .val (.int q)] [(.int st)])) _
    refine XS.iloadN X5.here hx rfl (hb hby d3_14) rfl ?_
    exact ktg)
  by_cases c8 : st = q
  · skip
    have pre9 : Rch p.tables e below (s₁.setTop (entryFrame m #[(.ref a), (.int q)] 2)) (T5.setTop (mkF m 18 #[.val (.ref a), .val (.int q)] [])) := fun tgt ktg => pre7 tgt (by
      show Steps p.tables e below (T5.setTop (mkF m 15 #[.val (.ref a), .val (.int q)] [(.int q), (.int st)])) _
      refine XS.icmpNo X5.here hx rfl (hb hby d3_15) rfl (teq c8).2 ?_
      exact ktg)
    have pre10 : Rch p.tables e below (s₁.setTop (entryFrame m #[(.ref a), (.int q)] 2)) (T5.setTop (mkF m 23 #[.val (.ref a), .val (.int q)] [(.int (1 : Int32))])) := fun tgt ktg => pre9 tgt (by
      show Steps p.tables e below (T5.setTop (mkF m 18 #[.val (.ref a), .val (.int q)] [])) _
      refine XS.iconst X5.here hx rfl (hb hby d3_18) ?_
      show Steps p.tables e below (T5.setTop (mkF m 19 #[.val (.ref a), .val (.int q)] [(.int (1 : Int32))])) _
      refine XS.goto X5.here hx rfl (pc0 := 19) (pc' := 23) rfl (hb hby d3_19) (by decide) (by decide) ?_
      exact ktg)
    obtain ⟨fs, hr, hrun, hended, hW, hsame⟩ := X5.leave (v := some (.int (1 : Int32))) (fun h => by rw [Bd.returns] at h; cases h)
    refine ⟨_, _, pre10 _ ?_, hrun, hended, _, _, rfl, ?_, ⟨_, rfl⟩, hW, hsame.mono (by decide) (by decide)⟩
    · show Steps p.tables e below (T5.setTop (mkF m 23 #[.val (.ref a), .val (.int q)] [(.int (1 : Int32))])) _
      exact retN X5 hx (t := .boolean) Bd.returns (by simp) (hb hby d3_23) hr
    · show QF1 Z a q dd st h0 n0 _ T5.heap _
      rw [eh5]
      exact ⟨by simp [c8], N6, rfl⟩
  · skip
    have pre11 : Rch p.tables e below (s₁.setTop (entryFrame m #[(.ref a), (.int q)] 2)) (T5.setTop (mkF m 22 #[.val (.ref a), .val (.int q)] [])) := fun tgt ktg => pre7 tgt (by
      show Steps p.tables e below (T5.setTop (mkF m 15 #[.val (.ref a), .val (.int q)] [(.int q), (.int st)])) _
      refine XS.icmpYes X5.here hx rfl (pc0 := 15) (pc' := 22) rfl (hb hby d3_15) rfl (feq c8).2 (by decide) (by decide) ?_
      exact ktg)
    have pre12 : Rch p.tables e below (s₁.setTop (entryFrame m #[(.ref a), (.int q)] 2)) (T5.setTop (mkF m 23 #[.val (.ref a), .val (.int q)] [(.int (0 : Int32))])) := fun tgt ktg => pre11 tgt (by
      show Steps p.tables e below (T5.setTop (mkF m 22 #[.val (.ref a), .val (.int q)] [])) _
      refine XS.iconst X5.here hx rfl (hb hby d3_22) ?_
      exact ktg)
    obtain ⟨fs, hr, hrun, hended, hW, hsame⟩ := X5.leave (v := some (.int (0 : Int32))) (fun h => by rw [Bd.returns] at h; cases h)
    refine ⟨_, _, pre12 _ ?_, hrun, hended, _, _, rfl, ?_, ⟨_, rfl⟩, hW, hsame.mono (by decide) (by decide)⟩
    · show Steps p.tables e below (T5.setTop (mkF m 23 #[.val (.ref a), .val (.int q)] [(.int (0 : Int32))])) _
      exact retN X5 hx (t := .boolean) Bd.returns (by simp) (hb hby d3_23) hr
    · show QF1 Z a q dd st h0 n0 _ T5.heap _
      rw [eh5]
      exact ⟨by simp [c8], N6, rfl⟩
theorem ef_F0 (m : MethodId) (x0 : Addr) (x1 : Int32) : entryFrame m #[(.ref x0), (.int x1)] 2 = mkF m 0 #[.val (.ref x0), .val (.int x1)] [] := by first | (simp [entryFrame, mkF, argsToLocals, Value.category]; done) | rfl
def QF0 (Z : State) (a : Addr) (q : Int32) (h0 : Heap) (n0 : Nat) (v : Option Value) (h : Heap) (L : List Loc) : Prop := v = some (.int 0) ∧ Fr n0 L ∧ h = h0
set_option maxRecDepth 65536 in
set_option maxHeartbeats 40000000 in
theorem rmF0 (l : Launch) (Z : State) (a0 : Array Value) (hw : ∀ d ∈ tables_1, d.before a0 Z = true) (ws : List Jvm.Cond) (a : Addr) (q : Int32) (h0 : Heap) (n0 : Nat) (Z0 : n0 ≤ h0.size) (F1 : Fld Z h0 a "com/example/error_envelope/errorenvelope/BuiltInCode" "standsForStatus" "Z" (.int 0)) :
    MetFree l (⟨"com/example/error_envelope/errorenvelope/BuiltInCode", "standsFor", "(I)Z"⟩ : MethodName) (head1 (Jvm.Cond.code (⟨"com/example/error_envelope/errorenvelope/BuiltInCode", "standsFor", "(I)Z"⟩ : MethodName) prog_2_method_5_code 2 (some .boolean) :: ws) ({ frames := 0, cells := 0, slots := 0, locals := 0 } : Room)) (fun aA U => aA = #[(.ref a), (.int q)] ∧ Z.Warmed39 U.vm ∧ U.heap = h0) (fun _ _ _ _ _ => True) (fun _ U oO U' => ∃ vV LL, oO = .returned vV ∧ QF0 Z a q h0 n0 vV U'.heap LL ∧ FrameEnd U oO U' LL ({ frames := 0, cells := 0, slots := 0, locals := 0 } : Room).cells ({ frames := 0, cells := 0, slots := 0, locals := 0 } : Room).slots) := by
  refine MetFree.of_bodySF (plainFor_of_name pn_2) hisR ?_
  intro p e s m args below meth c s₁ Bd hml0 hP hK
  obtain ⟨rfl, hZ, hh⟩ := hP
  have hx := Bd.exec
  have hby := Bd.bytes
  have hml : c.maxLocals = 2 := hml0
  have hown : s.vm.findClass "com/example/error_envelope/errorenvelope/BuiltInCode" = some m.cls := findClass_of_methodNamed Bd.named
  have hnm := (name_of_methodNamed Bd.named Bd.method).1
  have X0 : Stand p l e ({ frames := 0, cells := 0, slots := 0, locals := 0 } : Room) s m #[(.ref a), (.int q)] below meth c s₁ [] 0 0 := Stand.of_body Bd
  have e0 : s₁.heap = h0 := by rw [← hh, Bd.state]; rfl
  have N0 := Fr.nil n0
  have K0 : Keep h0 h0 [] := Keep.refl _ _
  have pre0 : Rch p.tables e below (s₁.setTop (entryFrame m #[(.ref a), (.int q)] 2)) (s₁.setTop (mkF m 0 #[.val (.ref a), .val (.int q)] [])) := fun tgt ktg => castTop (ef_F0 m a q) ktg
  have pre1 : Rch p.tables e below (s₁.setTop (entryFrame m #[(.ref a), (.int q)] 2)) (s₁.setTop (mkF m 1 #[.val (.ref a), .val (.int q)] [(.ref a)])) := fun tgt ktg => pre0 tgt (by
    show Steps p.tables e below (s₁.setTop (mkF m 0 #[.val (.ref a), .val (.int q)] [])) _
    refine XS.aloadN X0.here hx rfl (hb hby d3_0) rfl rfl ?_
    exact ktg)
  obtain ⟨T2, X2, e2, st2⟩ := getF X0 hx hZ hown (host := "") (Or.inl (hw _ (List.mem_of_getElem? (i := 15) rfl))) Via.refl e0 F1 (g := (mkF m 1 #[.val (.ref a), .val (.int q)] [(.ref a)])) rfl rfl (hb hby d3_1)
  have pre2 : Rch p.tables e below (s₁.setTop (entryFrame m #[(.ref a), (.int q)] 2)) (T2.setTop (mkF m 4 #[.val (.ref a), .val (.int q)] [(.int (0 : Int32))])) := fun tgt ktg => pre1 tgt (st2 tgt ktg)
  have pre3 : Rch p.tables e below (s₁.setTop (entryFrame m #[(.ref a), (.int q)] 2)) (T2.setTop (mkF m 23 #[.val (.ref a), .val (.int q)] [(.int (0 : Int32))])) := fun tgt ktg => pre2 tgt (by
    show Steps p.tables e below (T2.setTop (mkF m 4 #[.val (.ref a), .val (.int q)] [(.int (0 : Int32))])) _
    refine XS.ifYes X2.here hx rfl (pc0 := 4) (pc' := 22) rfl (hb hby d3_4) rfl ((if0 _ _).trans (teq (rfl : (0 : Int32) = (0 : Int32))).1) (by decide) (by decide) ?_
    show Steps p.tables e below (T2.setTop (mkF m 22 #[.val (.ref a), .val (.int q)] [])) _
    refine XS.iconst X2.here hx rfl (hb hby d3_22) ?_
    exact ktg)
  obtain ⟨fs, hr, hrun, hended, hW, hsame⟩ := X2.leave (v := some (.int (0 : Int32))) (fun h => by rw [Bd.returns] at h; cases h)
  refine ⟨_, _, pre3 _ ?_, hrun, hended, _, _, rfl, ?_, ⟨_, rfl⟩, hW, hsame.mono (by decide) (by decide)⟩
  · show Steps p.tables e below (T2.setTop (mkF m 23 #[.val (.ref a), .val (.int q)] [(.int (0 : Int32))])) _
    exact retN X2 hx (t := .boolean) Bd.returns (by simp) (hb hby d3_23) hr
  · show QF0 Z a q h0 n0 _ T2.heap _
    rw [e2]
    exact ⟨rfl, N0, rfl⟩
theorem pd_1 : parseMethodDescriptor "(I)Lcom/example/error_envelope/errorenvelope/BuiltInCode;" = some ⟨[.int], some (.object "com/example/error_envelope/errorenvelope/BuiltInCode")⟩ := by decide +kernel
theorem pd_2 : parseMethodDescriptor "(I)Z" = some ⟨[.int], some .boolean⟩ := by decide +kernel
theorem pd_3 : parseMethodDescriptor "(I)I" = some ⟨[.int], some .int⟩ := by decide +kernel
theorem ef_0 (m : MethodId) (x0 : Int32) (x1 : Int32) (x2 : Int32) (x3 : Int32) : entryFrame m #[(.int x0), (.int x1), (.int x2), (.int x3)] maxLocals = mkF m 0 #[.val (.int x0), .val (.int x1), .val (.int x2), .val (.int x3), .unset, .unset, .unset, .unset] [] := by first | (simp [entryFrame, mkF, argsToLocals, Value.category, maxLocals]; done) | rfl
def Q0 (Z : State) (p0 : Int32) (p1 : Int32) (p2 : Int32) (p3 : Int32) (h0 : Heap) (n0 : Nat) (v : Option Value) (h : Heap) (L : List Loc) : Prop := v = some (.int 1) ∧ Fr n0 L
set_option maxRecDepth 65536 in
set_option maxHeartbeats 40000000 in
theorem rm0 (l : Launch) (Z : State) (a0 : Array Value) (hw : ∀ d ∈ tables_1, d.before a0 Z = true) (ws : List Jvm.Cond) (p0 : Int32) (p1 : Int32) (p2 : Int32) (p3 : Int32) (h0 : Heap) (n0 : Nat) (Z0 : n0 ≤ h0.size) (W : Int32 → Addr) (S0 : Sta Z h0 "com/example/error_envelope/errorenvelope/BuiltInCode" "NOT_FOUND" "Lcom/example/error_envelope/errorenvelope/BuiltInCode;" (.ref (W 0))) (S1 : Sta Z h0 "com/example/error_envelope/errorenvelope/BuiltInCode" "METHOD_NOT_ALLOWED" "Lcom/example/error_envelope/errorenvelope/BuiltInCode;" (.ref (W 1))) (S2 : Sta Z h0 "com/example/error_envelope/errorenvelope/BuiltInCode" "UNSUPPORTED_MEDIA_TYPE" "Lcom/example/error_envelope/errorenvelope/BuiltInCode;" (.ref (W 2))) (S3 : Sta Z h0 "com/example/error_envelope/errorenvelope/BuiltInCode" "PAYLOAD_TOO_LARGE" "Lcom/example/error_envelope/errorenvelope/BuiltInCode;" (.ref (W 3))) (S4 : Sta Z h0 "com/example/error_envelope/errorenvelope/BuiltInCode" "INVALID_JSON" "Lcom/example/error_envelope/errorenvelope/BuiltInCode;" (.ref (W 4))) (S5 : Sta Z h0 "com/example/error_envelope/errorenvelope/BuiltInCode" "VALIDATION_ERROR" "Lcom/example/error_envelope/errorenvelope/BuiltInCode;" (.ref (W 5))) (S6 : Sta Z h0 "com/example/error_envelope/errorenvelope/BuiltInCode" "RATE_LIMITED" "Lcom/example/error_envelope/errorenvelope/BuiltInCode;" (.ref (W 6))) (S7 : Sta Z h0 "com/example/error_envelope/errorenvelope/BuiltInCode" "INTERNAL_ERROR" "Lcom/example/error_envelope/errorenvelope/BuiltInCode;" (.ref (W 7))) (De : Int32 → Addr) (HB : ∀ k : Int32, ¬ k = 4 → Exa Z h0 (W (cl k)) "com/example/error_envelope/errorenvelope/BuiltInCode" ∧ Fld Z h0 (W (cl k)) "com/example/error_envelope/errorenvelope/BuiltInCode" "standsForStatus" "Z" (.int 1) ∧ Fld Z h0 (W (cl k)) "com/example/error_envelope/errorenvelope/BuiltInCode" "defaultEntry" "Lcom/example/error_envelope/errorenvelope/ErrorCode;" (.ref (De k)) ∧ Exa Z h0 (De k) "com/example/error_envelope/errorenvelope/ErrorCode" ∧ Fld Z h0 (De k) "com/example/error_envelope/errorenvelope/ErrorCode" "status" "I" (.int (stv k))) (H4 : Exa Z h0 (W 4) "com/example/error_envelope/errorenvelope/BuiltInCode" ∧ Fld Z h0 (W 4) "com/example/error_envelope/errorenvelope/BuiltInCode" "standsForStatus" "Z" (.int 0)) :
    MetFree l x (head1 (Jvm.Cond.code x code maxLocals ret :: ws) room_1) (fun aA U => aA = #[(.int p0), (.int p1), (.int p2), (.int p3)] ∧ Z.Warmed39 U.vm ∧ U.heap = h0) (fun _ _ _ _ _ => True) (fun _ U oO U' => ∃ vV LL, oO = .returned vV ∧ Q0 Z p0 p1 p2 p3 h0 n0 vV U'.heap LL ∧ FrameEnd U oO U' LL room_1.cells room_1.slots) := by
  refine MetFree.of_bodySF (plainFor_of_name pn_0) hisR ?_
  intro p e s m args below meth c s₁ Bd hml0 hP hK
  obtain ⟨rfl, hZ, hh⟩ := hP
  have hx := Bd.exec
  have hby := Bd.bytes
  have hml : c.maxLocals = 8 := hml0
  have hown : s.vm.findClass "com/example/error_envelope/errorenvelope/BuiltInCodeStandsForPinLaw" = some m.cls := findClass_of_methodNamed Bd.named
  have hnm := (name_of_methodNamed Bd.named Bd.method).1
  have X0 : Stand p l e room_1 s m #[(.int p0), (.int p1), (.int p2), (.int p3)] below meth c s₁ [] 0 0 := Stand.of_body Bd
  have e0 : s₁.heap = h0 := by rw [← hh, Bd.state]; rfl
  have N0 := Fr.nil n0
  have K0 : Keep h0 h0 [] := Keep.refl _ _
  have pre0 : Rch p.tables e below (s₁.setTop (entryFrame m #[(.int p0), (.int p1), (.int p2), (.int p3)] maxLocals)) (s₁.setTop (mkF m 0 #[.val (.int p0), .val (.int p1), .val (.int p2), .val (.int p3), .unset, .unset, .unset, .unset] [])) := fun tgt ktg => castTop (ef_0 m p0 p1 p2 p3) ktg
  have pre1 : Rch p.tables e below (s₁.setTop (entryFrame m #[(.int p0), (.int p1), (.int p2), (.int p3)] maxLocals)) (s₁.setTop (mkF m 4 #[.val (.int p0), .val (.int p1), .val (.int p2), .val (.int p3), .unset, .unset, .unset, .unset] [(.int (p0 &&& (7 : Int32)))])) := fun tgt ktg => pre0 tgt (by
    show Steps p.tables e below (s₁.setTop (mkF m 0 #[.val (.int p0), .val (.int p1), .val (.int p2), .val (.int p3), .unset, .unset, .unset, .unset] [])) _
    refine XS.iloadN X0.here hx rfl (hb hby at_0) rfl ?_
    show Steps p.tables e below (s₁.setTop (mkF m 1 #[.val (.int p0), .val (.int p1), .val (.int p2), .val (.int p3), .unset, .unset, .unset, .unset] [(.int p0)])) _
    refine XS.bipush X0.here hx rfl (hb hby at_1) ?_
    show Steps p.tables e below (s₁.setTop (mkF m 3 #[.val (.int p0), .val (.int p1), .val (.int p2), .val (.int p3), .unset, .unset, .unset, .unset] [(.int (7 : Int32)), (.int p0)])) _
    refine XS.iand X0.here hx rfl (hb hby at_3) rfl ?_
    exact ktg)
  obtain ⟨kk, hv_kk⟩ : ∃ nm_ : Int32, nm_ = (p0 &&& (7 : Int32)) := ⟨_, rfl⟩
  have pre2 : Rch p.tables e below (s₁.setTop (entryFrame m #[(.int p0), (.int p1), (.int p2), (.int p3)] maxLocals)) (s₁.setTop (mkF m 4 #[.val (.int p0), .val (.int p1), .val (.int p2), .val (.int p3), .unset, .unset, .unset, .unset] [(.int kk)])) := fun tgt ktg => pre1 tgt (by rw [hv_kk] at ktg; exact ktg)
  have pre3 : Rch p.tables e below (s₁.setTop (entryFrame m #[(.int p0), (.int p1), (.int p2), (.int p3)] maxLocals)) (s₁.setTop (mkF m 9 #[.val (.int p0), .val (.int p1), .val (.int p2), .val (.int p3), .val (.int kk), .unset, .unset, .unset] [(.int (p2 &&& (3 : Int32)))])) := fun tgt ktg => pre2 tgt (by
    show Steps p.tables e below (s₁.setTop (mkF m 4 #[.val (.int p0), .val (.int p1), .val (.int p2), .val (.int p3), .unset, .unset, .unset, .unset] [(.int kk)])) _
    refine XS.istore X0.here hx rfl (hb hby at_4) rfl (l' := #[.val (.int p0), .val (.int p1), .val (.int p2), .val (.int p3), .val (.int kk), .unset, .unset, .unset]) rfl ?_
    show Steps p.tables e below (s₁.setTop (mkF m 6 #[.val (.int p0), .val (.int p1), .val (.int p2), .val (.int p3), .val (.int kk), .unset, .unset, .unset] [])) _
    refine XS.iloadN X0.here hx rfl (hb hby at_6) rfl ?_
    show Steps p.tables e below (s₁.setTop (mkF m 7 #[.val (.int p0), .val (.int p1), .val (.int p2), .val (.int p3), .val (.int kk), .unset, .unset, .unset] [(.int p2)])) _
    refine XS.iconst X0.here hx rfl (hb hby at_7) ?_
    show Steps p.tables e below (s₁.setTop (mkF m 8 #[.val (.int p0), .val (.int p1), .val (.int p2), .val (.int p3), .val (.int kk), .unset, .unset, .unset] [(.int (3 : Int32)), (.int p2)])) _
    refine XS.iand X0.here hx rfl (hb hby at_8) rfl ?_
    exact ktg)
  obtain ⟨mm, hv_mm⟩ : ∃ nm_ : Int32, nm_ = (p2 &&& (3 : Int32)) := ⟨_, rfl⟩
  have pre4 : Rch p.tables e below (s₁.setTop (entryFrame m #[(.int p0), (.int p1), (.int p2), (.int p3)] maxLocals)) (s₁.setTop (mkF m 9 #[.val (.int p0), .val (.int p1), .val (.int p2), .val (.int p3), .val (.int kk), .unset, .unset, .unset] [(.int mm)])) := fun tgt ktg => pre3 tgt (by rw [hv_mm] at ktg; exact ktg)
  have pre5 : Rch p.tables e below (s₁.setTop (entryFrame m #[(.int p0), (.int p1), (.int p2), (.int p3)] maxLocals)) (s₁.setTop (mkF m 13 #[.val (.int p0), .val (.int p1), .val (.int p2), .val (.int p3), .val (.int kk), .val (.int mm), .unset, .unset] [(.int mm)])) := fun tgt ktg => pre4 tgt (by
    show Steps p.tables e below (s₁.setTop (mkF m 9 #[.val (.int p0), .val (.int p1), .val (.int p2), .val (.int p3), .val (.int kk), .unset, .unset, .unset] [(.int mm)])) _
    refine XS.istore X0.here hx rfl (hb hby at_9) rfl (l' := #[.val (.int p0), .val (.int p1), .val (.int p2), .val (.int p3), .val (.int kk), .val (.int mm), .unset, .unset]) rfl ?_
    show Steps p.tables e below (s₁.setTop (mkF m 11 #[.val (.int p0), .val (.int p1), .val (.int p2), .val (.int p3), .val (.int kk), .val (.int mm), .unset, .unset] [])) _
    refine XS.iload X0.here hx rfl (hb hby at_11) rfl ?_
    exact ktg)
  by_cases c6 : mm = (0 : Int32)
  · skip
    have pre7 : Rch p.tables e below (s₁.setTop (entryFrame m #[(.int p0), (.int p1), (.int p2), (.int p3)] maxLocals)) (s₁.setTop (mkF m 16 #[.val (.int p0), .val (.int p1), .val (.int p2), .val (.int p3), .val (.int kk), .val (.int mm), .unset, .unset] [])) := fun tgt ktg => pre5 tgt (by
      show Steps p.tables e below (s₁.setTop (mkF m 13 #[.val (.int p0), .val (.int p1), .val (.int p2), .val (.int p3), .val (.int kk), .val (.int mm), .unset, .unset] [(.int mm)])) _
      refine XS.ifNo X0.here hx rfl (hb hby at_13) rfl ((if0 _ _).trans (teq c6).2) ?_
      exact ktg)
    have pre8 : Rch p.tables e below (s₁.setTop (entryFrame m #[(.int p0), (.int p1), (.int p2), (.int p3)] maxLocals)) (s₁.setTop (mkF m 67 #[.val (.int p0), .val (.int p1), .val (.int p2), .val (.int p3), .val (.int kk), .val (.int mm), .val (.int p3), .unset] [])) := fun tgt ktg => pre7 tgt (by
      show Steps p.tables e below (s₁.setTop (mkF m 16 #[.val (.int p0), .val (.int p1), .val (.int p2), .val (.int p3), .val (.int kk), .val (.int mm), .unset, .unset] [])) _
      refine XS.iloadN X0.here hx rfl (hb hby at_16) rfl ?_
      show Steps p.tables e below (s₁.setTop (mkF m 17 #[.val (.int p0), .val (.int p1), .val (.int p2), .val (.int p3), .val (.int kk), .val (.int mm), .unset, .unset] [(.int p3)])) _
      refine XS.istore X0.here hx rfl (hb hby at_17) rfl (l' := #[.val (.int p0), .val (.int p1), .val (.int p2), .val (.int p3), .val (.int kk), .val (.int mm), .val (.int p3), .unset]) rfl ?_
      show Steps p.tables e below (s₁.setTop (mkF m 19 #[.val (.int p0), .val (.int p1), .val (.int p2), .val (.int p3), .val (.int kk), .val (.int mm), .val (.int p3), .unset] [])) _
      refine XS.goto X0.here hx rfl (pc0 := 19) (pc' := 67) rfl (hb hby at_19) (by decide) (by decide) ?_
      exact ktg)
    have pre9 : Rch p.tables e below (s₁.setTop (entryFrame m #[(.int p0), (.int p1), (.int p2), (.int p3)] maxLocals)) (s₁.setTop (mkF m 70 #[.val (.int p0), .val (.int p1), .val (.int p2), .val (.int p3), .val (.int kk), .val (.int mm), .val (.int p3), .unset] [(.int (4 : Int32)), (.int kk)])) := fun tgt ktg => pre8 tgt (by
      show Steps p.tables e below (s₁.setTop (mkF m 67 #[.val (.int p0), .val (.int p1), .val (.int p2), .val (.int p3), .val (.int kk), .val (.int mm), .val (.int p3), .unset] [])) _
      refine XS.iload X0.here hx rfl (hb hby at_67) rfl ?_
      show Steps p.tables e below (s₁.setTop (mkF m 69 #[.val (.int p0), .val (.int p1), .val (.int p2), .val (.int p3), .val (.int kk), .val (.int mm), .val (.int p3), .unset] [(.int kk)])) _
      refine XS.iconst X0.here hx rfl (hb hby at_69) ?_
      exact ktg)
    by_cases c10 : kk = (4 : Int32)
    · skip
      have pre11 : Rch p.tables e below (s₁.setTop (entryFrame m #[(.int p0), (.int p1), (.int p2), (.int p3)] maxLocals)) (s₁.setTop (mkF m 87 #[.val (.int p0), .val (.int p1), .val (.int p2), .val (.int p3), .val (.int kk), .val (.int mm), .val (.int p3), .unset] [])) := fun tgt ktg => pre9 tgt (by
        show Steps p.tables e below (s₁.setTop (mkF m 70 #[.val (.int p0), .val (.int p1), .val (.int p2), .val (.int p3), .val (.int kk), .val (.int mm), .val (.int p3), .unset] [(.int (4 : Int32)), (.int kk)])) _
        refine XS.icmpYes X0.here hx rfl (pc0 := 70) (pc' := 87) rfl (hb hby at_70) rfl (teq c10).1 (by decide) (by decide) ?_
        exact ktg)
      have pre12 : Rch p.tables e below (s₁.setTop (entryFrame m #[(.int p0), (.int p1), (.int p2), (.int p3)] maxLocals)) (s₁.setTop (mkF m 92 #[.val (.int p0), .val (.int p1), .val (.int p2), .val (.int p3), .val (.int kk), .val (.int mm), .val (.int p3), .val (.int (0 : Int32))] [(.int kk)])) := fun tgt ktg => pre11 tgt (by
        show Steps p.tables e below (s₁.setTop (mkF m 87 #[.val (.int p0), .val (.int p1), .val (.int p2), .val (.int p3), .val (.int kk), .val (.int mm), .val (.int p3), .unset] [])) _
        refine XS.iconst X0.here hx rfl (hb hby at_87) ?_
        show Steps p.tables e below (s₁.setTop (mkF m 88 #[.val (.int p0), .val (.int p1), .val (.int p2), .val (.int p3), .val (.int kk), .val (.int mm), .val (.int p3), .unset] [(.int (0 : Int32))])) _
        refine XS.istore X0.here hx rfl (hb hby at_88) rfl (l' := #[.val (.int p0), .val (.int p1), .val (.int p2), .val (.int p3), .val (.int kk), .val (.int mm), .val (.int p3), .val (.int (0 : Int32))]) rfl ?_
        show Steps p.tables e below (s₁.setTop (mkF m 90 #[.val (.int p0), .val (.int p1), .val (.int p2), .val (.int p3), .val (.int kk), .val (.int mm), .val (.int p3), .val (.int (0 : Int32))] [])) _
        refine XS.iload X0.here hx rfl (hb hby at_90) rfl ?_
        exact ktg)
      obtain ⟨_, _, ⟨T13, L13, k13, n13⟩, -, X13, ⟨Lc13, hQ13, l13, y13, z13⟩, st13⟩ := Jvm.LawKit.callS X0 hx (y := (⟨"com/example/error_envelope/errorenvelope/BuiltInCodeStandsForPinLaw", "constant", "(I)Lcom/example/error_envelope/errorenvelope/BuiltInCode;"⟩ : MethodName)) hown (mvT hZ (hw _ (List.mem_of_getElem? (i := 4) rfl))) (mvT hZ (hw _ (List.mem_of_getElem? (i := 5) rfl))) (mvT hZ (hw _ (List.mem_of_getElem? (i := 2) rfl))) (mvT hZ (hw _ (List.mem_of_getElem? (i := 6) rfl))) (by decide) (backOf (W := 0) (rm2 l Z a0 hw [] kk W h0 n0 Z0 S0 S1 S2 S3 S4 S5 S6 S7) hZ (hw _ (List.mem_of_getElem? (i := 6) rfl)) (hw _ (List.mem_of_getElem? (i := 2) rfl)) (by decide) (by decide)) (g := (mkF m 92 #[.val (.int p0), .val (.int p1), .val (.int p2), .val (.int p3), .val (.int kk), .val (.int mm), .val (.int p3), .val (.int (0 : Int32))] [(.int kk)])) rfl (by rw [hml]; rfl) (argsL := [(.int kk)]) (rest := []) (lenOf pd_1 rfl) rfl (by show 2 * 0 + _ ≤ _; exact Nat.le_of_eq rfl) (hb hby at_92) (fun _ _ => ⟨rfl, e0, (by decide : 0 + 0 ≤ _), (by decide : 0 + 0 ≤ _)⟩)
      dsimp only [Pt.U, Pt.locs, Pt.cells, Pt.slots] at X13 l13 y13 z13 st13 hQ13
      subst l13 y13 z13
      obtain ⟨rfl, Nq13, eh13⟩ := hQ13
      have N14 := Fr.app N0 Nq13
      have pre13 : Rch p.tables e below (s₁.setTop (entryFrame m #[(.int p0), (.int p1), (.int p2), (.int p3)] maxLocals)) (T13.setTop (mkF m 95 #[.val (.int p0), .val (.int p1), .val (.int p2), .val (.int p3), .val (.int kk), .val (.int mm), .val (.int p3), .val (.int (0 : Int32))] [(.ref (W (cl kk)))])) := fun tgt ktg => pre12 tgt (st13 tgt ktg)
      obtain ⟨bc, hv_bc⟩ : ∃ nm_ : Addr, nm_ = (W (cl kk)) := ⟨_, rfl⟩
      have pre15 : Rch p.tables e below (s₁.setTop (entryFrame m #[(.int p0), (.int p1), (.int p2), (.int p3)] maxLocals)) (T13.setTop (mkF m 95 #[.val (.int p0), .val (.int p1), .val (.int p2), .val (.int p3), .val (.int kk), .val (.int mm), .val (.int p3), .val (.int (0 : Int32))] [(.ref bc)])) := fun tgt ktg => pre13 tgt (by rw [hv_bc] at ktg; exact ktg)
      have hb4 : bc = W 4 := by rw [hv_bc, c10]; rfl
      have f16 : Exa Z h0 bc "com/example/error_envelope/errorenvelope/BuiltInCode" := hb4 ▸ H4.1
      have pre17 : Rch p.tables e below (s₁.setTop (entryFrame m #[(.int p0), (.int p1), (.int p2), (.int p3)] maxLocals)) (T13.setTop (mkF m 97 #[.val (.int p0), .val (.int p1), .val (.int p2), .val (.int p3), .val (.int kk), .val (.int mm), .val (.int p3), .val (.int (0 : Int32))] [(.int p3), (.ref bc)])) := fun tgt ktg => pre15 tgt (by
        show Steps p.tables e below (T13.setTop (mkF m 95 #[.val (.int p0), .val (.int p1), .val (.int p2), .val (.int p3), .val (.int kk), .val (.int mm), .val (.int p3), .val (.int (0 : Int32))] [(.ref bc)])) _
        refine XS.iload X13.here hx rfl (hb hby at_95) rfl ?_
        exact ktg)
      obtain ⟨cq18, kq18, q18a, q18b, q18c⟩ := isOf hZ eh13 f16
      obtain ⟨_, _, ⟨T18, L18, k18, n18⟩, -, X18, ⟨Lc18, hQ18, l18, y18, z18⟩, st18⟩ := X13.virtualBack hx (y := (⟨"com/example/error_envelope/errorenvelope/BuiltInCode", "standsFor", "(I)Z"⟩ : MethodName)) (z := (⟨"com/example/error_envelope/errorenvelope/BuiltInCode", "standsFor", "(I)Z"⟩ : MethodName)) hown (mvT hZ (hw _ (List.mem_of_getElem? (i := 10) rfl))) (mvT hZ (hw _ (List.mem_of_getElem? (i := 11) rfl))) (notFace_of_selects (args := #[]) (mvT hZ (hw _ (List.mem_of_getElem? (i := 13) rfl)))) (mvT hZ (hw _ (List.mem_of_getElem? (i := 13) rfl))) (mvT hZ (hw _ (List.mem_of_getElem? (i := 12) rfl))) (by decide) (backOf (W := 0) (rmF0 l Z a0 hw [] bc p3 h0 n0 Z0 (hb4 ▸ H4.2)) hZ (hw _ (List.mem_of_getElem? (i := 14) rfl)) (hw _ (List.mem_of_getElem? (i := 8) rfl)) (by decide) (by decide)) q18a q18c (g := (mkF m 97 #[.val (.int p0), .val (.int p1), .val (.int p2), .val (.int p3), .val (.int kk), .val (.int mm), .val (.int p3), .val (.int (0 : Int32))] [(.int p3), (.ref bc)])) rfl (by rw [hml]; rfl) (Steps.refl _) (argsL := [(.int p3)]) (rest := []) (lenOf pd_2 rfl) rfl (by show 2 * 0 + _ ≤ _; exact Nat.le_of_eq rfl) (hb hby at_97) (fun _ _ => ⟨rfl, eh13, (by decide : 0 + 0 ≤ _), (by decide : 0 + 0 ≤ _)⟩)
      dsimp only [Pt.U, Pt.locs, Pt.cells, Pt.slots] at X18 l18 y18 z18 st18 hQ18
      subst l18 y18 z18
      obtain ⟨rfl, Nq18, eh18⟩ := hQ18
      have N19 := Fr.app N14 Nq18
      have pre18 : Rch p.tables e below (s₁.setTop (entryFrame m #[(.int p0), (.int p1), (.int p2), (.int p3)] maxLocals)) (T18.setTop (mkF m 100 #[.val (.int p0), .val (.int p1), .val (.int p2), .val (.int p3), .val (.int kk), .val (.int mm), .val (.int p3), .val (.int (0 : Int32))] [(.int (0 : Int32))])) := fun tgt ktg => pre17 tgt (st18.trans ktg)
      have pre20 : Rch p.tables e below (s₁.setTop (entryFrame m #[(.int p0), (.int p1), (.int p2), (.int p3)] maxLocals)) (T18.setTop (mkF m 110 #[.val (.int p0), .val (.int p1), .val (.int p2), .val (.int p3), .val (.int kk), .val (.int mm), .val (.int p3), .val (.int (0 : Int32))] [(.int (1 : Int32))])) := fun tgt ktg => pre18 tgt (by
        show Steps p.tables e below (T18.setTop (mkF m 100 #[.val (.int p0), .val (.int p1), .val (.int p2), .val (.int p3), .val (.int kk), .val (.int mm), .val (.int p3), .val (.int (0 : Int32))] [(.int (0 : Int32))])) _
        refine XS.iload X18.here hx rfl (hb hby at_100) rfl ?_
        show Steps p.tables e below (T18.setTop (mkF m 102 #[.val (.int p0), .val (.int p1), .val (.int p2), .val (.int p3), .val (.int kk), .val (.int mm), .val (.int p3), .val (.int (0 : Int32))] [(.int (0 : Int32)), (.int (0 : Int32))])) _
        refine XS.icmpNo X18.here hx rfl (hb hby at_102) rfl (teq (rfl : (0 : Int32) = (0 : Int32))).2 ?_
        show Steps p.tables e below (T18.setTop (mkF m 105 #[.val (.int p0), .val (.int p1), .val (.int p2), .val (.int p3), .val (.int kk), .val (.int mm), .val (.int p3), .val (.int (0 : Int32))] [])) _
        refine XS.iconst X18.here hx rfl (hb hby at_105) ?_
        show Steps p.tables e below (T18.setTop (mkF m 106 #[.val (.int p0), .val (.int p1), .val (.int p2), .val (.int p3), .val (.int kk), .val (.int mm), .val (.int p3), .val (.int (0 : Int32))] [(.int (1 : Int32))])) _
        refine XS.goto X18.here hx rfl (pc0 := 106) (pc' := 110) rfl (hb hby at_106) (by decide) (by decide) ?_
        exact ktg)
      obtain ⟨fs, hr, hrun, hended, hW, hsame⟩ := X18.leave (v := some (.int (1 : Int32))) (fun h => by rw [Bd.returns] at h; cases h)
      refine ⟨_, _, pre20 _ ?_, hrun, hended, _, _, rfl, ?_, ⟨_, rfl⟩, hW, hsame.mono (by decide) (by decide)⟩
      · show Steps p.tables e below (T18.setTop (mkF m 110 #[.val (.int p0), .val (.int p1), .val (.int p2), .val (.int p3), .val (.int kk), .val (.int mm), .val (.int p3), .val (.int (0 : Int32))] [(.int (1 : Int32))])) _
        exact retN X18 hx (t := .boolean) Bd.returns (by simp) (hb hby at_110) hr
      · show Q0 Z p0 p1 p2 p3 h0 n0 _ T18.heap _
        rw [eh18]
        exact ⟨rfl, N19⟩
    · skip
      have pre21 : Rch p.tables e below (s₁.setTop (entryFrame m #[(.int p0), (.int p1), (.int p2), (.int p3)] maxLocals)) (s₁.setTop (mkF m 73 #[.val (.int p0), .val (.int p1), .val (.int p2), .val (.int p3), .val (.int kk), .val (.int mm), .val (.int p3), .unset] [])) := fun tgt ktg => pre9 tgt (by
        show Steps p.tables e below (s₁.setTop (mkF m 70 #[.val (.int p0), .val (.int p1), .val (.int p2), .val (.int p3), .val (.int kk), .val (.int mm), .val (.int p3), .unset] [(.int (4 : Int32)), (.int kk)])) _
        refine XS.icmpNo X0.here hx rfl (hb hby at_70) rfl (feq c10).1 ?_
        exact ktg)
      have pre22 : Rch p.tables e below (s₁.setTop (entryFrame m #[(.int p0), (.int p1), (.int p2), (.int p3)] maxLocals)) (s₁.setTop (mkF m 77 #[.val (.int p0), .val (.int p1), .val (.int p2), .val (.int p3), .val (.int kk), .val (.int mm), .val (.int p3), .unset] [(.int kk), (.int p3)])) := fun tgt ktg => pre21 tgt (by
        show Steps p.tables e below (s₁.setTop (mkF m 73 #[.val (.int p0), .val (.int p1), .val (.int p2), .val (.int p3), .val (.int kk), .val (.int mm), .val (.int p3), .unset] [])) _
        refine XS.iload X0.here hx rfl (hb hby at_73) rfl ?_
        show Steps p.tables e below (s₁.setTop (mkF m 75 #[.val (.int p0), .val (.int p1), .val (.int p2), .val (.int p3), .val (.int kk), .val (.int mm), .val (.int p3), .unset] [(.int p3)])) _
        refine XS.iload X0.here hx rfl (hb hby at_75) rfl ?_
        exact ktg)
      obtain ⟨_, _, ⟨T23, L23, k23, n23⟩, -, X23, ⟨Lc23, hQ23, l23, y23, z23⟩, st23⟩ := Jvm.LawKit.callS X0 hx (y := (⟨"com/example/error_envelope/errorenvelope/BuiltInCodeStandsForPinLaw", "statusOf", "(I)I"⟩ : MethodName)) hown (mvT hZ (hw _ (List.mem_of_getElem? (i := 0) rfl))) (mvT hZ (hw _ (List.mem_of_getElem? (i := 1) rfl))) (mvT hZ (hw _ (List.mem_of_getElem? (i := 2) rfl))) (mvT hZ (hw _ (List.mem_of_getElem? (i := 3) rfl))) (by decide) (backOf (W := 1) (rm1 l Z a0 hw [] kk h0 n0 Z0) hZ (hw _ (List.mem_of_getElem? (i := 3) rfl)) (hw _ (List.mem_of_getElem? (i := 2) rfl)) (by decide) (by decide)) (g := (mkF m 77 #[.val (.int p0), .val (.int p1), .val (.int p2), .val (.int p3), .val (.int kk), .val (.int mm), .val (.int p3), .unset] [(.int kk), (.int p3)])) rfl (by rw [hml]; rfl) (argsL := [(.int kk)]) (rest := [(.int p3)]) (lenOf pd_3 rfl) rfl (by show 2 * 0 + _ ≤ _; exact Nat.le_of_eq rfl) (hb hby at_77) (fun _ _ => ⟨rfl, e0, (by decide : 0 + 0 ≤ _), (by decide : 0 + 0 ≤ _)⟩)
      dsimp only [Pt.U, Pt.locs, Pt.cells, Pt.slots] at X23 l23 y23 z23 st23 hQ23
      subst l23 y23 z23
      obtain ⟨rfl, Nq23, eh23⟩ := hQ23
      have N24 := Fr.app N0 Nq23
      have pre23 : Rch p.tables e below (s₁.setTop (entryFrame m #[(.int p0), (.int p1), (.int p2), (.int p3)] maxLocals)) (T23.setTop (mkF m 80 #[.val (.int p0), .val (.int p1), .val (.int p2), .val (.int p3), .val (.int kk), .val (.int mm), .val (.int p3), .unset] [(.int (stv kk)), (.int p3)])) := fun tgt ktg => pre22 tgt (st23 tgt ktg)
      by_cases c25 : p3 = (stv kk)
      · skip
        have pre26 : Rch p.tables e below (s₁.setTop (entryFrame m #[(.int p0), (.int p1), (.int p2), (.int p3)] maxLocals)) (T23.setTop (mkF m 83 #[.val (.int p0), .val (.int p1), .val (.int p2), .val (.int p3), .val (.int kk), .val (.int mm), .val (.int p3), .unset] [])) := fun tgt ktg => pre23 tgt (by
          show Steps p.tables e below (T23.setTop (mkF m 80 #[.val (.int p0), .val (.int p1), .val (.int p2), .val (.int p3), .val (.int kk), .val (.int mm), .val (.int p3), .unset] [(.int (stv kk)), (.int p3)])) _
          refine XS.icmpNo X23.here hx rfl (hb hby at_80) rfl (teq c25).2 ?_
          exact ktg)
        have pre27 : Rch p.tables e below (s₁.setTop (entryFrame m #[(.int p0), (.int p1), (.int p2), (.int p3)] maxLocals)) (T23.setTop (mkF m 92 #[.val (.int p0), .val (.int p1), .val (.int p2), .val (.int p3), .val (.int kk), .val (.int mm), .val (.int p3), .val (.int (1 : Int32))] [(.int kk)])) := fun tgt ktg => pre26 tgt (by
          show Steps p.tables e below (T23.setTop (mkF m 83 #[.val (.int p0), .val (.int p1), .val (.int p2), .val (.int p3), .val (.int kk), .val (.int mm), .val (.int p3), .unset] [])) _
          refine XS.iconst X23.here hx rfl (hb hby at_83) ?_
          show Steps p.tables e below (T23.setTop (mkF m 84 #[.val (.int p0), .val (.int p1), .val (.int p2), .val (.int p3), .val (.int kk), .val (.int mm), .val (.int p3), .unset] [(.int (1 : Int32))])) _
          refine XS.goto X23.here hx rfl (pc0 := 84) (pc' := 88) rfl (hb hby at_84) (by decide) (by decide) ?_
          show Steps p.tables e below (T23.setTop (mkF m 88 #[.val (.int p0), .val (.int p1), .val (.int p2), .val (.int p3), .val (.int kk), .val (.int mm), .val (.int p3), .unset] [(.int (1 : Int32))])) _
          refine XS.istore X23.here hx rfl (hb hby at_88) rfl (l' := #[.val (.int p0), .val (.int p1), .val (.int p2), .val (.int p3), .val (.int kk), .val (.int mm), .val (.int p3), .val (.int (1 : Int32))]) rfl ?_
          show Steps p.tables e below (T23.setTop (mkF m 90 #[.val (.int p0), .val (.int p1), .val (.int p2), .val (.int p3), .val (.int kk), .val (.int mm), .val (.int p3), .val (.int (1 : Int32))] [])) _
          refine XS.iload X23.here hx rfl (hb hby at_90) rfl ?_
          exact ktg)
        obtain ⟨_, _, ⟨T28, L28, k28, n28⟩, -, X28, ⟨Lc28, hQ28, l28, y28, z28⟩, st28⟩ := Jvm.LawKit.callS X23 hx (y := (⟨"com/example/error_envelope/errorenvelope/BuiltInCodeStandsForPinLaw", "constant", "(I)Lcom/example/error_envelope/errorenvelope/BuiltInCode;"⟩ : MethodName)) hown (mvT hZ (hw _ (List.mem_of_getElem? (i := 4) rfl))) (mvT hZ (hw _ (List.mem_of_getElem? (i := 5) rfl))) (mvT hZ (hw _ (List.mem_of_getElem? (i := 2) rfl))) (mvT hZ (hw _ (List.mem_of_getElem? (i := 6) rfl))) (by decide) (backOf (W := 0) (rm2 l Z a0 hw [] kk W h0 n0 Z0 S0 S1 S2 S3 S4 S5 S6 S7) hZ (hw _ (List.mem_of_getElem? (i := 6) rfl)) (hw _ (List.mem_of_getElem? (i := 2) rfl)) (by decide) (by decide)) (g := (mkF m 92 #[.val (.int p0), .val (.int p1), .val (.int p2), .val (.int p3), .val (.int kk), .val (.int mm), .val (.int p3), .val (.int (1 : Int32))] [(.int kk)])) rfl (by rw [hml]; rfl) (argsL := [(.int kk)]) (rest := []) (lenOf pd_1 rfl) rfl (by show 2 * 0 + _ ≤ _; exact Nat.le_of_eq rfl) (hb hby at_92) (fun _ _ => ⟨rfl, eh23, (by decide : 0 + 0 ≤ _), (by decide : 0 + 0 ≤ _)⟩)
        dsimp only [Pt.U, Pt.locs, Pt.cells, Pt.slots] at X28 l28 y28 z28 st28 hQ28
        subst l28 y28 z28
        obtain ⟨rfl, Nq28, eh28⟩ := hQ28
        have N29 := Fr.app N24 Nq28
        have pre28 : Rch p.tables e below (s₁.setTop (entryFrame m #[(.int p0), (.int p1), (.int p2), (.int p3)] maxLocals)) (T28.setTop (mkF m 95 #[.val (.int p0), .val (.int p1), .val (.int p2), .val (.int p3), .val (.int kk), .val (.int mm), .val (.int p3), .val (.int (1 : Int32))] [(.ref (W (cl kk)))])) := fun tgt ktg => pre27 tgt (st28 tgt ktg)
        obtain ⟨b1, b2, b3, b4, b5⟩ := HB kk c10
        obtain ⟨bc, hv_bc⟩ : ∃ nm_ : Addr, nm_ = (W (cl kk)) := ⟨_, rfl⟩
        have pre30 : Rch p.tables e below (s₁.setTop (entryFrame m #[(.int p0), (.int p1), (.int p2), (.int p3)] maxLocals)) (T28.setTop (mkF m 95 #[.val (.int p0), .val (.int p1), .val (.int p2), .val (.int p3), .val (.int kk), .val (.int mm), .val (.int p3), .val (.int (1 : Int32))] [(.ref bc)])) := fun tgt ktg => pre28 tgt (by rw [hv_bc] at ktg; exact ktg)
        rw [← hv_bc] at b1 b2 b3
        have f31 : Exa Z h0 bc "com/example/error_envelope/errorenvelope/BuiltInCode" := b1
        have pre32 : Rch p.tables e below (s₁.setTop (entryFrame m #[(.int p0), (.int p1), (.int p2), (.int p3)] maxLocals)) (T28.setTop (mkF m 97 #[.val (.int p0), .val (.int p1), .val (.int p2), .val (.int p3), .val (.int kk), .val (.int mm), .val (.int p3), .val (.int (1 : Int32))] [(.int p3), (.ref bc)])) := fun tgt ktg => pre30 tgt (by
          show Steps p.tables e below (T28.setTop (mkF m 95 #[.val (.int p0), .val (.int p1), .val (.int p2), .val (.int p3), .val (.int kk), .val (.int mm), .val (.int p3), .val (.int (1 : Int32))] [(.ref bc)])) _
          refine XS.iload X28.here hx rfl (hb hby at_95) rfl ?_
          exact ktg)
        obtain ⟨cq33, kq33, q33a, q33b, q33c⟩ := isOf hZ eh28 f31
        obtain ⟨_, _, ⟨T33, L33, k33, n33⟩, -, X33, ⟨Lc33, hQ33, l33, y33, z33⟩, st33⟩ := X28.virtualBack hx (y := (⟨"com/example/error_envelope/errorenvelope/BuiltInCode", "standsFor", "(I)Z"⟩ : MethodName)) (z := (⟨"com/example/error_envelope/errorenvelope/BuiltInCode", "standsFor", "(I)Z"⟩ : MethodName)) hown (mvT hZ (hw _ (List.mem_of_getElem? (i := 10) rfl))) (mvT hZ (hw _ (List.mem_of_getElem? (i := 11) rfl))) (notFace_of_selects (args := #[]) (mvT hZ (hw _ (List.mem_of_getElem? (i := 13) rfl)))) (mvT hZ (hw _ (List.mem_of_getElem? (i := 13) rfl))) (mvT hZ (hw _ (List.mem_of_getElem? (i := 12) rfl))) (by decide) (backOf (W := 0) (rmF1 l Z a0 hw [] bc p3 (De kk) (stv kk) h0 n0 Z0 b2 b3 b4 b5) hZ (hw _ (List.mem_of_getElem? (i := 14) rfl)) (hw _ (List.mem_of_getElem? (i := 8) rfl)) (by decide) (by decide)) q33a q33c (g := (mkF m 97 #[.val (.int p0), .val (.int p1), .val (.int p2), .val (.int p3), .val (.int kk), .val (.int mm), .val (.int p3), .val (.int (1 : Int32))] [(.int p3), (.ref bc)])) rfl (by rw [hml]; rfl) (Steps.refl _) (argsL := [(.int p3)]) (rest := []) (lenOf pd_2 rfl) rfl (by show 2 * 0 + _ ≤ _; exact Nat.le_of_eq rfl) (hb hby at_97) (fun _ _ => ⟨rfl, eh28, (by decide : 0 + 0 ≤ _), (by decide : 0 + 0 ≤ _)⟩)
        dsimp only [Pt.U, Pt.locs, Pt.cells, Pt.slots] at X33 l33 y33 z33 st33 hQ33
        subst l33 y33 z33
        obtain ⟨rfl, Nq33, eh33⟩ := hQ33
        have N34 := Fr.app N29 Nq33
        have pre33 : Rch p.tables e below (s₁.setTop (entryFrame m #[(.int p0), (.int p1), (.int p2), (.int p3)] maxLocals)) (T33.setTop (mkF m 100 #[.val (.int p0), .val (.int p1), .val (.int p2), .val (.int p3), .val (.int kk), .val (.int mm), .val (.int p3), .val (.int (1 : Int32))] [(.int (if (stv kk) = p3 then 1 else 0))])) := fun tgt ktg => pre32 tgt (st33.trans ktg)
        have pre35 : Rch p.tables e below (s₁.setTop (entryFrame m #[(.int p0), (.int p1), (.int p2), (.int p3)] maxLocals)) (T33.setTop (mkF m 102 #[.val (.int p0), .val (.int p1), .val (.int p2), .val (.int p3), .val (.int kk), .val (.int mm), .val (.int p3), .val (.int (1 : Int32))] [(.int (1 : Int32)), (.int (if (stv kk) = p3 then 1 else 0))])) := fun tgt ktg => pre33 tgt (by
          show Steps p.tables e below (T33.setTop (mkF m 100 #[.val (.int p0), .val (.int p1), .val (.int p2), .val (.int p3), .val (.int kk), .val (.int mm), .val (.int p3), .val (.int (1 : Int32))] [(.int (if (stv kk) = p3 then 1 else 0))])) _
          refine XS.iload X33.here hx rfl (hb hby at_100) rfl ?_
          exact ktg)
        have pre36 : Rch p.tables e below (s₁.setTop (entryFrame m #[(.int p0), (.int p1), (.int p2), (.int p3)] maxLocals)) (T33.setTop (mkF m 110 #[.val (.int p0), .val (.int p1), .val (.int p2), .val (.int p3), .val (.int kk), .val (.int mm), .val (.int p3), .val (.int (1 : Int32))] [(.int (1 : Int32))])) := fun tgt ktg => pre35 tgt (by
          show Steps p.tables e below (T33.setTop (mkF m 102 #[.val (.int p0), .val (.int p1), .val (.int p2), .val (.int p3), .val (.int kk), .val (.int mm), .val (.int p3), .val (.int (1 : Int32))] [(.int (1 : Int32)), (.int (if (stv kk) = p3 then 1 else 0))])) _
          refine XS.icmpNo X33.here hx rfl (hb hby at_102) rfl (teq (by rw [if_pos c25.symm])).2 ?_
          show Steps p.tables e below (T33.setTop (mkF m 105 #[.val (.int p0), .val (.int p1), .val (.int p2), .val (.int p3), .val (.int kk), .val (.int mm), .val (.int p3), .val (.int (1 : Int32))] [])) _
          refine XS.iconst X33.here hx rfl (hb hby at_105) ?_
          show Steps p.tables e below (T33.setTop (mkF m 106 #[.val (.int p0), .val (.int p1), .val (.int p2), .val (.int p3), .val (.int kk), .val (.int mm), .val (.int p3), .val (.int (1 : Int32))] [(.int (1 : Int32))])) _
          refine XS.goto X33.here hx rfl (pc0 := 106) (pc' := 110) rfl (hb hby at_106) (by decide) (by decide) ?_
          exact ktg)
        obtain ⟨fs, hr, hrun, hended, hW, hsame⟩ := X33.leave (v := some (.int (1 : Int32))) (fun h => by rw [Bd.returns] at h; cases h)
        refine ⟨_, _, pre36 _ ?_, hrun, hended, _, _, rfl, ?_, ⟨_, rfl⟩, hW, hsame.mono (by decide) (by decide)⟩
        · show Steps p.tables e below (T33.setTop (mkF m 110 #[.val (.int p0), .val (.int p1), .val (.int p2), .val (.int p3), .val (.int kk), .val (.int mm), .val (.int p3), .val (.int (1 : Int32))] [(.int (1 : Int32))])) _
          exact retN X33 hx (t := .boolean) Bd.returns (by simp) (hb hby at_110) hr
        · show Q0 Z p0 p1 p2 p3 h0 n0 _ T33.heap _
          rw [eh33]
          exact ⟨rfl, N34⟩
      · skip
        have pre37 : Rch p.tables e below (s₁.setTop (entryFrame m #[(.int p0), (.int p1), (.int p2), (.int p3)] maxLocals)) (T23.setTop (mkF m 87 #[.val (.int p0), .val (.int p1), .val (.int p2), .val (.int p3), .val (.int kk), .val (.int mm), .val (.int p3), .unset] [])) := fun tgt ktg => pre23 tgt (by
          show Steps p.tables e below (T23.setTop (mkF m 80 #[.val (.int p0), .val (.int p1), .val (.int p2), .val (.int p3), .val (.int kk), .val (.int mm), .val (.int p3), .unset] [(.int (stv kk)), (.int p3)])) _
          refine XS.icmpYes X23.here hx rfl (pc0 := 80) (pc' := 87) rfl (hb hby at_80) rfl (feq c25).2 (by decide) (by decide) ?_
          exact ktg)
        have pre38 : Rch p.tables e below (s₁.setTop (entryFrame m #[(.int p0), (.int p1), (.int p2), (.int p3)] maxLocals)) (T23.setTop (mkF m 92 #[.val (.int p0), .val (.int p1), .val (.int p2), .val (.int p3), .val (.int kk), .val (.int mm), .val (.int p3), .val (.int (0 : Int32))] [(.int kk)])) := fun tgt ktg => pre37 tgt (by
          show Steps p.tables e below (T23.setTop (mkF m 87 #[.val (.int p0), .val (.int p1), .val (.int p2), .val (.int p3), .val (.int kk), .val (.int mm), .val (.int p3), .unset] [])) _
          refine XS.iconst X23.here hx rfl (hb hby at_87) ?_
          show Steps p.tables e below (T23.setTop (mkF m 88 #[.val (.int p0), .val (.int p1), .val (.int p2), .val (.int p3), .val (.int kk), .val (.int mm), .val (.int p3), .unset] [(.int (0 : Int32))])) _
          refine XS.istore X23.here hx rfl (hb hby at_88) rfl (l' := #[.val (.int p0), .val (.int p1), .val (.int p2), .val (.int p3), .val (.int kk), .val (.int mm), .val (.int p3), .val (.int (0 : Int32))]) rfl ?_
          show Steps p.tables e below (T23.setTop (mkF m 90 #[.val (.int p0), .val (.int p1), .val (.int p2), .val (.int p3), .val (.int kk), .val (.int mm), .val (.int p3), .val (.int (0 : Int32))] [])) _
          refine XS.iload X23.here hx rfl (hb hby at_90) rfl ?_
          exact ktg)
        obtain ⟨_, _, ⟨T39, L39, k39, n39⟩, -, X39, ⟨Lc39, hQ39, l39, y39, z39⟩, st39⟩ := Jvm.LawKit.callS X23 hx (y := (⟨"com/example/error_envelope/errorenvelope/BuiltInCodeStandsForPinLaw", "constant", "(I)Lcom/example/error_envelope/errorenvelope/BuiltInCode;"⟩ : MethodName)) hown (mvT hZ (hw _ (List.mem_of_getElem? (i := 4) rfl))) (mvT hZ (hw _ (List.mem_of_getElem? (i := 5) rfl))) (mvT hZ (hw _ (List.mem_of_getElem? (i := 2) rfl))) (mvT hZ (hw _ (List.mem_of_getElem? (i := 6) rfl))) (by decide) (backOf (W := 0) (rm2 l Z a0 hw [] kk W h0 n0 Z0 S0 S1 S2 S3 S4 S5 S6 S7) hZ (hw _ (List.mem_of_getElem? (i := 6) rfl)) (hw _ (List.mem_of_getElem? (i := 2) rfl)) (by decide) (by decide)) (g := (mkF m 92 #[.val (.int p0), .val (.int p1), .val (.int p2), .val (.int p3), .val (.int kk), .val (.int mm), .val (.int p3), .val (.int (0 : Int32))] [(.int kk)])) rfl (by rw [hml]; rfl) (argsL := [(.int kk)]) (rest := []) (lenOf pd_1 rfl) rfl (by show 2 * 0 + _ ≤ _; exact Nat.le_of_eq rfl) (hb hby at_92) (fun _ _ => ⟨rfl, eh23, (by decide : 0 + 0 ≤ _), (by decide : 0 + 0 ≤ _)⟩)
        dsimp only [Pt.U, Pt.locs, Pt.cells, Pt.slots] at X39 l39 y39 z39 st39 hQ39
        subst l39 y39 z39
        obtain ⟨rfl, Nq39, eh39⟩ := hQ39
        have N40 := Fr.app N24 Nq39
        have pre39 : Rch p.tables e below (s₁.setTop (entryFrame m #[(.int p0), (.int p1), (.int p2), (.int p3)] maxLocals)) (T39.setTop (mkF m 95 #[.val (.int p0), .val (.int p1), .val (.int p2), .val (.int p3), .val (.int kk), .val (.int mm), .val (.int p3), .val (.int (0 : Int32))] [(.ref (W (cl kk)))])) := fun tgt ktg => pre38 tgt (st39 tgt ktg)
        obtain ⟨b1, b2, b3, b4, b5⟩ := HB kk c10
        obtain ⟨bc, hv_bc⟩ : ∃ nm_ : Addr, nm_ = (W (cl kk)) := ⟨_, rfl⟩
        have pre41 : Rch p.tables e below (s₁.setTop (entryFrame m #[(.int p0), (.int p1), (.int p2), (.int p3)] maxLocals)) (T39.setTop (mkF m 95 #[.val (.int p0), .val (.int p1), .val (.int p2), .val (.int p3), .val (.int kk), .val (.int mm), .val (.int p3), .val (.int (0 : Int32))] [(.ref bc)])) := fun tgt ktg => pre39 tgt (by rw [hv_bc] at ktg; exact ktg)
        rw [← hv_bc] at b1 b2 b3
        have f42 : Exa Z h0 bc "com/example/error_envelope/errorenvelope/BuiltInCode" := b1
        have pre43 : Rch p.tables e below (s₁.setTop (entryFrame m #[(.int p0), (.int p1), (.int p2), (.int p3)] maxLocals)) (T39.setTop (mkF m 97 #[.val (.int p0), .val (.int p1), .val (.int p2), .val (.int p3), .val (.int kk), .val (.int mm), .val (.int p3), .val (.int (0 : Int32))] [(.int p3), (.ref bc)])) := fun tgt ktg => pre41 tgt (by
          show Steps p.tables e below (T39.setTop (mkF m 95 #[.val (.int p0), .val (.int p1), .val (.int p2), .val (.int p3), .val (.int kk), .val (.int mm), .val (.int p3), .val (.int (0 : Int32))] [(.ref bc)])) _
          refine XS.iload X39.here hx rfl (hb hby at_95) rfl ?_
          exact ktg)
        obtain ⟨cq44, kq44, q44a, q44b, q44c⟩ := isOf hZ eh39 f42
        obtain ⟨_, _, ⟨T44, L44, k44, n44⟩, -, X44, ⟨Lc44, hQ44, l44, y44, z44⟩, st44⟩ := X39.virtualBack hx (y := (⟨"com/example/error_envelope/errorenvelope/BuiltInCode", "standsFor", "(I)Z"⟩ : MethodName)) (z := (⟨"com/example/error_envelope/errorenvelope/BuiltInCode", "standsFor", "(I)Z"⟩ : MethodName)) hown (mvT hZ (hw _ (List.mem_of_getElem? (i := 10) rfl))) (mvT hZ (hw _ (List.mem_of_getElem? (i := 11) rfl))) (notFace_of_selects (args := #[]) (mvT hZ (hw _ (List.mem_of_getElem? (i := 13) rfl)))) (mvT hZ (hw _ (List.mem_of_getElem? (i := 13) rfl))) (mvT hZ (hw _ (List.mem_of_getElem? (i := 12) rfl))) (by decide) (backOf (W := 0) (rmF1 l Z a0 hw [] bc p3 (De kk) (stv kk) h0 n0 Z0 b2 b3 b4 b5) hZ (hw _ (List.mem_of_getElem? (i := 14) rfl)) (hw _ (List.mem_of_getElem? (i := 8) rfl)) (by decide) (by decide)) q44a q44c (g := (mkF m 97 #[.val (.int p0), .val (.int p1), .val (.int p2), .val (.int p3), .val (.int kk), .val (.int mm), .val (.int p3), .val (.int (0 : Int32))] [(.int p3), (.ref bc)])) rfl (by rw [hml]; rfl) (Steps.refl _) (argsL := [(.int p3)]) (rest := []) (lenOf pd_2 rfl) rfl (by show 2 * 0 + _ ≤ _; exact Nat.le_of_eq rfl) (hb hby at_97) (fun _ _ => ⟨rfl, eh39, (by decide : 0 + 0 ≤ _), (by decide : 0 + 0 ≤ _)⟩)
        dsimp only [Pt.U, Pt.locs, Pt.cells, Pt.slots] at X44 l44 y44 z44 st44 hQ44
        subst l44 y44 z44
        obtain ⟨rfl, Nq44, eh44⟩ := hQ44
        have N45 := Fr.app N40 Nq44
        have pre44 : Rch p.tables e below (s₁.setTop (entryFrame m #[(.int p0), (.int p1), (.int p2), (.int p3)] maxLocals)) (T44.setTop (mkF m 100 #[.val (.int p0), .val (.int p1), .val (.int p2), .val (.int p3), .val (.int kk), .val (.int mm), .val (.int p3), .val (.int (0 : Int32))] [(.int (if (stv kk) = p3 then 1 else 0))])) := fun tgt ktg => pre43 tgt (st44.trans ktg)
        have pre46 : Rch p.tables e below (s₁.setTop (entryFrame m #[(.int p0), (.int p1), (.int p2), (.int p3)] maxLocals)) (T44.setTop (mkF m 102 #[.val (.int p0), .val (.int p1), .val (.int p2), .val (.int p3), .val (.int kk), .val (.int mm), .val (.int p3), .val (.int (0 : Int32))] [(.int (0 : Int32)), (.int (if (stv kk) = p3 then 1 else 0))])) := fun tgt ktg => pre44 tgt (by
          show Steps p.tables e below (T44.setTop (mkF m 100 #[.val (.int p0), .val (.int p1), .val (.int p2), .val (.int p3), .val (.int kk), .val (.int mm), .val (.int p3), .val (.int (0 : Int32))] [(.int (if (stv kk) = p3 then 1 else 0))])) _
          refine XS.iload X44.here hx rfl (hb hby at_100) rfl ?_
          exact ktg)
        have pre47 : Rch p.tables e below (s₁.setTop (entryFrame m #[(.int p0), (.int p1), (.int p2), (.int p3)] maxLocals)) (T44.setTop (mkF m 110 #[.val (.int p0), .val (.int p1), .val (.int p2), .val (.int p3), .val (.int kk), .val (.int mm), .val (.int p3), .val (.int (0 : Int32))] [(.int (1 : Int32))])) := fun tgt ktg => pre46 tgt (by
          show Steps p.tables e below (T44.setTop (mkF m 102 #[.val (.int p0), .val (.int p1), .val (.int p2), .val (.int p3), .val (.int kk), .val (.int mm), .val (.int p3), .val (.int (0 : Int32))] [(.int (0 : Int32)), (.int (if (stv kk) = p3 then 1 else 0))])) _
          refine XS.icmpNo X44.here hx rfl (hb hby at_102) rfl (teq (by rw [if_neg (fun q => c25 q.symm)])).2 ?_
          show Steps p.tables e below (T44.setTop (mkF m 105 #[.val (.int p0), .val (.int p1), .val (.int p2), .val (.int p3), .val (.int kk), .val (.int mm), .val (.int p3), .val (.int (0 : Int32))] [])) _
          refine XS.iconst X44.here hx rfl (hb hby at_105) ?_
          show Steps p.tables e below (T44.setTop (mkF m 106 #[.val (.int p0), .val (.int p1), .val (.int p2), .val (.int p3), .val (.int kk), .val (.int mm), .val (.int p3), .val (.int (0 : Int32))] [(.int (1 : Int32))])) _
          refine XS.goto X44.here hx rfl (pc0 := 106) (pc' := 110) rfl (hb hby at_106) (by decide) (by decide) ?_
          exact ktg)
        obtain ⟨fs, hr, hrun, hended, hW, hsame⟩ := X44.leave (v := some (.int (1 : Int32))) (fun h => by rw [Bd.returns] at h; cases h)
        refine ⟨_, _, pre47 _ ?_, hrun, hended, _, _, rfl, ?_, ⟨_, rfl⟩, hW, hsame.mono (by decide) (by decide)⟩
        · show Steps p.tables e below (T44.setTop (mkF m 110 #[.val (.int p0), .val (.int p1), .val (.int p2), .val (.int p3), .val (.int kk), .val (.int mm), .val (.int p3), .val (.int (0 : Int32))] [(.int (1 : Int32))])) _
          exact retN X44 hx (t := .boolean) Bd.returns (by simp) (hb hby at_110) hr
        · show Q0 Z p0 p1 p2 p3 h0 n0 _ T44.heap _
          rw [eh44]
          exact ⟨rfl, N45⟩
  · skip
    have pre48 : Rch p.tables e below (s₁.setTop (entryFrame m #[(.int p0), (.int p1), (.int p2), (.int p3)] maxLocals)) (s₁.setTop (mkF m 22 #[.val (.int p0), .val (.int p1), .val (.int p2), .val (.int p3), .val (.int kk), .val (.int mm), .unset, .unset] [])) := fun tgt ktg => pre5 tgt (by
      show Steps p.tables e below (s₁.setTop (mkF m 13 #[.val (.int p0), .val (.int p1), .val (.int p2), .val (.int p3), .val (.int kk), .val (.int mm), .unset, .unset] [(.int mm)])) _
      refine XS.ifYes X0.here hx rfl (pc0 := 13) (pc' := 22) rfl (hb hby at_13) rfl ((if0 _ _).trans (feq c6).2) (by decide) (by decide) ?_
      exact ktg)
    have pre49 : Rch p.tables e below (s₁.setTop (entryFrame m #[(.int p0), (.int p1), (.int p2), (.int p3)] maxLocals)) (s₁.setTop (mkF m 25 #[.val (.int p0), .val (.int p1), .val (.int p2), .val (.int p3), .val (.int kk), .val (.int mm), .unset, .unset] [(.int (1 : Int32)), (.int mm)])) := fun tgt ktg => pre48 tgt (by
      show Steps p.tables e below (s₁.setTop (mkF m 22 #[.val (.int p0), .val (.int p1), .val (.int p2), .val (.int p3), .val (.int kk), .val (.int mm), .unset, .unset] [])) _
      refine XS.iload X0.here hx rfl (hb hby at_22) rfl ?_
      show Steps p.tables e below (s₁.setTop (mkF m 24 #[.val (.int p0), .val (.int p1), .val (.int p2), .val (.int p3), .val (.int kk), .val (.int mm), .unset, .unset] [(.int mm)])) _
      refine XS.iconst X0.here hx rfl (hb hby at_24) ?_
      exact ktg)
    by_cases c50 : mm = (1 : Int32)
    · skip
      have pre51 : Rch p.tables e below (s₁.setTop (entryFrame m #[(.int p0), (.int p1), (.int p2), (.int p3)] maxLocals)) (s₁.setTop (mkF m 28 #[.val (.int p0), .val (.int p1), .val (.int p2), .val (.int p3), .val (.int kk), .val (.int mm), .unset, .unset] [])) := fun tgt ktg => pre49 tgt (by
        show Steps p.tables e below (s₁.setTop (mkF m 25 #[.val (.int p0), .val (.int p1), .val (.int p2), .val (.int p3), .val (.int kk), .val (.int mm), .unset, .unset] [(.int (1 : Int32)), (.int mm)])) _
        refine XS.icmpNo X0.here hx rfl (hb hby at_25) rfl (teq c50).2 ?_
        exact ktg)
      have pre52 : Rch p.tables e below (s₁.setTop (entryFrame m #[(.int p0), (.int p1), (.int p2), (.int p3)] maxLocals)) (s₁.setTop (mkF m 30 #[.val (.int p0), .val (.int p1), .val (.int p2), .val (.int p3), .val (.int kk), .val (.int mm), .unset, .unset] [(.int kk)])) := fun tgt ktg => pre51 tgt (by
        show Steps p.tables e below (s₁.setTop (mkF m 28 #[.val (.int p0), .val (.int p1), .val (.int p2), .val (.int p3), .val (.int kk), .val (.int mm), .unset, .unset] [])) _
        refine XS.iload X0.here hx rfl (hb hby at_28) rfl ?_
        exact ktg)
      obtain ⟨_, _, ⟨T53, L53, k53, n53⟩, -, X53, ⟨Lc53, hQ53, l53, y53, z53⟩, st53⟩ := Jvm.LawKit.callS X0 hx (y := (⟨"com/example/error_envelope/errorenvelope/BuiltInCodeStandsForPinLaw", "statusOf", "(I)I"⟩ : MethodName)) hown (mvT hZ (hw _ (List.mem_of_getElem? (i := 0) rfl))) (mvT hZ (hw _ (List.mem_of_getElem? (i := 1) rfl))) (mvT hZ (hw _ (List.mem_of_getElem? (i := 2) rfl))) (mvT hZ (hw _ (List.mem_of_getElem? (i := 3) rfl))) (by decide) (backOf (W := 0) (rm1 l Z a0 hw [] kk h0 n0 Z0) hZ (hw _ (List.mem_of_getElem? (i := 3) rfl)) (hw _ (List.mem_of_getElem? (i := 2) rfl)) (by decide) (by decide)) (g := (mkF m 30 #[.val (.int p0), .val (.int p1), .val (.int p2), .val (.int p3), .val (.int kk), .val (.int mm), .unset, .unset] [(.int kk)])) rfl (by rw [hml]; rfl) (argsL := [(.int kk)]) (rest := []) (lenOf pd_3 rfl) rfl (by show 2 * 0 + _ ≤ _; exact Nat.le_of_eq rfl) (hb hby at_30) (fun _ _ => ⟨rfl, e0, (by decide : 0 + 0 ≤ _), (by decide : 0 + 0 ≤ _)⟩)
      dsimp only [Pt.U, Pt.locs, Pt.cells, Pt.slots] at X53 l53 y53 z53 st53 hQ53
      subst l53 y53 z53
      obtain ⟨rfl, Nq53, eh53⟩ := hQ53
      have N54 := Fr.app N0 Nq53
      have pre53 : Rch p.tables e below (s₁.setTop (entryFrame m #[(.int p0), (.int p1), (.int p2), (.int p3)] maxLocals)) (T53.setTop (mkF m 33 #[.val (.int p0), .val (.int p1), .val (.int p2), .val (.int p3), .val (.int kk), .val (.int mm), .unset, .unset] [(.int (stv kk))])) := fun tgt ktg => pre52 tgt (st53 tgt ktg)
      have pre55 : Rch p.tables e below (s₁.setTop (entryFrame m #[(.int p0), (.int p1), (.int p2), (.int p3)] maxLocals)) (T53.setTop (mkF m 67 #[.val (.int p0), .val (.int p1), .val (.int p2), .val (.int p3), .val (.int kk), .val (.int mm), .val (.int (stv kk)), .unset] [])) := fun tgt ktg => pre53 tgt (by
        show Steps p.tables e below (T53.setTop (mkF m 33 #[.val (.int p0), .val (.int p1), .val (.int p2), .val (.int p3), .val (.int kk), .val (.int mm), .unset, .unset] [(.int (stv kk))])) _
        refine XS.istore X53.here hx rfl (hb hby at_33) rfl (l' := #[.val (.int p0), .val (.int p1), .val (.int p2), .val (.int p3), .val (.int kk), .val (.int mm), .val (.int (stv kk)), .unset]) rfl ?_
        show Steps p.tables e below (T53.setTop (mkF m 35 #[.val (.int p0), .val (.int p1), .val (.int p2), .val (.int p3), .val (.int kk), .val (.int mm), .val (.int (stv kk)), .unset] [])) _
        refine XS.goto X53.here hx rfl (pc0 := 35) (pc' := 67) rfl (hb hby at_35) (by decide) (by decide) ?_
        exact ktg)
      have pre56 : Rch p.tables e below (s₁.setTop (entryFrame m #[(.int p0), (.int p1), (.int p2), (.int p3)] maxLocals)) (T53.setTop (mkF m 70 #[.val (.int p0), .val (.int p1), .val (.int p2), .val (.int p3), .val (.int kk), .val (.int mm), .val (.int (stv kk)), .unset] [(.int (4 : Int32)), (.int kk)])) := fun tgt ktg => pre55 tgt (by
        show Steps p.tables e below (T53.setTop (mkF m 67 #[.val (.int p0), .val (.int p1), .val (.int p2), .val (.int p3), .val (.int kk), .val (.int mm), .val (.int (stv kk)), .unset] [])) _
        refine XS.iload X53.here hx rfl (hb hby at_67) rfl ?_
        show Steps p.tables e below (T53.setTop (mkF m 69 #[.val (.int p0), .val (.int p1), .val (.int p2), .val (.int p3), .val (.int kk), .val (.int mm), .val (.int (stv kk)), .unset] [(.int kk)])) _
        refine XS.iconst X53.here hx rfl (hb hby at_69) ?_
        exact ktg)
      by_cases c57 : kk = (4 : Int32)
      · skip
        have pre58 : Rch p.tables e below (s₁.setTop (entryFrame m #[(.int p0), (.int p1), (.int p2), (.int p3)] maxLocals)) (T53.setTop (mkF m 87 #[.val (.int p0), .val (.int p1), .val (.int p2), .val (.int p3), .val (.int kk), .val (.int mm), .val (.int (stv kk)), .unset] [])) := fun tgt ktg => pre56 tgt (by
          show Steps p.tables e below (T53.setTop (mkF m 70 #[.val (.int p0), .val (.int p1), .val (.int p2), .val (.int p3), .val (.int kk), .val (.int mm), .val (.int (stv kk)), .unset] [(.int (4 : Int32)), (.int kk)])) _
          refine XS.icmpYes X53.here hx rfl (pc0 := 70) (pc' := 87) rfl (hb hby at_70) rfl (teq c57).1 (by decide) (by decide) ?_
          exact ktg)
        have pre59 : Rch p.tables e below (s₁.setTop (entryFrame m #[(.int p0), (.int p1), (.int p2), (.int p3)] maxLocals)) (T53.setTop (mkF m 92 #[.val (.int p0), .val (.int p1), .val (.int p2), .val (.int p3), .val (.int kk), .val (.int mm), .val (.int (stv kk)), .val (.int (0 : Int32))] [(.int kk)])) := fun tgt ktg => pre58 tgt (by
          show Steps p.tables e below (T53.setTop (mkF m 87 #[.val (.int p0), .val (.int p1), .val (.int p2), .val (.int p3), .val (.int kk), .val (.int mm), .val (.int (stv kk)), .unset] [])) _
          refine XS.iconst X53.here hx rfl (hb hby at_87) ?_
          show Steps p.tables e below (T53.setTop (mkF m 88 #[.val (.int p0), .val (.int p1), .val (.int p2), .val (.int p3), .val (.int kk), .val (.int mm), .val (.int (stv kk)), .unset] [(.int (0 : Int32))])) _
          refine XS.istore X53.here hx rfl (hb hby at_88) rfl (l' := #[.val (.int p0), .val (.int p1), .val (.int p2), .val (.int p3), .val (.int kk), .val (.int mm), .val (.int (stv kk)), .val (.int (0 : Int32))]) rfl ?_
          show Steps p.tables e below (T53.setTop (mkF m 90 #[.val (.int p0), .val (.int p1), .val (.int p2), .val (.int p3), .val (.int kk), .val (.int mm), .val (.int (stv kk)), .val (.int (0 : Int32))] [])) _
          refine XS.iload X53.here hx rfl (hb hby at_90) rfl ?_
          exact ktg)
        obtain ⟨_, _, ⟨T60, L60, k60, n60⟩, -, X60, ⟨Lc60, hQ60, l60, y60, z60⟩, st60⟩ := Jvm.LawKit.callS X53 hx (y := (⟨"com/example/error_envelope/errorenvelope/BuiltInCodeStandsForPinLaw", "constant", "(I)Lcom/example/error_envelope/errorenvelope/BuiltInCode;"⟩ : MethodName)) hown (mvT hZ (hw _ (List.mem_of_getElem? (i := 4) rfl))) (mvT hZ (hw _ (List.mem_of_getElem? (i := 5) rfl))) (mvT hZ (hw _ (List.mem_of_getElem? (i := 2) rfl))) (mvT hZ (hw _ (List.mem_of_getElem? (i := 6) rfl))) (by decide) (backOf (W := 0) (rm2 l Z a0 hw [] kk W h0 n0 Z0 S0 S1 S2 S3 S4 S5 S6 S7) hZ (hw _ (List.mem_of_getElem? (i := 6) rfl)) (hw _ (List.mem_of_getElem? (i := 2) rfl)) (by decide) (by decide)) (g := (mkF m 92 #[.val (.int p0), .val (.int p1), .val (.int p2), .val (.int p3), .val (.int kk), .val (.int mm), .val (.int (stv kk)), .val (.int (0 : Int32))] [(.int kk)])) rfl (by rw [hml]; rfl) (argsL := [(.int kk)]) (rest := []) (lenOf pd_1 rfl) rfl (by show 2 * 0 + _ ≤ _; exact Nat.le_of_eq rfl) (hb hby at_92) (fun _ _ => ⟨rfl, eh53, (by decide : 0 + 0 ≤ _), (by decide : 0 + 0 ≤ _)⟩)
        dsimp only [Pt.U, Pt.locs, Pt.cells, Pt.slots] at X60 l60 y60 z60 st60 hQ60
        subst l60 y60 z60
        obtain ⟨rfl, Nq60, eh60⟩ := hQ60
        have N61 := Fr.app N54 Nq60
        have pre60 : Rch p.tables e below (s₁.setTop (entryFrame m #[(.int p0), (.int p1), (.int p2), (.int p3)] maxLocals)) (T60.setTop (mkF m 95 #[.val (.int p0), .val (.int p1), .val (.int p2), .val (.int p3), .val (.int kk), .val (.int mm), .val (.int (stv kk)), .val (.int (0 : Int32))] [(.ref (W (cl kk)))])) := fun tgt ktg => pre59 tgt (st60 tgt ktg)
        obtain ⟨bc, hv_bc⟩ : ∃ nm_ : Addr, nm_ = (W (cl kk)) := ⟨_, rfl⟩
        have pre62 : Rch p.tables e below (s₁.setTop (entryFrame m #[(.int p0), (.int p1), (.int p2), (.int p3)] maxLocals)) (T60.setTop (mkF m 95 #[.val (.int p0), .val (.int p1), .val (.int p2), .val (.int p3), .val (.int kk), .val (.int mm), .val (.int (stv kk)), .val (.int (0 : Int32))] [(.ref bc)])) := fun tgt ktg => pre60 tgt (by rw [hv_bc] at ktg; exact ktg)
        have hb4 : bc = W 4 := by rw [hv_bc, c57]; rfl
        have f63 : Exa Z h0 bc "com/example/error_envelope/errorenvelope/BuiltInCode" := hb4 ▸ H4.1
        have pre64 : Rch p.tables e below (s₁.setTop (entryFrame m #[(.int p0), (.int p1), (.int p2), (.int p3)] maxLocals)) (T60.setTop (mkF m 97 #[.val (.int p0), .val (.int p1), .val (.int p2), .val (.int p3), .val (.int kk), .val (.int mm), .val (.int (stv kk)), .val (.int (0 : Int32))] [(.int (stv kk)), (.ref bc)])) := fun tgt ktg => pre62 tgt (by
          show Steps p.tables e below (T60.setTop (mkF m 95 #[.val (.int p0), .val (.int p1), .val (.int p2), .val (.int p3), .val (.int kk), .val (.int mm), .val (.int (stv kk)), .val (.int (0 : Int32))] [(.ref bc)])) _
          refine XS.iload X60.here hx rfl (hb hby at_95) rfl ?_
          exact ktg)
        obtain ⟨cq65, kq65, q65a, q65b, q65c⟩ := isOf hZ eh60 f63
        obtain ⟨_, _, ⟨T65, L65, k65, n65⟩, -, X65, ⟨Lc65, hQ65, l65, y65, z65⟩, st65⟩ := X60.virtualBack hx (y := (⟨"com/example/error_envelope/errorenvelope/BuiltInCode", "standsFor", "(I)Z"⟩ : MethodName)) (z := (⟨"com/example/error_envelope/errorenvelope/BuiltInCode", "standsFor", "(I)Z"⟩ : MethodName)) hown (mvT hZ (hw _ (List.mem_of_getElem? (i := 10) rfl))) (mvT hZ (hw _ (List.mem_of_getElem? (i := 11) rfl))) (notFace_of_selects (args := #[]) (mvT hZ (hw _ (List.mem_of_getElem? (i := 13) rfl)))) (mvT hZ (hw _ (List.mem_of_getElem? (i := 13) rfl))) (mvT hZ (hw _ (List.mem_of_getElem? (i := 12) rfl))) (by decide) (backOf (W := 0) (rmF0 l Z a0 hw [] bc (stv kk) h0 n0 Z0 (hb4 ▸ H4.2)) hZ (hw _ (List.mem_of_getElem? (i := 14) rfl)) (hw _ (List.mem_of_getElem? (i := 8) rfl)) (by decide) (by decide)) q65a q65c (g := (mkF m 97 #[.val (.int p0), .val (.int p1), .val (.int p2), .val (.int p3), .val (.int kk), .val (.int mm), .val (.int (stv kk)), .val (.int (0 : Int32))] [(.int (stv kk)), (.ref bc)])) rfl (by rw [hml]; rfl) (Steps.refl _) (argsL := [(.int (stv kk))]) (rest := []) (lenOf pd_2 rfl) rfl (by show 2 * 0 + _ ≤ _; exact Nat.le_of_eq rfl) (hb hby at_97) (fun _ _ => ⟨rfl, eh60, (by decide : 0 + 0 ≤ _), (by decide : 0 + 0 ≤ _)⟩)
        dsimp only [Pt.U, Pt.locs, Pt.cells, Pt.slots] at X65 l65 y65 z65 st65 hQ65
        subst l65 y65 z65
        obtain ⟨rfl, Nq65, eh65⟩ := hQ65
        have N66 := Fr.app N61 Nq65
        have pre65 : Rch p.tables e below (s₁.setTop (entryFrame m #[(.int p0), (.int p1), (.int p2), (.int p3)] maxLocals)) (T65.setTop (mkF m 100 #[.val (.int p0), .val (.int p1), .val (.int p2), .val (.int p3), .val (.int kk), .val (.int mm), .val (.int (stv kk)), .val (.int (0 : Int32))] [(.int (0 : Int32))])) := fun tgt ktg => pre64 tgt (st65.trans ktg)
        have pre67 : Rch p.tables e below (s₁.setTop (entryFrame m #[(.int p0), (.int p1), (.int p2), (.int p3)] maxLocals)) (T65.setTop (mkF m 110 #[.val (.int p0), .val (.int p1), .val (.int p2), .val (.int p3), .val (.int kk), .val (.int mm), .val (.int (stv kk)), .val (.int (0 : Int32))] [(.int (1 : Int32))])) := fun tgt ktg => pre65 tgt (by
          show Steps p.tables e below (T65.setTop (mkF m 100 #[.val (.int p0), .val (.int p1), .val (.int p2), .val (.int p3), .val (.int kk), .val (.int mm), .val (.int (stv kk)), .val (.int (0 : Int32))] [(.int (0 : Int32))])) _
          refine XS.iload X65.here hx rfl (hb hby at_100) rfl ?_
          show Steps p.tables e below (T65.setTop (mkF m 102 #[.val (.int p0), .val (.int p1), .val (.int p2), .val (.int p3), .val (.int kk), .val (.int mm), .val (.int (stv kk)), .val (.int (0 : Int32))] [(.int (0 : Int32)), (.int (0 : Int32))])) _
          refine XS.icmpNo X65.here hx rfl (hb hby at_102) rfl (teq (rfl : (0 : Int32) = (0 : Int32))).2 ?_
          show Steps p.tables e below (T65.setTop (mkF m 105 #[.val (.int p0), .val (.int p1), .val (.int p2), .val (.int p3), .val (.int kk), .val (.int mm), .val (.int (stv kk)), .val (.int (0 : Int32))] [])) _
          refine XS.iconst X65.here hx rfl (hb hby at_105) ?_
          show Steps p.tables e below (T65.setTop (mkF m 106 #[.val (.int p0), .val (.int p1), .val (.int p2), .val (.int p3), .val (.int kk), .val (.int mm), .val (.int (stv kk)), .val (.int (0 : Int32))] [(.int (1 : Int32))])) _
          refine XS.goto X65.here hx rfl (pc0 := 106) (pc' := 110) rfl (hb hby at_106) (by decide) (by decide) ?_
          exact ktg)
        obtain ⟨fs, hr, hrun, hended, hW, hsame⟩ := X65.leave (v := some (.int (1 : Int32))) (fun h => by rw [Bd.returns] at h; cases h)
        refine ⟨_, _, pre67 _ ?_, hrun, hended, _, _, rfl, ?_, ⟨_, rfl⟩, hW, hsame.mono (by decide) (by decide)⟩
        · show Steps p.tables e below (T65.setTop (mkF m 110 #[.val (.int p0), .val (.int p1), .val (.int p2), .val (.int p3), .val (.int kk), .val (.int mm), .val (.int (stv kk)), .val (.int (0 : Int32))] [(.int (1 : Int32))])) _
          exact retN X65 hx (t := .boolean) Bd.returns (by simp) (hb hby at_110) hr
        · show Q0 Z p0 p1 p2 p3 h0 n0 _ T65.heap _
          rw [eh65]
          exact ⟨rfl, N66⟩
      · skip
        have pre68 : Rch p.tables e below (s₁.setTop (entryFrame m #[(.int p0), (.int p1), (.int p2), (.int p3)] maxLocals)) (T53.setTop (mkF m 73 #[.val (.int p0), .val (.int p1), .val (.int p2), .val (.int p3), .val (.int kk), .val (.int mm), .val (.int (stv kk)), .unset] [])) := fun tgt ktg => pre56 tgt (by
          show Steps p.tables e below (T53.setTop (mkF m 70 #[.val (.int p0), .val (.int p1), .val (.int p2), .val (.int p3), .val (.int kk), .val (.int mm), .val (.int (stv kk)), .unset] [(.int (4 : Int32)), (.int kk)])) _
          refine XS.icmpNo X53.here hx rfl (hb hby at_70) rfl (feq c57).1 ?_
          exact ktg)
        have pre69 : Rch p.tables e below (s₁.setTop (entryFrame m #[(.int p0), (.int p1), (.int p2), (.int p3)] maxLocals)) (T53.setTop (mkF m 77 #[.val (.int p0), .val (.int p1), .val (.int p2), .val (.int p3), .val (.int kk), .val (.int mm), .val (.int (stv kk)), .unset] [(.int kk), (.int (stv kk))])) := fun tgt ktg => pre68 tgt (by
          show Steps p.tables e below (T53.setTop (mkF m 73 #[.val (.int p0), .val (.int p1), .val (.int p2), .val (.int p3), .val (.int kk), .val (.int mm), .val (.int (stv kk)), .unset] [])) _
          refine XS.iload X53.here hx rfl (hb hby at_73) rfl ?_
          show Steps p.tables e below (T53.setTop (mkF m 75 #[.val (.int p0), .val (.int p1), .val (.int p2), .val (.int p3), .val (.int kk), .val (.int mm), .val (.int (stv kk)), .unset] [(.int (stv kk))])) _
          refine XS.iload X53.here hx rfl (hb hby at_75) rfl ?_
          exact ktg)
        obtain ⟨_, _, ⟨T70, L70, k70, n70⟩, -, X70, ⟨Lc70, hQ70, l70, y70, z70⟩, st70⟩ := Jvm.LawKit.callS X53 hx (y := (⟨"com/example/error_envelope/errorenvelope/BuiltInCodeStandsForPinLaw", "statusOf", "(I)I"⟩ : MethodName)) hown (mvT hZ (hw _ (List.mem_of_getElem? (i := 0) rfl))) (mvT hZ (hw _ (List.mem_of_getElem? (i := 1) rfl))) (mvT hZ (hw _ (List.mem_of_getElem? (i := 2) rfl))) (mvT hZ (hw _ (List.mem_of_getElem? (i := 3) rfl))) (by decide) (backOf (W := 1) (rm1 l Z a0 hw [] kk h0 n0 Z0) hZ (hw _ (List.mem_of_getElem? (i := 3) rfl)) (hw _ (List.mem_of_getElem? (i := 2) rfl)) (by decide) (by decide)) (g := (mkF m 77 #[.val (.int p0), .val (.int p1), .val (.int p2), .val (.int p3), .val (.int kk), .val (.int mm), .val (.int (stv kk)), .unset] [(.int kk), (.int (stv kk))])) rfl (by rw [hml]; rfl) (argsL := [(.int kk)]) (rest := [(.int (stv kk))]) (lenOf pd_3 rfl) rfl (by show 2 * 0 + _ ≤ _; exact Nat.le_of_eq rfl) (hb hby at_77) (fun _ _ => ⟨rfl, eh53, (by decide : 0 + 0 ≤ _), (by decide : 0 + 0 ≤ _)⟩)
        dsimp only [Pt.U, Pt.locs, Pt.cells, Pt.slots] at X70 l70 y70 z70 st70 hQ70
        subst l70 y70 z70
        obtain ⟨rfl, Nq70, eh70⟩ := hQ70
        have N71 := Fr.app N54 Nq70
        have pre70 : Rch p.tables e below (s₁.setTop (entryFrame m #[(.int p0), (.int p1), (.int p2), (.int p3)] maxLocals)) (T70.setTop (mkF m 80 #[.val (.int p0), .val (.int p1), .val (.int p2), .val (.int p3), .val (.int kk), .val (.int mm), .val (.int (stv kk)), .unset] [(.int (stv kk)), (.int (stv kk))])) := fun tgt ktg => pre69 tgt (st70 tgt ktg)
        have pre72 : Rch p.tables e below (s₁.setTop (entryFrame m #[(.int p0), (.int p1), (.int p2), (.int p3)] maxLocals)) (T70.setTop (mkF m 92 #[.val (.int p0), .val (.int p1), .val (.int p2), .val (.int p3), .val (.int kk), .val (.int mm), .val (.int (stv kk)), .val (.int (1 : Int32))] [(.int kk)])) := fun tgt ktg => pre70 tgt (by
          show Steps p.tables e below (T70.setTop (mkF m 80 #[.val (.int p0), .val (.int p1), .val (.int p2), .val (.int p3), .val (.int kk), .val (.int mm), .val (.int (stv kk)), .unset] [(.int (stv kk)), (.int (stv kk))])) _
          refine XS.icmpNo X70.here hx rfl (hb hby at_80) rfl (teq (rfl : (stv kk) = (stv kk))).2 ?_
          show Steps p.tables e below (T70.setTop (mkF m 83 #[.val (.int p0), .val (.int p1), .val (.int p2), .val (.int p3), .val (.int kk), .val (.int mm), .val (.int (stv kk)), .unset] [])) _
          refine XS.iconst X70.here hx rfl (hb hby at_83) ?_
          show Steps p.tables e below (T70.setTop (mkF m 84 #[.val (.int p0), .val (.int p1), .val (.int p2), .val (.int p3), .val (.int kk), .val (.int mm), .val (.int (stv kk)), .unset] [(.int (1 : Int32))])) _
          refine XS.goto X70.here hx rfl (pc0 := 84) (pc' := 88) rfl (hb hby at_84) (by decide) (by decide) ?_
          show Steps p.tables e below (T70.setTop (mkF m 88 #[.val (.int p0), .val (.int p1), .val (.int p2), .val (.int p3), .val (.int kk), .val (.int mm), .val (.int (stv kk)), .unset] [(.int (1 : Int32))])) _
          refine XS.istore X70.here hx rfl (hb hby at_88) rfl (l' := #[.val (.int p0), .val (.int p1), .val (.int p2), .val (.int p3), .val (.int kk), .val (.int mm), .val (.int (stv kk)), .val (.int (1 : Int32))]) rfl ?_
          show Steps p.tables e below (T70.setTop (mkF m 90 #[.val (.int p0), .val (.int p1), .val (.int p2), .val (.int p3), .val (.int kk), .val (.int mm), .val (.int (stv kk)), .val (.int (1 : Int32))] [])) _
          refine XS.iload X70.here hx rfl (hb hby at_90) rfl ?_
          exact ktg)
        obtain ⟨_, _, ⟨T73, L73, k73, n73⟩, -, X73, ⟨Lc73, hQ73, l73, y73, z73⟩, st73⟩ := Jvm.LawKit.callS X70 hx (y := (⟨"com/example/error_envelope/errorenvelope/BuiltInCodeStandsForPinLaw", "constant", "(I)Lcom/example/error_envelope/errorenvelope/BuiltInCode;"⟩ : MethodName)) hown (mvT hZ (hw _ (List.mem_of_getElem? (i := 4) rfl))) (mvT hZ (hw _ (List.mem_of_getElem? (i := 5) rfl))) (mvT hZ (hw _ (List.mem_of_getElem? (i := 2) rfl))) (mvT hZ (hw _ (List.mem_of_getElem? (i := 6) rfl))) (by decide) (backOf (W := 0) (rm2 l Z a0 hw [] kk W h0 n0 Z0 S0 S1 S2 S3 S4 S5 S6 S7) hZ (hw _ (List.mem_of_getElem? (i := 6) rfl)) (hw _ (List.mem_of_getElem? (i := 2) rfl)) (by decide) (by decide)) (g := (mkF m 92 #[.val (.int p0), .val (.int p1), .val (.int p2), .val (.int p3), .val (.int kk), .val (.int mm), .val (.int (stv kk)), .val (.int (1 : Int32))] [(.int kk)])) rfl (by rw [hml]; rfl) (argsL := [(.int kk)]) (rest := []) (lenOf pd_1 rfl) rfl (by show 2 * 0 + _ ≤ _; exact Nat.le_of_eq rfl) (hb hby at_92) (fun _ _ => ⟨rfl, eh70, (by decide : 0 + 0 ≤ _), (by decide : 0 + 0 ≤ _)⟩)
        dsimp only [Pt.U, Pt.locs, Pt.cells, Pt.slots] at X73 l73 y73 z73 st73 hQ73
        subst l73 y73 z73
        obtain ⟨rfl, Nq73, eh73⟩ := hQ73
        have N74 := Fr.app N71 Nq73
        have pre73 : Rch p.tables e below (s₁.setTop (entryFrame m #[(.int p0), (.int p1), (.int p2), (.int p3)] maxLocals)) (T73.setTop (mkF m 95 #[.val (.int p0), .val (.int p1), .val (.int p2), .val (.int p3), .val (.int kk), .val (.int mm), .val (.int (stv kk)), .val (.int (1 : Int32))] [(.ref (W (cl kk)))])) := fun tgt ktg => pre72 tgt (st73 tgt ktg)
        obtain ⟨b1, b2, b3, b4, b5⟩ := HB kk c57
        obtain ⟨bc, hv_bc⟩ : ∃ nm_ : Addr, nm_ = (W (cl kk)) := ⟨_, rfl⟩
        have pre75 : Rch p.tables e below (s₁.setTop (entryFrame m #[(.int p0), (.int p1), (.int p2), (.int p3)] maxLocals)) (T73.setTop (mkF m 95 #[.val (.int p0), .val (.int p1), .val (.int p2), .val (.int p3), .val (.int kk), .val (.int mm), .val (.int (stv kk)), .val (.int (1 : Int32))] [(.ref bc)])) := fun tgt ktg => pre73 tgt (by rw [hv_bc] at ktg; exact ktg)
        rw [← hv_bc] at b1 b2 b3
        have f76 : Exa Z h0 bc "com/example/error_envelope/errorenvelope/BuiltInCode" := b1
        have pre77 : Rch p.tables e below (s₁.setTop (entryFrame m #[(.int p0), (.int p1), (.int p2), (.int p3)] maxLocals)) (T73.setTop (mkF m 97 #[.val (.int p0), .val (.int p1), .val (.int p2), .val (.int p3), .val (.int kk), .val (.int mm), .val (.int (stv kk)), .val (.int (1 : Int32))] [(.int (stv kk)), (.ref bc)])) := fun tgt ktg => pre75 tgt (by
          show Steps p.tables e below (T73.setTop (mkF m 95 #[.val (.int p0), .val (.int p1), .val (.int p2), .val (.int p3), .val (.int kk), .val (.int mm), .val (.int (stv kk)), .val (.int (1 : Int32))] [(.ref bc)])) _
          refine XS.iload X73.here hx rfl (hb hby at_95) rfl ?_
          exact ktg)
        obtain ⟨cq78, kq78, q78a, q78b, q78c⟩ := isOf hZ eh73 f76
        obtain ⟨_, _, ⟨T78, L78, k78, n78⟩, -, X78, ⟨Lc78, hQ78, l78, y78, z78⟩, st78⟩ := X73.virtualBack hx (y := (⟨"com/example/error_envelope/errorenvelope/BuiltInCode", "standsFor", "(I)Z"⟩ : MethodName)) (z := (⟨"com/example/error_envelope/errorenvelope/BuiltInCode", "standsFor", "(I)Z"⟩ : MethodName)) hown (mvT hZ (hw _ (List.mem_of_getElem? (i := 10) rfl))) (mvT hZ (hw _ (List.mem_of_getElem? (i := 11) rfl))) (notFace_of_selects (args := #[]) (mvT hZ (hw _ (List.mem_of_getElem? (i := 13) rfl)))) (mvT hZ (hw _ (List.mem_of_getElem? (i := 13) rfl))) (mvT hZ (hw _ (List.mem_of_getElem? (i := 12) rfl))) (by decide) (backOf (W := 0) (rmF1 l Z a0 hw [] bc (stv kk) (De kk) (stv kk) h0 n0 Z0 b2 b3 b4 b5) hZ (hw _ (List.mem_of_getElem? (i := 14) rfl)) (hw _ (List.mem_of_getElem? (i := 8) rfl)) (by decide) (by decide)) q78a q78c (g := (mkF m 97 #[.val (.int p0), .val (.int p1), .val (.int p2), .val (.int p3), .val (.int kk), .val (.int mm), .val (.int (stv kk)), .val (.int (1 : Int32))] [(.int (stv kk)), (.ref bc)])) rfl (by rw [hml]; rfl) (Steps.refl _) (argsL := [(.int (stv kk))]) (rest := []) (lenOf pd_2 rfl) rfl (by show 2 * 0 + _ ≤ _; exact Nat.le_of_eq rfl) (hb hby at_97) (fun _ _ => ⟨rfl, eh73, (by decide : 0 + 0 ≤ _), (by decide : 0 + 0 ≤ _)⟩)
        dsimp only [Pt.U, Pt.locs, Pt.cells, Pt.slots] at X78 l78 y78 z78 st78 hQ78
        subst l78 y78 z78
        obtain ⟨rfl, Nq78, eh78⟩ := hQ78
        have N79 := Fr.app N74 Nq78
        have pre78 : Rch p.tables e below (s₁.setTop (entryFrame m #[(.int p0), (.int p1), (.int p2), (.int p3)] maxLocals)) (T78.setTop (mkF m 100 #[.val (.int p0), .val (.int p1), .val (.int p2), .val (.int p3), .val (.int kk), .val (.int mm), .val (.int (stv kk)), .val (.int (1 : Int32))] [(.int (if (stv kk) = (stv kk) then 1 else 0))])) := fun tgt ktg => pre77 tgt (st78.trans ktg)
        have pre80 : Rch p.tables e below (s₁.setTop (entryFrame m #[(.int p0), (.int p1), (.int p2), (.int p3)] maxLocals)) (T78.setTop (mkF m 102 #[.val (.int p0), .val (.int p1), .val (.int p2), .val (.int p3), .val (.int kk), .val (.int mm), .val (.int (stv kk)), .val (.int (1 : Int32))] [(.int (1 : Int32)), (.int (if (stv kk) = (stv kk) then 1 else 0))])) := fun tgt ktg => pre78 tgt (by
          show Steps p.tables e below (T78.setTop (mkF m 100 #[.val (.int p0), .val (.int p1), .val (.int p2), .val (.int p3), .val (.int kk), .val (.int mm), .val (.int (stv kk)), .val (.int (1 : Int32))] [(.int (if (stv kk) = (stv kk) then 1 else 0))])) _
          refine XS.iload X78.here hx rfl (hb hby at_100) rfl ?_
          exact ktg)
        have pre81 : Rch p.tables e below (s₁.setTop (entryFrame m #[(.int p0), (.int p1), (.int p2), (.int p3)] maxLocals)) (T78.setTop (mkF m 110 #[.val (.int p0), .val (.int p1), .val (.int p2), .val (.int p3), .val (.int kk), .val (.int mm), .val (.int (stv kk)), .val (.int (1 : Int32))] [(.int (1 : Int32))])) := fun tgt ktg => pre80 tgt (by
          show Steps p.tables e below (T78.setTop (mkF m 102 #[.val (.int p0), .val (.int p1), .val (.int p2), .val (.int p3), .val (.int kk), .val (.int mm), .val (.int (stv kk)), .val (.int (1 : Int32))] [(.int (1 : Int32)), (.int (if (stv kk) = (stv kk) then 1 else 0))])) _
          refine XS.icmpNo X78.here hx rfl (hb hby at_102) rfl (teq (by rw [if_pos (rfl : stv kk = stv kk).symm])).2 ?_
          show Steps p.tables e below (T78.setTop (mkF m 105 #[.val (.int p0), .val (.int p1), .val (.int p2), .val (.int p3), .val (.int kk), .val (.int mm), .val (.int (stv kk)), .val (.int (1 : Int32))] [])) _
          refine XS.iconst X78.here hx rfl (hb hby at_105) ?_
          show Steps p.tables e below (T78.setTop (mkF m 106 #[.val (.int p0), .val (.int p1), .val (.int p2), .val (.int p3), .val (.int kk), .val (.int mm), .val (.int (stv kk)), .val (.int (1 : Int32))] [(.int (1 : Int32))])) _
          refine XS.goto X78.here hx rfl (pc0 := 106) (pc' := 110) rfl (hb hby at_106) (by decide) (by decide) ?_
          exact ktg)
        obtain ⟨fs, hr, hrun, hended, hW, hsame⟩ := X78.leave (v := some (.int (1 : Int32))) (fun h => by rw [Bd.returns] at h; cases h)
        refine ⟨_, _, pre81 _ ?_, hrun, hended, _, _, rfl, ?_, ⟨_, rfl⟩, hW, hsame.mono (by decide) (by decide)⟩
        · show Steps p.tables e below (T78.setTop (mkF m 110 #[.val (.int p0), .val (.int p1), .val (.int p2), .val (.int p3), .val (.int kk), .val (.int mm), .val (.int (stv kk)), .val (.int (1 : Int32))] [(.int (1 : Int32))])) _
          exact retN X78 hx (t := .boolean) Bd.returns (by simp) (hb hby at_110) hr
        · show Q0 Z p0 p1 p2 p3 h0 n0 _ T78.heap _
          rw [eh78]
          exact ⟨rfl, N79⟩
    · skip
      have pre82 : Rch p.tables e below (s₁.setTop (entryFrame m #[(.int p0), (.int p1), (.int p2), (.int p3)] maxLocals)) (s₁.setTop (mkF m 38 #[.val (.int p0), .val (.int p1), .val (.int p2), .val (.int p3), .val (.int kk), .val (.int mm), .unset, .unset] [])) := fun tgt ktg => pre49 tgt (by
        show Steps p.tables e below (s₁.setTop (mkF m 25 #[.val (.int p0), .val (.int p1), .val (.int p2), .val (.int p3), .val (.int kk), .val (.int mm), .unset, .unset] [(.int (1 : Int32)), (.int mm)])) _
        refine XS.icmpYes X0.here hx rfl (pc0 := 25) (pc' := 38) rfl (hb hby at_25) rfl (feq c50).2 (by decide) (by decide) ?_
        exact ktg)
      have pre83 : Rch p.tables e below (s₁.setTop (entryFrame m #[(.int p0), (.int p1), (.int p2), (.int p3)] maxLocals)) (s₁.setTop (mkF m 41 #[.val (.int p0), .val (.int p1), .val (.int p2), .val (.int p3), .val (.int kk), .val (.int mm), .unset, .unset] [(.int (2 : Int32)), (.int mm)])) := fun tgt ktg => pre82 tgt (by
        show Steps p.tables e below (s₁.setTop (mkF m 38 #[.val (.int p0), .val (.int p1), .val (.int p2), .val (.int p3), .val (.int kk), .val (.int mm), .unset, .unset] [])) _
        refine XS.iload X0.here hx rfl (hb hby at_38) rfl ?_
        show Steps p.tables e below (s₁.setTop (mkF m 40 #[.val (.int p0), .val (.int p1), .val (.int p2), .val (.int p3), .val (.int kk), .val (.int mm), .unset, .unset] [(.int mm)])) _
        refine XS.iconst X0.here hx rfl (hb hby at_40) ?_
        exact ktg)
      by_cases c84 : mm = (2 : Int32)
      · skip
        have pre85 : Rch p.tables e below (s₁.setTop (entryFrame m #[(.int p0), (.int p1), (.int p2), (.int p3)] maxLocals)) (s₁.setTop (mkF m 44 #[.val (.int p0), .val (.int p1), .val (.int p2), .val (.int p3), .val (.int kk), .val (.int mm), .unset, .unset] [])) := fun tgt ktg => pre83 tgt (by
          show Steps p.tables e below (s₁.setTop (mkF m 41 #[.val (.int p0), .val (.int p1), .val (.int p2), .val (.int p3), .val (.int kk), .val (.int mm), .unset, .unset] [(.int (2 : Int32)), (.int mm)])) _
          refine XS.icmpNo X0.here hx rfl (hb hby at_41) rfl (teq c84).2 ?_
          exact ktg)
        have pre86 : Rch p.tables e below (s₁.setTop (entryFrame m #[(.int p0), (.int p1), (.int p2), (.int p3)] maxLocals)) (s₁.setTop (mkF m 67 #[.val (.int p0), .val (.int p1), .val (.int p2), .val (.int p3), .val (.int kk), .val (.int mm), .val (.int ((400 : Int32) + (p3 &&& (255 : Int32)))), .unset] [])) := fun tgt ktg => pre85 tgt (by
          show Steps p.tables e below (s₁.setTop (mkF m 44 #[.val (.int p0), .val (.int p1), .val (.int p2), .val (.int p3), .val (.int kk), .val (.int mm), .unset, .unset] [])) _
          refine XS.sipush X0.here hx rfl (hb hby at_44) ?_
          show Steps p.tables e below (s₁.setTop (mkF m 47 #[.val (.int p0), .val (.int p1), .val (.int p2), .val (.int p3), .val (.int kk), .val (.int mm), .unset, .unset] [(.int (400 : Int32))])) _
          refine XS.iloadN X0.here hx rfl (hb hby at_47) rfl ?_
          show Steps p.tables e below (s₁.setTop (mkF m 48 #[.val (.int p0), .val (.int p1), .val (.int p2), .val (.int p3), .val (.int kk), .val (.int mm), .unset, .unset] [(.int p3), (.int (400 : Int32))])) _
          refine XS.sipush X0.here hx rfl (hb hby at_48) ?_
          show Steps p.tables e below (s₁.setTop (mkF m 51 #[.val (.int p0), .val (.int p1), .val (.int p2), .val (.int p3), .val (.int kk), .val (.int mm), .unset, .unset] [(.int (255 : Int32)), (.int p3), (.int (400 : Int32))])) _
          refine XS.iand X0.here hx rfl (hb hby at_51) rfl ?_
          show Steps p.tables e below (s₁.setTop (mkF m 52 #[.val (.int p0), .val (.int p1), .val (.int p2), .val (.int p3), .val (.int kk), .val (.int mm), .unset, .unset] [(.int (p3 &&& (255 : Int32))), (.int (400 : Int32))])) _
          refine XS.iadd X0.here hx rfl (hb hby at_52) rfl ?_
          show Steps p.tables e below (s₁.setTop (mkF m 53 #[.val (.int p0), .val (.int p1), .val (.int p2), .val (.int p3), .val (.int kk), .val (.int mm), .unset, .unset] [(.int ((400 : Int32) + (p3 &&& (255 : Int32))))])) _
          refine XS.istore X0.here hx rfl (hb hby at_53) rfl (l' := #[.val (.int p0), .val (.int p1), .val (.int p2), .val (.int p3), .val (.int kk), .val (.int mm), .val (.int ((400 : Int32) + (p3 &&& (255 : Int32)))), .unset]) rfl ?_
          show Steps p.tables e below (s₁.setTop (mkF m 55 #[.val (.int p0), .val (.int p1), .val (.int p2), .val (.int p3), .val (.int kk), .val (.int mm), .val (.int ((400 : Int32) + (p3 &&& (255 : Int32)))), .unset] [])) _
          refine XS.goto X0.here hx rfl (pc0 := 55) (pc' := 67) rfl (hb hby at_55) (by decide) (by decide) ?_
          exact ktg)
        have pre87 : Rch p.tables e below (s₁.setTop (entryFrame m #[(.int p0), (.int p1), (.int p2), (.int p3)] maxLocals)) (s₁.setTop (mkF m 70 #[.val (.int p0), .val (.int p1), .val (.int p2), .val (.int p3), .val (.int kk), .val (.int mm), .val (.int ((400 : Int32) + (p3 &&& (255 : Int32)))), .unset] [(.int (4 : Int32)), (.int kk)])) := fun tgt ktg => pre86 tgt (by
          show Steps p.tables e below (s₁.setTop (mkF m 67 #[.val (.int p0), .val (.int p1), .val (.int p2), .val (.int p3), .val (.int kk), .val (.int mm), .val (.int ((400 : Int32) + (p3 &&& (255 : Int32)))), .unset] [])) _
          refine XS.iload X0.here hx rfl (hb hby at_67) rfl ?_
          show Steps p.tables e below (s₁.setTop (mkF m 69 #[.val (.int p0), .val (.int p1), .val (.int p2), .val (.int p3), .val (.int kk), .val (.int mm), .val (.int ((400 : Int32) + (p3 &&& (255 : Int32)))), .unset] [(.int kk)])) _
          refine XS.iconst X0.here hx rfl (hb hby at_69) ?_
          exact ktg)
        by_cases c88 : kk = (4 : Int32)
        · skip
          have pre89 : Rch p.tables e below (s₁.setTop (entryFrame m #[(.int p0), (.int p1), (.int p2), (.int p3)] maxLocals)) (s₁.setTop (mkF m 87 #[.val (.int p0), .val (.int p1), .val (.int p2), .val (.int p3), .val (.int kk), .val (.int mm), .val (.int ((400 : Int32) + (p3 &&& (255 : Int32)))), .unset] [])) := fun tgt ktg => pre87 tgt (by
            show Steps p.tables e below (s₁.setTop (mkF m 70 #[.val (.int p0), .val (.int p1), .val (.int p2), .val (.int p3), .val (.int kk), .val (.int mm), .val (.int ((400 : Int32) + (p3 &&& (255 : Int32)))), .unset] [(.int (4 : Int32)), (.int kk)])) _
            refine XS.icmpYes X0.here hx rfl (pc0 := 70) (pc' := 87) rfl (hb hby at_70) rfl (teq c88).1 (by decide) (by decide) ?_
            exact ktg)
          have pre90 : Rch p.tables e below (s₁.setTop (entryFrame m #[(.int p0), (.int p1), (.int p2), (.int p3)] maxLocals)) (s₁.setTop (mkF m 92 #[.val (.int p0), .val (.int p1), .val (.int p2), .val (.int p3), .val (.int kk), .val (.int mm), .val (.int ((400 : Int32) + (p3 &&& (255 : Int32)))), .val (.int (0 : Int32))] [(.int kk)])) := fun tgt ktg => pre89 tgt (by
            show Steps p.tables e below (s₁.setTop (mkF m 87 #[.val (.int p0), .val (.int p1), .val (.int p2), .val (.int p3), .val (.int kk), .val (.int mm), .val (.int ((400 : Int32) + (p3 &&& (255 : Int32)))), .unset] [])) _
            refine XS.iconst X0.here hx rfl (hb hby at_87) ?_
            show Steps p.tables e below (s₁.setTop (mkF m 88 #[.val (.int p0), .val (.int p1), .val (.int p2), .val (.int p3), .val (.int kk), .val (.int mm), .val (.int ((400 : Int32) + (p3 &&& (255 : Int32)))), .unset] [(.int (0 : Int32))])) _
            refine XS.istore X0.here hx rfl (hb hby at_88) rfl (l' := #[.val (.int p0), .val (.int p1), .val (.int p2), .val (.int p3), .val (.int kk), .val (.int mm), .val (.int ((400 : Int32) + (p3 &&& (255 : Int32)))), .val (.int (0 : Int32))]) rfl ?_
            show Steps p.tables e below (s₁.setTop (mkF m 90 #[.val (.int p0), .val (.int p1), .val (.int p2), .val (.int p3), .val (.int kk), .val (.int mm), .val (.int ((400 : Int32) + (p3 &&& (255 : Int32)))), .val (.int (0 : Int32))] [])) _
            refine XS.iload X0.here hx rfl (hb hby at_90) rfl ?_
            exact ktg)
          obtain ⟨_, _, ⟨T91, L91, k91, n91⟩, -, X91, ⟨Lc91, hQ91, l91, y91, z91⟩, st91⟩ := Jvm.LawKit.callS X0 hx (y := (⟨"com/example/error_envelope/errorenvelope/BuiltInCodeStandsForPinLaw", "constant", "(I)Lcom/example/error_envelope/errorenvelope/BuiltInCode;"⟩ : MethodName)) hown (mvT hZ (hw _ (List.mem_of_getElem? (i := 4) rfl))) (mvT hZ (hw _ (List.mem_of_getElem? (i := 5) rfl))) (mvT hZ (hw _ (List.mem_of_getElem? (i := 2) rfl))) (mvT hZ (hw _ (List.mem_of_getElem? (i := 6) rfl))) (by decide) (backOf (W := 0) (rm2 l Z a0 hw [] kk W h0 n0 Z0 S0 S1 S2 S3 S4 S5 S6 S7) hZ (hw _ (List.mem_of_getElem? (i := 6) rfl)) (hw _ (List.mem_of_getElem? (i := 2) rfl)) (by decide) (by decide)) (g := (mkF m 92 #[.val (.int p0), .val (.int p1), .val (.int p2), .val (.int p3), .val (.int kk), .val (.int mm), .val (.int ((400 : Int32) + (p3 &&& (255 : Int32)))), .val (.int (0 : Int32))] [(.int kk)])) rfl (by rw [hml]; rfl) (argsL := [(.int kk)]) (rest := []) (lenOf pd_1 rfl) rfl (by show 2 * 0 + _ ≤ _; exact Nat.le_of_eq rfl) (hb hby at_92) (fun _ _ => ⟨rfl, e0, (by decide : 0 + 0 ≤ _), (by decide : 0 + 0 ≤ _)⟩)
          dsimp only [Pt.U, Pt.locs, Pt.cells, Pt.slots] at X91 l91 y91 z91 st91 hQ91
          subst l91 y91 z91
          obtain ⟨rfl, Nq91, eh91⟩ := hQ91
          have N92 := Fr.app N0 Nq91
          have pre91 : Rch p.tables e below (s₁.setTop (entryFrame m #[(.int p0), (.int p1), (.int p2), (.int p3)] maxLocals)) (T91.setTop (mkF m 95 #[.val (.int p0), .val (.int p1), .val (.int p2), .val (.int p3), .val (.int kk), .val (.int mm), .val (.int ((400 : Int32) + (p3 &&& (255 : Int32)))), .val (.int (0 : Int32))] [(.ref (W (cl kk)))])) := fun tgt ktg => pre90 tgt (st91 tgt ktg)
          obtain ⟨bc, hv_bc⟩ : ∃ nm_ : Addr, nm_ = (W (cl kk)) := ⟨_, rfl⟩
          have pre93 : Rch p.tables e below (s₁.setTop (entryFrame m #[(.int p0), (.int p1), (.int p2), (.int p3)] maxLocals)) (T91.setTop (mkF m 95 #[.val (.int p0), .val (.int p1), .val (.int p2), .val (.int p3), .val (.int kk), .val (.int mm), .val (.int ((400 : Int32) + (p3 &&& (255 : Int32)))), .val (.int (0 : Int32))] [(.ref bc)])) := fun tgt ktg => pre91 tgt (by rw [hv_bc] at ktg; exact ktg)
          have hb4 : bc = W 4 := by rw [hv_bc, c88]; rfl
          have f94 : Exa Z h0 bc "com/example/error_envelope/errorenvelope/BuiltInCode" := hb4 ▸ H4.1
          have pre95 : Rch p.tables e below (s₁.setTop (entryFrame m #[(.int p0), (.int p1), (.int p2), (.int p3)] maxLocals)) (T91.setTop (mkF m 97 #[.val (.int p0), .val (.int p1), .val (.int p2), .val (.int p3), .val (.int kk), .val (.int mm), .val (.int ((400 : Int32) + (p3 &&& (255 : Int32)))), .val (.int (0 : Int32))] [(.int ((400 : Int32) + (p3 &&& (255 : Int32)))), (.ref bc)])) := fun tgt ktg => pre93 tgt (by
            show Steps p.tables e below (T91.setTop (mkF m 95 #[.val (.int p0), .val (.int p1), .val (.int p2), .val (.int p3), .val (.int kk), .val (.int mm), .val (.int ((400 : Int32) + (p3 &&& (255 : Int32)))), .val (.int (0 : Int32))] [(.ref bc)])) _
            refine XS.iload X91.here hx rfl (hb hby at_95) rfl ?_
            exact ktg)
          obtain ⟨cq96, kq96, q96a, q96b, q96c⟩ := isOf hZ eh91 f94
          obtain ⟨_, _, ⟨T96, L96, k96, n96⟩, -, X96, ⟨Lc96, hQ96, l96, y96, z96⟩, st96⟩ := X91.virtualBack hx (y := (⟨"com/example/error_envelope/errorenvelope/BuiltInCode", "standsFor", "(I)Z"⟩ : MethodName)) (z := (⟨"com/example/error_envelope/errorenvelope/BuiltInCode", "standsFor", "(I)Z"⟩ : MethodName)) hown (mvT hZ (hw _ (List.mem_of_getElem? (i := 10) rfl))) (mvT hZ (hw _ (List.mem_of_getElem? (i := 11) rfl))) (notFace_of_selects (args := #[]) (mvT hZ (hw _ (List.mem_of_getElem? (i := 13) rfl)))) (mvT hZ (hw _ (List.mem_of_getElem? (i := 13) rfl))) (mvT hZ (hw _ (List.mem_of_getElem? (i := 12) rfl))) (by decide) (backOf (W := 0) (rmF0 l Z a0 hw [] bc ((400 : Int32) + (p3 &&& (255 : Int32))) h0 n0 Z0 (hb4 ▸ H4.2)) hZ (hw _ (List.mem_of_getElem? (i := 14) rfl)) (hw _ (List.mem_of_getElem? (i := 8) rfl)) (by decide) (by decide)) q96a q96c (g := (mkF m 97 #[.val (.int p0), .val (.int p1), .val (.int p2), .val (.int p3), .val (.int kk), .val (.int mm), .val (.int ((400 : Int32) + (p3 &&& (255 : Int32)))), .val (.int (0 : Int32))] [(.int ((400 : Int32) + (p3 &&& (255 : Int32)))), (.ref bc)])) rfl (by rw [hml]; rfl) (Steps.refl _) (argsL := [(.int ((400 : Int32) + (p3 &&& (255 : Int32))))]) (rest := []) (lenOf pd_2 rfl) rfl (by show 2 * 0 + _ ≤ _; exact Nat.le_of_eq rfl) (hb hby at_97) (fun _ _ => ⟨rfl, eh91, (by decide : 0 + 0 ≤ _), (by decide : 0 + 0 ≤ _)⟩)
          dsimp only [Pt.U, Pt.locs, Pt.cells, Pt.slots] at X96 l96 y96 z96 st96 hQ96
          subst l96 y96 z96
          obtain ⟨rfl, Nq96, eh96⟩ := hQ96
          have N97 := Fr.app N92 Nq96
          have pre96 : Rch p.tables e below (s₁.setTop (entryFrame m #[(.int p0), (.int p1), (.int p2), (.int p3)] maxLocals)) (T96.setTop (mkF m 100 #[.val (.int p0), .val (.int p1), .val (.int p2), .val (.int p3), .val (.int kk), .val (.int mm), .val (.int ((400 : Int32) + (p3 &&& (255 : Int32)))), .val (.int (0 : Int32))] [(.int (0 : Int32))])) := fun tgt ktg => pre95 tgt (st96.trans ktg)
          have pre98 : Rch p.tables e below (s₁.setTop (entryFrame m #[(.int p0), (.int p1), (.int p2), (.int p3)] maxLocals)) (T96.setTop (mkF m 110 #[.val (.int p0), .val (.int p1), .val (.int p2), .val (.int p3), .val (.int kk), .val (.int mm), .val (.int ((400 : Int32) + (p3 &&& (255 : Int32)))), .val (.int (0 : Int32))] [(.int (1 : Int32))])) := fun tgt ktg => pre96 tgt (by
            show Steps p.tables e below (T96.setTop (mkF m 100 #[.val (.int p0), .val (.int p1), .val (.int p2), .val (.int p3), .val (.int kk), .val (.int mm), .val (.int ((400 : Int32) + (p3 &&& (255 : Int32)))), .val (.int (0 : Int32))] [(.int (0 : Int32))])) _
            refine XS.iload X96.here hx rfl (hb hby at_100) rfl ?_
            show Steps p.tables e below (T96.setTop (mkF m 102 #[.val (.int p0), .val (.int p1), .val (.int p2), .val (.int p3), .val (.int kk), .val (.int mm), .val (.int ((400 : Int32) + (p3 &&& (255 : Int32)))), .val (.int (0 : Int32))] [(.int (0 : Int32)), (.int (0 : Int32))])) _
            refine XS.icmpNo X96.here hx rfl (hb hby at_102) rfl (teq (rfl : (0 : Int32) = (0 : Int32))).2 ?_
            show Steps p.tables e below (T96.setTop (mkF m 105 #[.val (.int p0), .val (.int p1), .val (.int p2), .val (.int p3), .val (.int kk), .val (.int mm), .val (.int ((400 : Int32) + (p3 &&& (255 : Int32)))), .val (.int (0 : Int32))] [])) _
            refine XS.iconst X96.here hx rfl (hb hby at_105) ?_
            show Steps p.tables e below (T96.setTop (mkF m 106 #[.val (.int p0), .val (.int p1), .val (.int p2), .val (.int p3), .val (.int kk), .val (.int mm), .val (.int ((400 : Int32) + (p3 &&& (255 : Int32)))), .val (.int (0 : Int32))] [(.int (1 : Int32))])) _
            refine XS.goto X96.here hx rfl (pc0 := 106) (pc' := 110) rfl (hb hby at_106) (by decide) (by decide) ?_
            exact ktg)
          obtain ⟨fs, hr, hrun, hended, hW, hsame⟩ := X96.leave (v := some (.int (1 : Int32))) (fun h => by rw [Bd.returns] at h; cases h)
          refine ⟨_, _, pre98 _ ?_, hrun, hended, _, _, rfl, ?_, ⟨_, rfl⟩, hW, hsame.mono (by decide) (by decide)⟩
          · show Steps p.tables e below (T96.setTop (mkF m 110 #[.val (.int p0), .val (.int p1), .val (.int p2), .val (.int p3), .val (.int kk), .val (.int mm), .val (.int ((400 : Int32) + (p3 &&& (255 : Int32)))), .val (.int (0 : Int32))] [(.int (1 : Int32))])) _
            exact retN X96 hx (t := .boolean) Bd.returns (by simp) (hb hby at_110) hr
          · show Q0 Z p0 p1 p2 p3 h0 n0 _ T96.heap _
            rw [eh96]
            exact ⟨rfl, N97⟩
        · skip
          have pre99 : Rch p.tables e below (s₁.setTop (entryFrame m #[(.int p0), (.int p1), (.int p2), (.int p3)] maxLocals)) (s₁.setTop (mkF m 73 #[.val (.int p0), .val (.int p1), .val (.int p2), .val (.int p3), .val (.int kk), .val (.int mm), .val (.int ((400 : Int32) + (p3 &&& (255 : Int32)))), .unset] [])) := fun tgt ktg => pre87 tgt (by
            show Steps p.tables e below (s₁.setTop (mkF m 70 #[.val (.int p0), .val (.int p1), .val (.int p2), .val (.int p3), .val (.int kk), .val (.int mm), .val (.int ((400 : Int32) + (p3 &&& (255 : Int32)))), .unset] [(.int (4 : Int32)), (.int kk)])) _
            refine XS.icmpNo X0.here hx rfl (hb hby at_70) rfl (feq c88).1 ?_
            exact ktg)
          have pre100 : Rch p.tables e below (s₁.setTop (entryFrame m #[(.int p0), (.int p1), (.int p2), (.int p3)] maxLocals)) (s₁.setTop (mkF m 77 #[.val (.int p0), .val (.int p1), .val (.int p2), .val (.int p3), .val (.int kk), .val (.int mm), .val (.int ((400 : Int32) + (p3 &&& (255 : Int32)))), .unset] [(.int kk), (.int ((400 : Int32) + (p3 &&& (255 : Int32))))])) := fun tgt ktg => pre99 tgt (by
            show Steps p.tables e below (s₁.setTop (mkF m 73 #[.val (.int p0), .val (.int p1), .val (.int p2), .val (.int p3), .val (.int kk), .val (.int mm), .val (.int ((400 : Int32) + (p3 &&& (255 : Int32)))), .unset] [])) _
            refine XS.iload X0.here hx rfl (hb hby at_73) rfl ?_
            show Steps p.tables e below (s₁.setTop (mkF m 75 #[.val (.int p0), .val (.int p1), .val (.int p2), .val (.int p3), .val (.int kk), .val (.int mm), .val (.int ((400 : Int32) + (p3 &&& (255 : Int32)))), .unset] [(.int ((400 : Int32) + (p3 &&& (255 : Int32))))])) _
            refine XS.iload X0.here hx rfl (hb hby at_75) rfl ?_
            exact ktg)
          obtain ⟨_, _, ⟨T101, L101, k101, n101⟩, -, X101, ⟨Lc101, hQ101, l101, y101, z101⟩, st101⟩ := Jvm.LawKit.callS X0 hx (y := (⟨"com/example/error_envelope/errorenvelope/BuiltInCodeStandsForPinLaw", "statusOf", "(I)I"⟩ : MethodName)) hown (mvT hZ (hw _ (List.mem_of_getElem? (i := 0) rfl))) (mvT hZ (hw _ (List.mem_of_getElem? (i := 1) rfl))) (mvT hZ (hw _ (List.mem_of_getElem? (i := 2) rfl))) (mvT hZ (hw _ (List.mem_of_getElem? (i := 3) rfl))) (by decide) (backOf (W := 1) (rm1 l Z a0 hw [] kk h0 n0 Z0) hZ (hw _ (List.mem_of_getElem? (i := 3) rfl)) (hw _ (List.mem_of_getElem? (i := 2) rfl)) (by decide) (by decide)) (g := (mkF m 77 #[.val (.int p0), .val (.int p1), .val (.int p2), .val (.int p3), .val (.int kk), .val (.int mm), .val (.int ((400 : Int32) + (p3 &&& (255 : Int32)))), .unset] [(.int kk), (.int ((400 : Int32) + (p3 &&& (255 : Int32))))])) rfl (by rw [hml]; rfl) (argsL := [(.int kk)]) (rest := [(.int ((400 : Int32) + (p3 &&& (255 : Int32))))]) (lenOf pd_3 rfl) rfl (by show 2 * 0 + _ ≤ _; exact Nat.le_of_eq rfl) (hb hby at_77) (fun _ _ => ⟨rfl, e0, (by decide : 0 + 0 ≤ _), (by decide : 0 + 0 ≤ _)⟩)
          dsimp only [Pt.U, Pt.locs, Pt.cells, Pt.slots] at X101 l101 y101 z101 st101 hQ101
          subst l101 y101 z101
          obtain ⟨rfl, Nq101, eh101⟩ := hQ101
          have N102 := Fr.app N0 Nq101
          have pre101 : Rch p.tables e below (s₁.setTop (entryFrame m #[(.int p0), (.int p1), (.int p2), (.int p3)] maxLocals)) (T101.setTop (mkF m 80 #[.val (.int p0), .val (.int p1), .val (.int p2), .val (.int p3), .val (.int kk), .val (.int mm), .val (.int ((400 : Int32) + (p3 &&& (255 : Int32)))), .unset] [(.int (stv kk)), (.int ((400 : Int32) + (p3 &&& (255 : Int32))))])) := fun tgt ktg => pre100 tgt (st101 tgt ktg)
          by_cases c103 : ((400 : Int32) + (p3 &&& (255 : Int32))) = (stv kk)
          · skip
            have pre104 : Rch p.tables e below (s₁.setTop (entryFrame m #[(.int p0), (.int p1), (.int p2), (.int p3)] maxLocals)) (T101.setTop (mkF m 83 #[.val (.int p0), .val (.int p1), .val (.int p2), .val (.int p3), .val (.int kk), .val (.int mm), .val (.int ((400 : Int32) + (p3 &&& (255 : Int32)))), .unset] [])) := fun tgt ktg => pre101 tgt (by
              show Steps p.tables e below (T101.setTop (mkF m 80 #[.val (.int p0), .val (.int p1), .val (.int p2), .val (.int p3), .val (.int kk), .val (.int mm), .val (.int ((400 : Int32) + (p3 &&& (255 : Int32)))), .unset] [(.int (stv kk)), (.int ((400 : Int32) + (p3 &&& (255 : Int32))))])) _
              refine XS.icmpNo X101.here hx rfl (hb hby at_80) rfl (teq c103).2 ?_
              exact ktg)
            have pre105 : Rch p.tables e below (s₁.setTop (entryFrame m #[(.int p0), (.int p1), (.int p2), (.int p3)] maxLocals)) (T101.setTop (mkF m 92 #[.val (.int p0), .val (.int p1), .val (.int p2), .val (.int p3), .val (.int kk), .val (.int mm), .val (.int ((400 : Int32) + (p3 &&& (255 : Int32)))), .val (.int (1 : Int32))] [(.int kk)])) := fun tgt ktg => pre104 tgt (by
              show Steps p.tables e below (T101.setTop (mkF m 83 #[.val (.int p0), .val (.int p1), .val (.int p2), .val (.int p3), .val (.int kk), .val (.int mm), .val (.int ((400 : Int32) + (p3 &&& (255 : Int32)))), .unset] [])) _
              refine XS.iconst X101.here hx rfl (hb hby at_83) ?_
              show Steps p.tables e below (T101.setTop (mkF m 84 #[.val (.int p0), .val (.int p1), .val (.int p2), .val (.int p3), .val (.int kk), .val (.int mm), .val (.int ((400 : Int32) + (p3 &&& (255 : Int32)))), .unset] [(.int (1 : Int32))])) _
              refine XS.goto X101.here hx rfl (pc0 := 84) (pc' := 88) rfl (hb hby at_84) (by decide) (by decide) ?_
              show Steps p.tables e below (T101.setTop (mkF m 88 #[.val (.int p0), .val (.int p1), .val (.int p2), .val (.int p3), .val (.int kk), .val (.int mm), .val (.int ((400 : Int32) + (p3 &&& (255 : Int32)))), .unset] [(.int (1 : Int32))])) _
              refine XS.istore X101.here hx rfl (hb hby at_88) rfl (l' := #[.val (.int p0), .val (.int p1), .val (.int p2), .val (.int p3), .val (.int kk), .val (.int mm), .val (.int ((400 : Int32) + (p3 &&& (255 : Int32)))), .val (.int (1 : Int32))]) rfl ?_
              show Steps p.tables e below (T101.setTop (mkF m 90 #[.val (.int p0), .val (.int p1), .val (.int p2), .val (.int p3), .val (.int kk), .val (.int mm), .val (.int ((400 : Int32) + (p3 &&& (255 : Int32)))), .val (.int (1 : Int32))] [])) _
              refine XS.iload X101.here hx rfl (hb hby at_90) rfl ?_
              exact ktg)
            obtain ⟨_, _, ⟨T106, L106, k106, n106⟩, -, X106, ⟨Lc106, hQ106, l106, y106, z106⟩, st106⟩ := Jvm.LawKit.callS X101 hx (y := (⟨"com/example/error_envelope/errorenvelope/BuiltInCodeStandsForPinLaw", "constant", "(I)Lcom/example/error_envelope/errorenvelope/BuiltInCode;"⟩ : MethodName)) hown (mvT hZ (hw _ (List.mem_of_getElem? (i := 4) rfl))) (mvT hZ (hw _ (List.mem_of_getElem? (i := 5) rfl))) (mvT hZ (hw _ (List.mem_of_getElem? (i := 2) rfl))) (mvT hZ (hw _ (List.mem_of_getElem? (i := 6) rfl))) (by decide) (backOf (W := 0) (rm2 l Z a0 hw [] kk W h0 n0 Z0 S0 S1 S2 S3 S4 S5 S6 S7) hZ (hw _ (List.mem_of_getElem? (i := 6) rfl)) (hw _ (List.mem_of_getElem? (i := 2) rfl)) (by decide) (by decide)) (g := (mkF m 92 #[.val (.int p0), .val (.int p1), .val (.int p2), .val (.int p3), .val (.int kk), .val (.int mm), .val (.int ((400 : Int32) + (p3 &&& (255 : Int32)))), .val (.int (1 : Int32))] [(.int kk)])) rfl (by rw [hml]; rfl) (argsL := [(.int kk)]) (rest := []) (lenOf pd_1 rfl) rfl (by show 2 * 0 + _ ≤ _; exact Nat.le_of_eq rfl) (hb hby at_92) (fun _ _ => ⟨rfl, eh101, (by decide : 0 + 0 ≤ _), (by decide : 0 + 0 ≤ _)⟩)
            dsimp only [Pt.U, Pt.locs, Pt.cells, Pt.slots] at X106 l106 y106 z106 st106 hQ106
            subst l106 y106 z106
            obtain ⟨rfl, Nq106, eh106⟩ := hQ106
            have N107 := Fr.app N102 Nq106
            have pre106 : Rch p.tables e below (s₁.setTop (entryFrame m #[(.int p0), (.int p1), (.int p2), (.int p3)] maxLocals)) (T106.setTop (mkF m 95 #[.val (.int p0), .val (.int p1), .val (.int p2), .val (.int p3), .val (.int kk), .val (.int mm), .val (.int ((400 : Int32) + (p3 &&& (255 : Int32)))), .val (.int (1 : Int32))] [(.ref (W (cl kk)))])) := fun tgt ktg => pre105 tgt (st106 tgt ktg)
            obtain ⟨b1, b2, b3, b4, b5⟩ := HB kk c88
            obtain ⟨bc, hv_bc⟩ : ∃ nm_ : Addr, nm_ = (W (cl kk)) := ⟨_, rfl⟩
            have pre108 : Rch p.tables e below (s₁.setTop (entryFrame m #[(.int p0), (.int p1), (.int p2), (.int p3)] maxLocals)) (T106.setTop (mkF m 95 #[.val (.int p0), .val (.int p1), .val (.int p2), .val (.int p3), .val (.int kk), .val (.int mm), .val (.int ((400 : Int32) + (p3 &&& (255 : Int32)))), .val (.int (1 : Int32))] [(.ref bc)])) := fun tgt ktg => pre106 tgt (by rw [hv_bc] at ktg; exact ktg)
            rw [← hv_bc] at b1 b2 b3
            have f109 : Exa Z h0 bc "com/example/error_envelope/errorenvelope/BuiltInCode" := b1
            have pre110 : Rch p.tables e below (s₁.setTop (entryFrame m #[(.int p0), (.int p1), (.int p2), (.int p3)] maxLocals)) (T106.setTop (mkF m 97 #[.val (.int p0), .val (.int p1), .val (.int p2), .val (.int p3), .val (.int kk), .val (.int mm), .val (.int ((400 : Int32) + (p3 &&& (255 : Int32)))), .val (.int (1 : Int32))] [(.int ((400 : Int32) + (p3 &&& (255 : Int32)))), (.ref bc)])) := fun tgt ktg => pre108 tgt (by
              show Steps p.tables e below (T106.setTop (mkF m 95 #[.val (.int p0), .val (.int p1), .val (.int p2), .val (.int p3), .val (.int kk), .val (.int mm), .val (.int ((400 : Int32) + (p3 &&& (255 : Int32)))), .val (.int (1 : Int32))] [(.ref bc)])) _
              refine XS.iload X106.here hx rfl (hb hby at_95) rfl ?_
              exact ktg)
            obtain ⟨cq111, kq111, q111a, q111b, q111c⟩ := isOf hZ eh106 f109
            obtain ⟨_, _, ⟨T111, L111, k111, n111⟩, -, X111, ⟨Lc111, hQ111, l111, y111, z111⟩, st111⟩ := X106.virtualBack hx (y := (⟨"com/example/error_envelope/errorenvelope/BuiltInCode", "standsFor", "(I)Z"⟩ : MethodName)) (z := (⟨"com/example/error_envelope/errorenvelope/BuiltInCode", "standsFor", "(I)Z"⟩ : MethodName)) hown (mvT hZ (hw _ (List.mem_of_getElem? (i := 10) rfl))) (mvT hZ (hw _ (List.mem_of_getElem? (i := 11) rfl))) (notFace_of_selects (args := #[]) (mvT hZ (hw _ (List.mem_of_getElem? (i := 13) rfl)))) (mvT hZ (hw _ (List.mem_of_getElem? (i := 13) rfl))) (mvT hZ (hw _ (List.mem_of_getElem? (i := 12) rfl))) (by decide) (backOf (W := 0) (rmF1 l Z a0 hw [] bc ((400 : Int32) + (p3 &&& (255 : Int32))) (De kk) (stv kk) h0 n0 Z0 b2 b3 b4 b5) hZ (hw _ (List.mem_of_getElem? (i := 14) rfl)) (hw _ (List.mem_of_getElem? (i := 8) rfl)) (by decide) (by decide)) q111a q111c (g := (mkF m 97 #[.val (.int p0), .val (.int p1), .val (.int p2), .val (.int p3), .val (.int kk), .val (.int mm), .val (.int ((400 : Int32) + (p3 &&& (255 : Int32)))), .val (.int (1 : Int32))] [(.int ((400 : Int32) + (p3 &&& (255 : Int32)))), (.ref bc)])) rfl (by rw [hml]; rfl) (Steps.refl _) (argsL := [(.int ((400 : Int32) + (p3 &&& (255 : Int32))))]) (rest := []) (lenOf pd_2 rfl) rfl (by show 2 * 0 + _ ≤ _; exact Nat.le_of_eq rfl) (hb hby at_97) (fun _ _ => ⟨rfl, eh106, (by decide : 0 + 0 ≤ _), (by decide : 0 + 0 ≤ _)⟩)
            dsimp only [Pt.U, Pt.locs, Pt.cells, Pt.slots] at X111 l111 y111 z111 st111 hQ111
            subst l111 y111 z111
            obtain ⟨rfl, Nq111, eh111⟩ := hQ111
            have N112 := Fr.app N107 Nq111
            have pre111 : Rch p.tables e below (s₁.setTop (entryFrame m #[(.int p0), (.int p1), (.int p2), (.int p3)] maxLocals)) (T111.setTop (mkF m 100 #[.val (.int p0), .val (.int p1), .val (.int p2), .val (.int p3), .val (.int kk), .val (.int mm), .val (.int ((400 : Int32) + (p3 &&& (255 : Int32)))), .val (.int (1 : Int32))] [(.int (if (stv kk) = ((400 : Int32) + (p3 &&& (255 : Int32))) then 1 else 0))])) := fun tgt ktg => pre110 tgt (st111.trans ktg)
            have pre113 : Rch p.tables e below (s₁.setTop (entryFrame m #[(.int p0), (.int p1), (.int p2), (.int p3)] maxLocals)) (T111.setTop (mkF m 102 #[.val (.int p0), .val (.int p1), .val (.int p2), .val (.int p3), .val (.int kk), .val (.int mm), .val (.int ((400 : Int32) + (p3 &&& (255 : Int32)))), .val (.int (1 : Int32))] [(.int (1 : Int32)), (.int (if (stv kk) = ((400 : Int32) + (p3 &&& (255 : Int32))) then 1 else 0))])) := fun tgt ktg => pre111 tgt (by
              show Steps p.tables e below (T111.setTop (mkF m 100 #[.val (.int p0), .val (.int p1), .val (.int p2), .val (.int p3), .val (.int kk), .val (.int mm), .val (.int ((400 : Int32) + (p3 &&& (255 : Int32)))), .val (.int (1 : Int32))] [(.int (if (stv kk) = ((400 : Int32) + (p3 &&& (255 : Int32))) then 1 else 0))])) _
              refine XS.iload X111.here hx rfl (hb hby at_100) rfl ?_
              exact ktg)
            have pre114 : Rch p.tables e below (s₁.setTop (entryFrame m #[(.int p0), (.int p1), (.int p2), (.int p3)] maxLocals)) (T111.setTop (mkF m 110 #[.val (.int p0), .val (.int p1), .val (.int p2), .val (.int p3), .val (.int kk), .val (.int mm), .val (.int ((400 : Int32) + (p3 &&& (255 : Int32)))), .val (.int (1 : Int32))] [(.int (1 : Int32))])) := fun tgt ktg => pre113 tgt (by
              show Steps p.tables e below (T111.setTop (mkF m 102 #[.val (.int p0), .val (.int p1), .val (.int p2), .val (.int p3), .val (.int kk), .val (.int mm), .val (.int ((400 : Int32) + (p3 &&& (255 : Int32)))), .val (.int (1 : Int32))] [(.int (1 : Int32)), (.int (if (stv kk) = ((400 : Int32) + (p3 &&& (255 : Int32))) then 1 else 0))])) _
              refine XS.icmpNo X111.here hx rfl (hb hby at_102) rfl (teq (by rw [if_pos c103.symm])).2 ?_
              show Steps p.tables e below (T111.setTop (mkF m 105 #[.val (.int p0), .val (.int p1), .val (.int p2), .val (.int p3), .val (.int kk), .val (.int mm), .val (.int ((400 : Int32) + (p3 &&& (255 : Int32)))), .val (.int (1 : Int32))] [])) _
              refine XS.iconst X111.here hx rfl (hb hby at_105) ?_
              show Steps p.tables e below (T111.setTop (mkF m 106 #[.val (.int p0), .val (.int p1), .val (.int p2), .val (.int p3), .val (.int kk), .val (.int mm), .val (.int ((400 : Int32) + (p3 &&& (255 : Int32)))), .val (.int (1 : Int32))] [(.int (1 : Int32))])) _
              refine XS.goto X111.here hx rfl (pc0 := 106) (pc' := 110) rfl (hb hby at_106) (by decide) (by decide) ?_
              exact ktg)
            obtain ⟨fs, hr, hrun, hended, hW, hsame⟩ := X111.leave (v := some (.int (1 : Int32))) (fun h => by rw [Bd.returns] at h; cases h)
            refine ⟨_, _, pre114 _ ?_, hrun, hended, _, _, rfl, ?_, ⟨_, rfl⟩, hW, hsame.mono (by decide) (by decide)⟩
            · show Steps p.tables e below (T111.setTop (mkF m 110 #[.val (.int p0), .val (.int p1), .val (.int p2), .val (.int p3), .val (.int kk), .val (.int mm), .val (.int ((400 : Int32) + (p3 &&& (255 : Int32)))), .val (.int (1 : Int32))] [(.int (1 : Int32))])) _
              exact retN X111 hx (t := .boolean) Bd.returns (by simp) (hb hby at_110) hr
            · show Q0 Z p0 p1 p2 p3 h0 n0 _ T111.heap _
              rw [eh111]
              exact ⟨rfl, N112⟩
          · skip
            have pre115 : Rch p.tables e below (s₁.setTop (entryFrame m #[(.int p0), (.int p1), (.int p2), (.int p3)] maxLocals)) (T101.setTop (mkF m 87 #[.val (.int p0), .val (.int p1), .val (.int p2), .val (.int p3), .val (.int kk), .val (.int mm), .val (.int ((400 : Int32) + (p3 &&& (255 : Int32)))), .unset] [])) := fun tgt ktg => pre101 tgt (by
              show Steps p.tables e below (T101.setTop (mkF m 80 #[.val (.int p0), .val (.int p1), .val (.int p2), .val (.int p3), .val (.int kk), .val (.int mm), .val (.int ((400 : Int32) + (p3 &&& (255 : Int32)))), .unset] [(.int (stv kk)), (.int ((400 : Int32) + (p3 &&& (255 : Int32))))])) _
              refine XS.icmpYes X101.here hx rfl (pc0 := 80) (pc' := 87) rfl (hb hby at_80) rfl (feq c103).2 (by decide) (by decide) ?_
              exact ktg)
            have pre116 : Rch p.tables e below (s₁.setTop (entryFrame m #[(.int p0), (.int p1), (.int p2), (.int p3)] maxLocals)) (T101.setTop (mkF m 92 #[.val (.int p0), .val (.int p1), .val (.int p2), .val (.int p3), .val (.int kk), .val (.int mm), .val (.int ((400 : Int32) + (p3 &&& (255 : Int32)))), .val (.int (0 : Int32))] [(.int kk)])) := fun tgt ktg => pre115 tgt (by
              show Steps p.tables e below (T101.setTop (mkF m 87 #[.val (.int p0), .val (.int p1), .val (.int p2), .val (.int p3), .val (.int kk), .val (.int mm), .val (.int ((400 : Int32) + (p3 &&& (255 : Int32)))), .unset] [])) _
              refine XS.iconst X101.here hx rfl (hb hby at_87) ?_
              show Steps p.tables e below (T101.setTop (mkF m 88 #[.val (.int p0), .val (.int p1), .val (.int p2), .val (.int p3), .val (.int kk), .val (.int mm), .val (.int ((400 : Int32) + (p3 &&& (255 : Int32)))), .unset] [(.int (0 : Int32))])) _
              refine XS.istore X101.here hx rfl (hb hby at_88) rfl (l' := #[.val (.int p0), .val (.int p1), .val (.int p2), .val (.int p3), .val (.int kk), .val (.int mm), .val (.int ((400 : Int32) + (p3 &&& (255 : Int32)))), .val (.int (0 : Int32))]) rfl ?_
              show Steps p.tables e below (T101.setTop (mkF m 90 #[.val (.int p0), .val (.int p1), .val (.int p2), .val (.int p3), .val (.int kk), .val (.int mm), .val (.int ((400 : Int32) + (p3 &&& (255 : Int32)))), .val (.int (0 : Int32))] [])) _
              refine XS.iload X101.here hx rfl (hb hby at_90) rfl ?_
              exact ktg)
            obtain ⟨_, _, ⟨T117, L117, k117, n117⟩, -, X117, ⟨Lc117, hQ117, l117, y117, z117⟩, st117⟩ := Jvm.LawKit.callS X101 hx (y := (⟨"com/example/error_envelope/errorenvelope/BuiltInCodeStandsForPinLaw", "constant", "(I)Lcom/example/error_envelope/errorenvelope/BuiltInCode;"⟩ : MethodName)) hown (mvT hZ (hw _ (List.mem_of_getElem? (i := 4) rfl))) (mvT hZ (hw _ (List.mem_of_getElem? (i := 5) rfl))) (mvT hZ (hw _ (List.mem_of_getElem? (i := 2) rfl))) (mvT hZ (hw _ (List.mem_of_getElem? (i := 6) rfl))) (by decide) (backOf (W := 0) (rm2 l Z a0 hw [] kk W h0 n0 Z0 S0 S1 S2 S3 S4 S5 S6 S7) hZ (hw _ (List.mem_of_getElem? (i := 6) rfl)) (hw _ (List.mem_of_getElem? (i := 2) rfl)) (by decide) (by decide)) (g := (mkF m 92 #[.val (.int p0), .val (.int p1), .val (.int p2), .val (.int p3), .val (.int kk), .val (.int mm), .val (.int ((400 : Int32) + (p3 &&& (255 : Int32)))), .val (.int (0 : Int32))] [(.int kk)])) rfl (by rw [hml]; rfl) (argsL := [(.int kk)]) (rest := []) (lenOf pd_1 rfl) rfl (by show 2 * 0 + _ ≤ _; exact Nat.le_of_eq rfl) (hb hby at_92) (fun _ _ => ⟨rfl, eh101, (by decide : 0 + 0 ≤ _), (by decide : 0 + 0 ≤ _)⟩)
            dsimp only [Pt.U, Pt.locs, Pt.cells, Pt.slots] at X117 l117 y117 z117 st117 hQ117
            subst l117 y117 z117
            obtain ⟨rfl, Nq117, eh117⟩ := hQ117
            have N118 := Fr.app N102 Nq117
            have pre117 : Rch p.tables e below (s₁.setTop (entryFrame m #[(.int p0), (.int p1), (.int p2), (.int p3)] maxLocals)) (T117.setTop (mkF m 95 #[.val (.int p0), .val (.int p1), .val (.int p2), .val (.int p3), .val (.int kk), .val (.int mm), .val (.int ((400 : Int32) + (p3 &&& (255 : Int32)))), .val (.int (0 : Int32))] [(.ref (W (cl kk)))])) := fun tgt ktg => pre116 tgt (st117 tgt ktg)
            obtain ⟨b1, b2, b3, b4, b5⟩ := HB kk c88
            obtain ⟨bc, hv_bc⟩ : ∃ nm_ : Addr, nm_ = (W (cl kk)) := ⟨_, rfl⟩
            have pre119 : Rch p.tables e below (s₁.setTop (entryFrame m #[(.int p0), (.int p1), (.int p2), (.int p3)] maxLocals)) (T117.setTop (mkF m 95 #[.val (.int p0), .val (.int p1), .val (.int p2), .val (.int p3), .val (.int kk), .val (.int mm), .val (.int ((400 : Int32) + (p3 &&& (255 : Int32)))), .val (.int (0 : Int32))] [(.ref bc)])) := fun tgt ktg => pre117 tgt (by rw [hv_bc] at ktg; exact ktg)
            rw [← hv_bc] at b1 b2 b3
            have f120 : Exa Z h0 bc "com/example/error_envelope/errorenvelope/BuiltInCode" := b1
            have pre121 : Rch p.tables e below (s₁.setTop (entryFrame m #[(.int p0), (.int p1), (.int p2), (.int p3)] maxLocals)) (T117.setTop (mkF m 97 #[.val (.int p0), .val (.int p1), .val (.int p2), .val (.int p3), .val (.int kk), .val (.int mm), .val (.int ((400 : Int32) + (p3 &&& (255 : Int32)))), .val (.int (0 : Int32))] [(.int ((400 : Int32) + (p3 &&& (255 : Int32)))), (.ref bc)])) := fun tgt ktg => pre119 tgt (by
              show Steps p.tables e below (T117.setTop (mkF m 95 #[.val (.int p0), .val (.int p1), .val (.int p2), .val (.int p3), .val (.int kk), .val (.int mm), .val (.int ((400 : Int32) + (p3 &&& (255 : Int32)))), .val (.int (0 : Int32))] [(.ref bc)])) _
              refine XS.iload X117.here hx rfl (hb hby at_95) rfl ?_
              exact ktg)
            obtain ⟨cq122, kq122, q122a, q122b, q122c⟩ := isOf hZ eh117 f120
            obtain ⟨_, _, ⟨T122, L122, k122, n122⟩, -, X122, ⟨Lc122, hQ122, l122, y122, z122⟩, st122⟩ := X117.virtualBack hx (y := (⟨"com/example/error_envelope/errorenvelope/BuiltInCode", "standsFor", "(I)Z"⟩ : MethodName)) (z := (⟨"com/example/error_envelope/errorenvelope/BuiltInCode", "standsFor", "(I)Z"⟩ : MethodName)) hown (mvT hZ (hw _ (List.mem_of_getElem? (i := 10) rfl))) (mvT hZ (hw _ (List.mem_of_getElem? (i := 11) rfl))) (notFace_of_selects (args := #[]) (mvT hZ (hw _ (List.mem_of_getElem? (i := 13) rfl)))) (mvT hZ (hw _ (List.mem_of_getElem? (i := 13) rfl))) (mvT hZ (hw _ (List.mem_of_getElem? (i := 12) rfl))) (by decide) (backOf (W := 0) (rmF1 l Z a0 hw [] bc ((400 : Int32) + (p3 &&& (255 : Int32))) (De kk) (stv kk) h0 n0 Z0 b2 b3 b4 b5) hZ (hw _ (List.mem_of_getElem? (i := 14) rfl)) (hw _ (List.mem_of_getElem? (i := 8) rfl)) (by decide) (by decide)) q122a q122c (g := (mkF m 97 #[.val (.int p0), .val (.int p1), .val (.int p2), .val (.int p3), .val (.int kk), .val (.int mm), .val (.int ((400 : Int32) + (p3 &&& (255 : Int32)))), .val (.int (0 : Int32))] [(.int ((400 : Int32) + (p3 &&& (255 : Int32)))), (.ref bc)])) rfl (by rw [hml]; rfl) (Steps.refl _) (argsL := [(.int ((400 : Int32) + (p3 &&& (255 : Int32))))]) (rest := []) (lenOf pd_2 rfl) rfl (by show 2 * 0 + _ ≤ _; exact Nat.le_of_eq rfl) (hb hby at_97) (fun _ _ => ⟨rfl, eh117, (by decide : 0 + 0 ≤ _), (by decide : 0 + 0 ≤ _)⟩)
            dsimp only [Pt.U, Pt.locs, Pt.cells, Pt.slots] at X122 l122 y122 z122 st122 hQ122
            subst l122 y122 z122
            obtain ⟨rfl, Nq122, eh122⟩ := hQ122
            have N123 := Fr.app N118 Nq122
            have pre122 : Rch p.tables e below (s₁.setTop (entryFrame m #[(.int p0), (.int p1), (.int p2), (.int p3)] maxLocals)) (T122.setTop (mkF m 100 #[.val (.int p0), .val (.int p1), .val (.int p2), .val (.int p3), .val (.int kk), .val (.int mm), .val (.int ((400 : Int32) + (p3 &&& (255 : Int32)))), .val (.int (0 : Int32))] [(.int (if (stv kk) = ((400 : Int32) + (p3 &&& (255 : Int32))) then 1 else 0))])) := fun tgt ktg => pre121 tgt (st122.trans ktg)
            have pre124 : Rch p.tables e below (s₁.setTop (entryFrame m #[(.int p0), (.int p1), (.int p2), (.int p3)] maxLocals)) (T122.setTop (mkF m 102 #[.val (.int p0), .val (.int p1), .val (.int p2), .val (.int p3), .val (.int kk), .val (.int mm), .val (.int ((400 : Int32) + (p3 &&& (255 : Int32)))), .val (.int (0 : Int32))] [(.int (0 : Int32)), (.int (if (stv kk) = ((400 : Int32) + (p3 &&& (255 : Int32))) then 1 else 0))])) := fun tgt ktg => pre122 tgt (by
              show Steps p.tables e below (T122.setTop (mkF m 100 #[.val (.int p0), .val (.int p1), .val (.int p2), .val (.int p3), .val (.int kk), .val (.int mm), .val (.int ((400 : Int32) + (p3 &&& (255 : Int32)))), .val (.int (0 : Int32))] [(.int (if (stv kk) = ((400 : Int32) + (p3 &&& (255 : Int32))) then 1 else 0))])) _
              refine XS.iload X122.here hx rfl (hb hby at_100) rfl ?_
              exact ktg)
            have pre125 : Rch p.tables e below (s₁.setTop (entryFrame m #[(.int p0), (.int p1), (.int p2), (.int p3)] maxLocals)) (T122.setTop (mkF m 110 #[.val (.int p0), .val (.int p1), .val (.int p2), .val (.int p3), .val (.int kk), .val (.int mm), .val (.int ((400 : Int32) + (p3 &&& (255 : Int32)))), .val (.int (0 : Int32))] [(.int (1 : Int32))])) := fun tgt ktg => pre124 tgt (by
              show Steps p.tables e below (T122.setTop (mkF m 102 #[.val (.int p0), .val (.int p1), .val (.int p2), .val (.int p3), .val (.int kk), .val (.int mm), .val (.int ((400 : Int32) + (p3 &&& (255 : Int32)))), .val (.int (0 : Int32))] [(.int (0 : Int32)), (.int (if (stv kk) = ((400 : Int32) + (p3 &&& (255 : Int32))) then 1 else 0))])) _
              refine XS.icmpNo X122.here hx rfl (hb hby at_102) rfl (teq (by rw [if_neg (fun q => c103 q.symm)])).2 ?_
              show Steps p.tables e below (T122.setTop (mkF m 105 #[.val (.int p0), .val (.int p1), .val (.int p2), .val (.int p3), .val (.int kk), .val (.int mm), .val (.int ((400 : Int32) + (p3 &&& (255 : Int32)))), .val (.int (0 : Int32))] [])) _
              refine XS.iconst X122.here hx rfl (hb hby at_105) ?_
              show Steps p.tables e below (T122.setTop (mkF m 106 #[.val (.int p0), .val (.int p1), .val (.int p2), .val (.int p3), .val (.int kk), .val (.int mm), .val (.int ((400 : Int32) + (p3 &&& (255 : Int32)))), .val (.int (0 : Int32))] [(.int (1 : Int32))])) _
              refine XS.goto X122.here hx rfl (pc0 := 106) (pc' := 110) rfl (hb hby at_106) (by decide) (by decide) ?_
              exact ktg)
            obtain ⟨fs, hr, hrun, hended, hW, hsame⟩ := X122.leave (v := some (.int (1 : Int32))) (fun h => by rw [Bd.returns] at h; cases h)
            refine ⟨_, _, pre125 _ ?_, hrun, hended, _, _, rfl, ?_, ⟨_, rfl⟩, hW, hsame.mono (by decide) (by decide)⟩
            · show Steps p.tables e below (T122.setTop (mkF m 110 #[.val (.int p0), .val (.int p1), .val (.int p2), .val (.int p3), .val (.int kk), .val (.int mm), .val (.int ((400 : Int32) + (p3 &&& (255 : Int32)))), .val (.int (0 : Int32))] [(.int (1 : Int32))])) _
              exact retN X122 hx (t := .boolean) Bd.returns (by simp) (hb hby at_110) hr
            · show Q0 Z p0 p1 p2 p3 h0 n0 _ T122.heap _
              rw [eh122]
              exact ⟨rfl, N123⟩
      · skip
        have pre126 : Rch p.tables e below (s₁.setTop (entryFrame m #[(.int p0), (.int p1), (.int p2), (.int p3)] maxLocals)) (s₁.setTop (mkF m 58 #[.val (.int p0), .val (.int p1), .val (.int p2), .val (.int p3), .val (.int kk), .val (.int mm), .unset, .unset] [])) := fun tgt ktg => pre83 tgt (by
          show Steps p.tables e below (s₁.setTop (mkF m 41 #[.val (.int p0), .val (.int p1), .val (.int p2), .val (.int p3), .val (.int kk), .val (.int mm), .unset, .unset] [(.int (2 : Int32)), (.int mm)])) _
          refine XS.icmpYes X0.here hx rfl (pc0 := 41) (pc' := 58) rfl (hb hby at_41) rfl (feq c84).2 (by decide) (by decide) ?_
          exact ktg)
        have pre127 : Rch p.tables e below (s₁.setTop (entryFrame m #[(.int p0), (.int p1), (.int p2), (.int p3)] maxLocals)) (s₁.setTop (mkF m 62 #[.val (.int p0), .val (.int p1), .val (.int p2), .val (.int p3), .val (.int kk), .val (.int mm), .unset, .unset] [(.int (p1 &&& (7 : Int32)))])) := fun tgt ktg => pre126 tgt (by
          show Steps p.tables e below (s₁.setTop (mkF m 58 #[.val (.int p0), .val (.int p1), .val (.int p2), .val (.int p3), .val (.int kk), .val (.int mm), .unset, .unset] [])) _
          refine XS.iloadN X0.here hx rfl (hb hby at_58) rfl ?_
          show Steps p.tables e below (s₁.setTop (mkF m 59 #[.val (.int p0), .val (.int p1), .val (.int p2), .val (.int p3), .val (.int kk), .val (.int mm), .unset, .unset] [(.int p1)])) _
          refine XS.bipush X0.here hx rfl (hb hby at_59) ?_
          show Steps p.tables e below (s₁.setTop (mkF m 61 #[.val (.int p0), .val (.int p1), .val (.int p2), .val (.int p3), .val (.int kk), .val (.int mm), .unset, .unset] [(.int (7 : Int32)), (.int p1)])) _
          refine XS.iand X0.here hx rfl (hb hby at_61) rfl ?_
          exact ktg)
        obtain ⟨ko, hv_ko⟩ : ∃ nm_ : Int32, nm_ = (p1 &&& (7 : Int32)) := ⟨_, rfl⟩
        have pre128 : Rch p.tables e below (s₁.setTop (entryFrame m #[(.int p0), (.int p1), (.int p2), (.int p3)] maxLocals)) (s₁.setTop (mkF m 62 #[.val (.int p0), .val (.int p1), .val (.int p2), .val (.int p3), .val (.int kk), .val (.int mm), .unset, .unset] [(.int ko)])) := fun tgt ktg => pre127 tgt (by rw [hv_ko] at ktg; exact ktg)
        obtain ⟨_, _, ⟨T129, L129, k129, n129⟩, -, X129, ⟨Lc129, hQ129, l129, y129, z129⟩, st129⟩ := Jvm.LawKit.callS X0 hx (y := (⟨"com/example/error_envelope/errorenvelope/BuiltInCodeStandsForPinLaw", "statusOf", "(I)I"⟩ : MethodName)) hown (mvT hZ (hw _ (List.mem_of_getElem? (i := 0) rfl))) (mvT hZ (hw _ (List.mem_of_getElem? (i := 1) rfl))) (mvT hZ (hw _ (List.mem_of_getElem? (i := 2) rfl))) (mvT hZ (hw _ (List.mem_of_getElem? (i := 3) rfl))) (by decide) (backOf (W := 0) (rm1 l Z a0 hw [] ko h0 n0 Z0) hZ (hw _ (List.mem_of_getElem? (i := 3) rfl)) (hw _ (List.mem_of_getElem? (i := 2) rfl)) (by decide) (by decide)) (g := (mkF m 62 #[.val (.int p0), .val (.int p1), .val (.int p2), .val (.int p3), .val (.int kk), .val (.int mm), .unset, .unset] [(.int ko)])) rfl (by rw [hml]; rfl) (argsL := [(.int ko)]) (rest := []) (lenOf pd_3 rfl) rfl (by show 2 * 0 + _ ≤ _; exact Nat.le_of_eq rfl) (hb hby at_62) (fun _ _ => ⟨rfl, e0, (by decide : 0 + 0 ≤ _), (by decide : 0 + 0 ≤ _)⟩)
        dsimp only [Pt.U, Pt.locs, Pt.cells, Pt.slots] at X129 l129 y129 z129 st129 hQ129
        subst l129 y129 z129
        obtain ⟨rfl, Nq129, eh129⟩ := hQ129
        have N130 := Fr.app N0 Nq129
        have pre129 : Rch p.tables e below (s₁.setTop (entryFrame m #[(.int p0), (.int p1), (.int p2), (.int p3)] maxLocals)) (T129.setTop (mkF m 65 #[.val (.int p0), .val (.int p1), .val (.int p2), .val (.int p3), .val (.int kk), .val (.int mm), .unset, .unset] [(.int (stv ko))])) := fun tgt ktg => pre128 tgt (st129 tgt ktg)
        have pre131 : Rch p.tables e below (s₁.setTop (entryFrame m #[(.int p0), (.int p1), (.int p2), (.int p3)] maxLocals)) (T129.setTop (mkF m 67 #[.val (.int p0), .val (.int p1), .val (.int p2), .val (.int p3), .val (.int kk), .val (.int mm), .val (.int (stv ko)), .unset] [])) := fun tgt ktg => pre129 tgt (by
          show Steps p.tables e below (T129.setTop (mkF m 65 #[.val (.int p0), .val (.int p1), .val (.int p2), .val (.int p3), .val (.int kk), .val (.int mm), .unset, .unset] [(.int (stv ko))])) _
          refine XS.istore X129.here hx rfl (hb hby at_65) rfl (l' := #[.val (.int p0), .val (.int p1), .val (.int p2), .val (.int p3), .val (.int kk), .val (.int mm), .val (.int (stv ko)), .unset]) rfl ?_
          exact ktg)
        have pre132 : Rch p.tables e below (s₁.setTop (entryFrame m #[(.int p0), (.int p1), (.int p2), (.int p3)] maxLocals)) (T129.setTop (mkF m 70 #[.val (.int p0), .val (.int p1), .val (.int p2), .val (.int p3), .val (.int kk), .val (.int mm), .val (.int (stv ko)), .unset] [(.int (4 : Int32)), (.int kk)])) := fun tgt ktg => pre131 tgt (by
          show Steps p.tables e below (T129.setTop (mkF m 67 #[.val (.int p0), .val (.int p1), .val (.int p2), .val (.int p3), .val (.int kk), .val (.int mm), .val (.int (stv ko)), .unset] [])) _
          refine XS.iload X129.here hx rfl (hb hby at_67) rfl ?_
          show Steps p.tables e below (T129.setTop (mkF m 69 #[.val (.int p0), .val (.int p1), .val (.int p2), .val (.int p3), .val (.int kk), .val (.int mm), .val (.int (stv ko)), .unset] [(.int kk)])) _
          refine XS.iconst X129.here hx rfl (hb hby at_69) ?_
          exact ktg)
        by_cases c133 : kk = (4 : Int32)
        · skip
          have pre134 : Rch p.tables e below (s₁.setTop (entryFrame m #[(.int p0), (.int p1), (.int p2), (.int p3)] maxLocals)) (T129.setTop (mkF m 87 #[.val (.int p0), .val (.int p1), .val (.int p2), .val (.int p3), .val (.int kk), .val (.int mm), .val (.int (stv ko)), .unset] [])) := fun tgt ktg => pre132 tgt (by
            show Steps p.tables e below (T129.setTop (mkF m 70 #[.val (.int p0), .val (.int p1), .val (.int p2), .val (.int p3), .val (.int kk), .val (.int mm), .val (.int (stv ko)), .unset] [(.int (4 : Int32)), (.int kk)])) _
            refine XS.icmpYes X129.here hx rfl (pc0 := 70) (pc' := 87) rfl (hb hby at_70) rfl (teq c133).1 (by decide) (by decide) ?_
            exact ktg)
          have pre135 : Rch p.tables e below (s₁.setTop (entryFrame m #[(.int p0), (.int p1), (.int p2), (.int p3)] maxLocals)) (T129.setTop (mkF m 92 #[.val (.int p0), .val (.int p1), .val (.int p2), .val (.int p3), .val (.int kk), .val (.int mm), .val (.int (stv ko)), .val (.int (0 : Int32))] [(.int kk)])) := fun tgt ktg => pre134 tgt (by
            show Steps p.tables e below (T129.setTop (mkF m 87 #[.val (.int p0), .val (.int p1), .val (.int p2), .val (.int p3), .val (.int kk), .val (.int mm), .val (.int (stv ko)), .unset] [])) _
            refine XS.iconst X129.here hx rfl (hb hby at_87) ?_
            show Steps p.tables e below (T129.setTop (mkF m 88 #[.val (.int p0), .val (.int p1), .val (.int p2), .val (.int p3), .val (.int kk), .val (.int mm), .val (.int (stv ko)), .unset] [(.int (0 : Int32))])) _
            refine XS.istore X129.here hx rfl (hb hby at_88) rfl (l' := #[.val (.int p0), .val (.int p1), .val (.int p2), .val (.int p3), .val (.int kk), .val (.int mm), .val (.int (stv ko)), .val (.int (0 : Int32))]) rfl ?_
            show Steps p.tables e below (T129.setTop (mkF m 90 #[.val (.int p0), .val (.int p1), .val (.int p2), .val (.int p3), .val (.int kk), .val (.int mm), .val (.int (stv ko)), .val (.int (0 : Int32))] [])) _
            refine XS.iload X129.here hx rfl (hb hby at_90) rfl ?_
            exact ktg)
          obtain ⟨_, _, ⟨T136, L136, k136, n136⟩, -, X136, ⟨Lc136, hQ136, l136, y136, z136⟩, st136⟩ := Jvm.LawKit.callS X129 hx (y := (⟨"com/example/error_envelope/errorenvelope/BuiltInCodeStandsForPinLaw", "constant", "(I)Lcom/example/error_envelope/errorenvelope/BuiltInCode;"⟩ : MethodName)) hown (mvT hZ (hw _ (List.mem_of_getElem? (i := 4) rfl))) (mvT hZ (hw _ (List.mem_of_getElem? (i := 5) rfl))) (mvT hZ (hw _ (List.mem_of_getElem? (i := 2) rfl))) (mvT hZ (hw _ (List.mem_of_getElem? (i := 6) rfl))) (by decide) (backOf (W := 0) (rm2 l Z a0 hw [] kk W h0 n0 Z0 S0 S1 S2 S3 S4 S5 S6 S7) hZ (hw _ (List.mem_of_getElem? (i := 6) rfl)) (hw _ (List.mem_of_getElem? (i := 2) rfl)) (by decide) (by decide)) (g := (mkF m 92 #[.val (.int p0), .val (.int p1), .val (.int p2), .val (.int p3), .val (.int kk), .val (.int mm), .val (.int (stv ko)), .val (.int (0 : Int32))] [(.int kk)])) rfl (by rw [hml]; rfl) (argsL := [(.int kk)]) (rest := []) (lenOf pd_1 rfl) rfl (by show 2 * 0 + _ ≤ _; exact Nat.le_of_eq rfl) (hb hby at_92) (fun _ _ => ⟨rfl, eh129, (by decide : 0 + 0 ≤ _), (by decide : 0 + 0 ≤ _)⟩)
          dsimp only [Pt.U, Pt.locs, Pt.cells, Pt.slots] at X136 l136 y136 z136 st136 hQ136
          subst l136 y136 z136
          obtain ⟨rfl, Nq136, eh136⟩ := hQ136
          have N137 := Fr.app N130 Nq136
          have pre136 : Rch p.tables e below (s₁.setTop (entryFrame m #[(.int p0), (.int p1), (.int p2), (.int p3)] maxLocals)) (T136.setTop (mkF m 95 #[.val (.int p0), .val (.int p1), .val (.int p2), .val (.int p3), .val (.int kk), .val (.int mm), .val (.int (stv ko)), .val (.int (0 : Int32))] [(.ref (W (cl kk)))])) := fun tgt ktg => pre135 tgt (st136 tgt ktg)
          obtain ⟨bc, hv_bc⟩ : ∃ nm_ : Addr, nm_ = (W (cl kk)) := ⟨_, rfl⟩
          have pre138 : Rch p.tables e below (s₁.setTop (entryFrame m #[(.int p0), (.int p1), (.int p2), (.int p3)] maxLocals)) (T136.setTop (mkF m 95 #[.val (.int p0), .val (.int p1), .val (.int p2), .val (.int p3), .val (.int kk), .val (.int mm), .val (.int (stv ko)), .val (.int (0 : Int32))] [(.ref bc)])) := fun tgt ktg => pre136 tgt (by rw [hv_bc] at ktg; exact ktg)
          have hb4 : bc = W 4 := by rw [hv_bc, c133]; rfl
          have f139 : Exa Z h0 bc "com/example/error_envelope/errorenvelope/BuiltInCode" := hb4 ▸ H4.1
          have pre140 : Rch p.tables e below (s₁.setTop (entryFrame m #[(.int p0), (.int p1), (.int p2), (.int p3)] maxLocals)) (T136.setTop (mkF m 97 #[.val (.int p0), .val (.int p1), .val (.int p2), .val (.int p3), .val (.int kk), .val (.int mm), .val (.int (stv ko)), .val (.int (0 : Int32))] [(.int (stv ko)), (.ref bc)])) := fun tgt ktg => pre138 tgt (by
            show Steps p.tables e below (T136.setTop (mkF m 95 #[.val (.int p0), .val (.int p1), .val (.int p2), .val (.int p3), .val (.int kk), .val (.int mm), .val (.int (stv ko)), .val (.int (0 : Int32))] [(.ref bc)])) _
            refine XS.iload X136.here hx rfl (hb hby at_95) rfl ?_
            exact ktg)
          obtain ⟨cq141, kq141, q141a, q141b, q141c⟩ := isOf hZ eh136 f139
          obtain ⟨_, _, ⟨T141, L141, k141, n141⟩, -, X141, ⟨Lc141, hQ141, l141, y141, z141⟩, st141⟩ := X136.virtualBack hx (y := (⟨"com/example/error_envelope/errorenvelope/BuiltInCode", "standsFor", "(I)Z"⟩ : MethodName)) (z := (⟨"com/example/error_envelope/errorenvelope/BuiltInCode", "standsFor", "(I)Z"⟩ : MethodName)) hown (mvT hZ (hw _ (List.mem_of_getElem? (i := 10) rfl))) (mvT hZ (hw _ (List.mem_of_getElem? (i := 11) rfl))) (notFace_of_selects (args := #[]) (mvT hZ (hw _ (List.mem_of_getElem? (i := 13) rfl)))) (mvT hZ (hw _ (List.mem_of_getElem? (i := 13) rfl))) (mvT hZ (hw _ (List.mem_of_getElem? (i := 12) rfl))) (by decide) (backOf (W := 0) (rmF0 l Z a0 hw [] bc (stv ko) h0 n0 Z0 (hb4 ▸ H4.2)) hZ (hw _ (List.mem_of_getElem? (i := 14) rfl)) (hw _ (List.mem_of_getElem? (i := 8) rfl)) (by decide) (by decide)) q141a q141c (g := (mkF m 97 #[.val (.int p0), .val (.int p1), .val (.int p2), .val (.int p3), .val (.int kk), .val (.int mm), .val (.int (stv ko)), .val (.int (0 : Int32))] [(.int (stv ko)), (.ref bc)])) rfl (by rw [hml]; rfl) (Steps.refl _) (argsL := [(.int (stv ko))]) (rest := []) (lenOf pd_2 rfl) rfl (by show 2 * 0 + _ ≤ _; exact Nat.le_of_eq rfl) (hb hby at_97) (fun _ _ => ⟨rfl, eh136, (by decide : 0 + 0 ≤ _), (by decide : 0 + 0 ≤ _)⟩)
          dsimp only [Pt.U, Pt.locs, Pt.cells, Pt.slots] at X141 l141 y141 z141 st141 hQ141
          subst l141 y141 z141
          obtain ⟨rfl, Nq141, eh141⟩ := hQ141
          have N142 := Fr.app N137 Nq141
          have pre141 : Rch p.tables e below (s₁.setTop (entryFrame m #[(.int p0), (.int p1), (.int p2), (.int p3)] maxLocals)) (T141.setTop (mkF m 100 #[.val (.int p0), .val (.int p1), .val (.int p2), .val (.int p3), .val (.int kk), .val (.int mm), .val (.int (stv ko)), .val (.int (0 : Int32))] [(.int (0 : Int32))])) := fun tgt ktg => pre140 tgt (st141.trans ktg)
          have pre143 : Rch p.tables e below (s₁.setTop (entryFrame m #[(.int p0), (.int p1), (.int p2), (.int p3)] maxLocals)) (T141.setTop (mkF m 110 #[.val (.int p0), .val (.int p1), .val (.int p2), .val (.int p3), .val (.int kk), .val (.int mm), .val (.int (stv ko)), .val (.int (0 : Int32))] [(.int (1 : Int32))])) := fun tgt ktg => pre141 tgt (by
            show Steps p.tables e below (T141.setTop (mkF m 100 #[.val (.int p0), .val (.int p1), .val (.int p2), .val (.int p3), .val (.int kk), .val (.int mm), .val (.int (stv ko)), .val (.int (0 : Int32))] [(.int (0 : Int32))])) _
            refine XS.iload X141.here hx rfl (hb hby at_100) rfl ?_
            show Steps p.tables e below (T141.setTop (mkF m 102 #[.val (.int p0), .val (.int p1), .val (.int p2), .val (.int p3), .val (.int kk), .val (.int mm), .val (.int (stv ko)), .val (.int (0 : Int32))] [(.int (0 : Int32)), (.int (0 : Int32))])) _
            refine XS.icmpNo X141.here hx rfl (hb hby at_102) rfl (teq (rfl : (0 : Int32) = (0 : Int32))).2 ?_
            show Steps p.tables e below (T141.setTop (mkF m 105 #[.val (.int p0), .val (.int p1), .val (.int p2), .val (.int p3), .val (.int kk), .val (.int mm), .val (.int (stv ko)), .val (.int (0 : Int32))] [])) _
            refine XS.iconst X141.here hx rfl (hb hby at_105) ?_
            show Steps p.tables e below (T141.setTop (mkF m 106 #[.val (.int p0), .val (.int p1), .val (.int p2), .val (.int p3), .val (.int kk), .val (.int mm), .val (.int (stv ko)), .val (.int (0 : Int32))] [(.int (1 : Int32))])) _
            refine XS.goto X141.here hx rfl (pc0 := 106) (pc' := 110) rfl (hb hby at_106) (by decide) (by decide) ?_
            exact ktg)
          obtain ⟨fs, hr, hrun, hended, hW, hsame⟩ := X141.leave (v := some (.int (1 : Int32))) (fun h => by rw [Bd.returns] at h; cases h)
          refine ⟨_, _, pre143 _ ?_, hrun, hended, _, _, rfl, ?_, ⟨_, rfl⟩, hW, hsame.mono (by decide) (by decide)⟩
          · show Steps p.tables e below (T141.setTop (mkF m 110 #[.val (.int p0), .val (.int p1), .val (.int p2), .val (.int p3), .val (.int kk), .val (.int mm), .val (.int (stv ko)), .val (.int (0 : Int32))] [(.int (1 : Int32))])) _
            exact retN X141 hx (t := .boolean) Bd.returns (by simp) (hb hby at_110) hr
          · show Q0 Z p0 p1 p2 p3 h0 n0 _ T141.heap _
            rw [eh141]
            exact ⟨rfl, N142⟩
        · skip
          have pre144 : Rch p.tables e below (s₁.setTop (entryFrame m #[(.int p0), (.int p1), (.int p2), (.int p3)] maxLocals)) (T129.setTop (mkF m 73 #[.val (.int p0), .val (.int p1), .val (.int p2), .val (.int p3), .val (.int kk), .val (.int mm), .val (.int (stv ko)), .unset] [])) := fun tgt ktg => pre132 tgt (by
            show Steps p.tables e below (T129.setTop (mkF m 70 #[.val (.int p0), .val (.int p1), .val (.int p2), .val (.int p3), .val (.int kk), .val (.int mm), .val (.int (stv ko)), .unset] [(.int (4 : Int32)), (.int kk)])) _
            refine XS.icmpNo X129.here hx rfl (hb hby at_70) rfl (feq c133).1 ?_
            exact ktg)
          have pre145 : Rch p.tables e below (s₁.setTop (entryFrame m #[(.int p0), (.int p1), (.int p2), (.int p3)] maxLocals)) (T129.setTop (mkF m 77 #[.val (.int p0), .val (.int p1), .val (.int p2), .val (.int p3), .val (.int kk), .val (.int mm), .val (.int (stv ko)), .unset] [(.int kk), (.int (stv ko))])) := fun tgt ktg => pre144 tgt (by
            show Steps p.tables e below (T129.setTop (mkF m 73 #[.val (.int p0), .val (.int p1), .val (.int p2), .val (.int p3), .val (.int kk), .val (.int mm), .val (.int (stv ko)), .unset] [])) _
            refine XS.iload X129.here hx rfl (hb hby at_73) rfl ?_
            show Steps p.tables e below (T129.setTop (mkF m 75 #[.val (.int p0), .val (.int p1), .val (.int p2), .val (.int p3), .val (.int kk), .val (.int mm), .val (.int (stv ko)), .unset] [(.int (stv ko))])) _
            refine XS.iload X129.here hx rfl (hb hby at_75) rfl ?_
            exact ktg)
          obtain ⟨_, _, ⟨T146, L146, k146, n146⟩, -, X146, ⟨Lc146, hQ146, l146, y146, z146⟩, st146⟩ := Jvm.LawKit.callS X129 hx (y := (⟨"com/example/error_envelope/errorenvelope/BuiltInCodeStandsForPinLaw", "statusOf", "(I)I"⟩ : MethodName)) hown (mvT hZ (hw _ (List.mem_of_getElem? (i := 0) rfl))) (mvT hZ (hw _ (List.mem_of_getElem? (i := 1) rfl))) (mvT hZ (hw _ (List.mem_of_getElem? (i := 2) rfl))) (mvT hZ (hw _ (List.mem_of_getElem? (i := 3) rfl))) (by decide) (backOf (W := 1) (rm1 l Z a0 hw [] kk h0 n0 Z0) hZ (hw _ (List.mem_of_getElem? (i := 3) rfl)) (hw _ (List.mem_of_getElem? (i := 2) rfl)) (by decide) (by decide)) (g := (mkF m 77 #[.val (.int p0), .val (.int p1), .val (.int p2), .val (.int p3), .val (.int kk), .val (.int mm), .val (.int (stv ko)), .unset] [(.int kk), (.int (stv ko))])) rfl (by rw [hml]; rfl) (argsL := [(.int kk)]) (rest := [(.int (stv ko))]) (lenOf pd_3 rfl) rfl (by show 2 * 0 + _ ≤ _; exact Nat.le_of_eq rfl) (hb hby at_77) (fun _ _ => ⟨rfl, eh129, (by decide : 0 + 0 ≤ _), (by decide : 0 + 0 ≤ _)⟩)
          dsimp only [Pt.U, Pt.locs, Pt.cells, Pt.slots] at X146 l146 y146 z146 st146 hQ146
          subst l146 y146 z146
          obtain ⟨rfl, Nq146, eh146⟩ := hQ146
          have N147 := Fr.app N130 Nq146
          have pre146 : Rch p.tables e below (s₁.setTop (entryFrame m #[(.int p0), (.int p1), (.int p2), (.int p3)] maxLocals)) (T146.setTop (mkF m 80 #[.val (.int p0), .val (.int p1), .val (.int p2), .val (.int p3), .val (.int kk), .val (.int mm), .val (.int (stv ko)), .unset] [(.int (stv kk)), (.int (stv ko))])) := fun tgt ktg => pre145 tgt (st146 tgt ktg)
          by_cases c148 : (stv ko) = (stv kk)
          · skip
            have pre149 : Rch p.tables e below (s₁.setTop (entryFrame m #[(.int p0), (.int p1), (.int p2), (.int p3)] maxLocals)) (T146.setTop (mkF m 83 #[.val (.int p0), .val (.int p1), .val (.int p2), .val (.int p3), .val (.int kk), .val (.int mm), .val (.int (stv ko)), .unset] [])) := fun tgt ktg => pre146 tgt (by
              show Steps p.tables e below (T146.setTop (mkF m 80 #[.val (.int p0), .val (.int p1), .val (.int p2), .val (.int p3), .val (.int kk), .val (.int mm), .val (.int (stv ko)), .unset] [(.int (stv kk)), (.int (stv ko))])) _
              refine XS.icmpNo X146.here hx rfl (hb hby at_80) rfl (teq c148).2 ?_
              exact ktg)
            have pre150 : Rch p.tables e below (s₁.setTop (entryFrame m #[(.int p0), (.int p1), (.int p2), (.int p3)] maxLocals)) (T146.setTop (mkF m 92 #[.val (.int p0), .val (.int p1), .val (.int p2), .val (.int p3), .val (.int kk), .val (.int mm), .val (.int (stv ko)), .val (.int (1 : Int32))] [(.int kk)])) := fun tgt ktg => pre149 tgt (by
              show Steps p.tables e below (T146.setTop (mkF m 83 #[.val (.int p0), .val (.int p1), .val (.int p2), .val (.int p3), .val (.int kk), .val (.int mm), .val (.int (stv ko)), .unset] [])) _
              refine XS.iconst X146.here hx rfl (hb hby at_83) ?_
              show Steps p.tables e below (T146.setTop (mkF m 84 #[.val (.int p0), .val (.int p1), .val (.int p2), .val (.int p3), .val (.int kk), .val (.int mm), .val (.int (stv ko)), .unset] [(.int (1 : Int32))])) _
              refine XS.goto X146.here hx rfl (pc0 := 84) (pc' := 88) rfl (hb hby at_84) (by decide) (by decide) ?_
              show Steps p.tables e below (T146.setTop (mkF m 88 #[.val (.int p0), .val (.int p1), .val (.int p2), .val (.int p3), .val (.int kk), .val (.int mm), .val (.int (stv ko)), .unset] [(.int (1 : Int32))])) _
              refine XS.istore X146.here hx rfl (hb hby at_88) rfl (l' := #[.val (.int p0), .val (.int p1), .val (.int p2), .val (.int p3), .val (.int kk), .val (.int mm), .val (.int (stv ko)), .val (.int (1 : Int32))]) rfl ?_
              show Steps p.tables e below (T146.setTop (mkF m 90 #[.val (.int p0), .val (.int p1), .val (.int p2), .val (.int p3), .val (.int kk), .val (.int mm), .val (.int (stv ko)), .val (.int (1 : Int32))] [])) _
              refine XS.iload X146.here hx rfl (hb hby at_90) rfl ?_
              exact ktg)
            obtain ⟨_, _, ⟨T151, L151, k151, n151⟩, -, X151, ⟨Lc151, hQ151, l151, y151, z151⟩, st151⟩ := Jvm.LawKit.callS X146 hx (y := (⟨"com/example/error_envelope/errorenvelope/BuiltInCodeStandsForPinLaw", "constant", "(I)Lcom/example/error_envelope/errorenvelope/BuiltInCode;"⟩ : MethodName)) hown (mvT hZ (hw _ (List.mem_of_getElem? (i := 4) rfl))) (mvT hZ (hw _ (List.mem_of_getElem? (i := 5) rfl))) (mvT hZ (hw _ (List.mem_of_getElem? (i := 2) rfl))) (mvT hZ (hw _ (List.mem_of_getElem? (i := 6) rfl))) (by decide) (backOf (W := 0) (rm2 l Z a0 hw [] kk W h0 n0 Z0 S0 S1 S2 S3 S4 S5 S6 S7) hZ (hw _ (List.mem_of_getElem? (i := 6) rfl)) (hw _ (List.mem_of_getElem? (i := 2) rfl)) (by decide) (by decide)) (g := (mkF m 92 #[.val (.int p0), .val (.int p1), .val (.int p2), .val (.int p3), .val (.int kk), .val (.int mm), .val (.int (stv ko)), .val (.int (1 : Int32))] [(.int kk)])) rfl (by rw [hml]; rfl) (argsL := [(.int kk)]) (rest := []) (lenOf pd_1 rfl) rfl (by show 2 * 0 + _ ≤ _; exact Nat.le_of_eq rfl) (hb hby at_92) (fun _ _ => ⟨rfl, eh146, (by decide : 0 + 0 ≤ _), (by decide : 0 + 0 ≤ _)⟩)
            dsimp only [Pt.U, Pt.locs, Pt.cells, Pt.slots] at X151 l151 y151 z151 st151 hQ151
            subst l151 y151 z151
            obtain ⟨rfl, Nq151, eh151⟩ := hQ151
            have N152 := Fr.app N147 Nq151
            have pre151 : Rch p.tables e below (s₁.setTop (entryFrame m #[(.int p0), (.int p1), (.int p2), (.int p3)] maxLocals)) (T151.setTop (mkF m 95 #[.val (.int p0), .val (.int p1), .val (.int p2), .val (.int p3), .val (.int kk), .val (.int mm), .val (.int (stv ko)), .val (.int (1 : Int32))] [(.ref (W (cl kk)))])) := fun tgt ktg => pre150 tgt (st151 tgt ktg)
            obtain ⟨b1, b2, b3, b4, b5⟩ := HB kk c133
            obtain ⟨bc, hv_bc⟩ : ∃ nm_ : Addr, nm_ = (W (cl kk)) := ⟨_, rfl⟩
            have pre153 : Rch p.tables e below (s₁.setTop (entryFrame m #[(.int p0), (.int p1), (.int p2), (.int p3)] maxLocals)) (T151.setTop (mkF m 95 #[.val (.int p0), .val (.int p1), .val (.int p2), .val (.int p3), .val (.int kk), .val (.int mm), .val (.int (stv ko)), .val (.int (1 : Int32))] [(.ref bc)])) := fun tgt ktg => pre151 tgt (by rw [hv_bc] at ktg; exact ktg)
            rw [← hv_bc] at b1 b2 b3
            have f154 : Exa Z h0 bc "com/example/error_envelope/errorenvelope/BuiltInCode" := b1
            have pre155 : Rch p.tables e below (s₁.setTop (entryFrame m #[(.int p0), (.int p1), (.int p2), (.int p3)] maxLocals)) (T151.setTop (mkF m 97 #[.val (.int p0), .val (.int p1), .val (.int p2), .val (.int p3), .val (.int kk), .val (.int mm), .val (.int (stv ko)), .val (.int (1 : Int32))] [(.int (stv ko)), (.ref bc)])) := fun tgt ktg => pre153 tgt (by
              show Steps p.tables e below (T151.setTop (mkF m 95 #[.val (.int p0), .val (.int p1), .val (.int p2), .val (.int p3), .val (.int kk), .val (.int mm), .val (.int (stv ko)), .val (.int (1 : Int32))] [(.ref bc)])) _
              refine XS.iload X151.here hx rfl (hb hby at_95) rfl ?_
              exact ktg)
            obtain ⟨cq156, kq156, q156a, q156b, q156c⟩ := isOf hZ eh151 f154
            obtain ⟨_, _, ⟨T156, L156, k156, n156⟩, -, X156, ⟨Lc156, hQ156, l156, y156, z156⟩, st156⟩ := X151.virtualBack hx (y := (⟨"com/example/error_envelope/errorenvelope/BuiltInCode", "standsFor", "(I)Z"⟩ : MethodName)) (z := (⟨"com/example/error_envelope/errorenvelope/BuiltInCode", "standsFor", "(I)Z"⟩ : MethodName)) hown (mvT hZ (hw _ (List.mem_of_getElem? (i := 10) rfl))) (mvT hZ (hw _ (List.mem_of_getElem? (i := 11) rfl))) (notFace_of_selects (args := #[]) (mvT hZ (hw _ (List.mem_of_getElem? (i := 13) rfl)))) (mvT hZ (hw _ (List.mem_of_getElem? (i := 13) rfl))) (mvT hZ (hw _ (List.mem_of_getElem? (i := 12) rfl))) (by decide) (backOf (W := 0) (rmF1 l Z a0 hw [] bc (stv ko) (De kk) (stv kk) h0 n0 Z0 b2 b3 b4 b5) hZ (hw _ (List.mem_of_getElem? (i := 14) rfl)) (hw _ (List.mem_of_getElem? (i := 8) rfl)) (by decide) (by decide)) q156a q156c (g := (mkF m 97 #[.val (.int p0), .val (.int p1), .val (.int p2), .val (.int p3), .val (.int kk), .val (.int mm), .val (.int (stv ko)), .val (.int (1 : Int32))] [(.int (stv ko)), (.ref bc)])) rfl (by rw [hml]; rfl) (Steps.refl _) (argsL := [(.int (stv ko))]) (rest := []) (lenOf pd_2 rfl) rfl (by show 2 * 0 + _ ≤ _; exact Nat.le_of_eq rfl) (hb hby at_97) (fun _ _ => ⟨rfl, eh151, (by decide : 0 + 0 ≤ _), (by decide : 0 + 0 ≤ _)⟩)
            dsimp only [Pt.U, Pt.locs, Pt.cells, Pt.slots] at X156 l156 y156 z156 st156 hQ156
            subst l156 y156 z156
            obtain ⟨rfl, Nq156, eh156⟩ := hQ156
            have N157 := Fr.app N152 Nq156
            have pre156 : Rch p.tables e below (s₁.setTop (entryFrame m #[(.int p0), (.int p1), (.int p2), (.int p3)] maxLocals)) (T156.setTop (mkF m 100 #[.val (.int p0), .val (.int p1), .val (.int p2), .val (.int p3), .val (.int kk), .val (.int mm), .val (.int (stv ko)), .val (.int (1 : Int32))] [(.int (if (stv kk) = (stv ko) then 1 else 0))])) := fun tgt ktg => pre155 tgt (st156.trans ktg)
            have pre158 : Rch p.tables e below (s₁.setTop (entryFrame m #[(.int p0), (.int p1), (.int p2), (.int p3)] maxLocals)) (T156.setTop (mkF m 102 #[.val (.int p0), .val (.int p1), .val (.int p2), .val (.int p3), .val (.int kk), .val (.int mm), .val (.int (stv ko)), .val (.int (1 : Int32))] [(.int (1 : Int32)), (.int (if (stv kk) = (stv ko) then 1 else 0))])) := fun tgt ktg => pre156 tgt (by
              show Steps p.tables e below (T156.setTop (mkF m 100 #[.val (.int p0), .val (.int p1), .val (.int p2), .val (.int p3), .val (.int kk), .val (.int mm), .val (.int (stv ko)), .val (.int (1 : Int32))] [(.int (if (stv kk) = (stv ko) then 1 else 0))])) _
              refine XS.iload X156.here hx rfl (hb hby at_100) rfl ?_
              exact ktg)
            have pre159 : Rch p.tables e below (s₁.setTop (entryFrame m #[(.int p0), (.int p1), (.int p2), (.int p3)] maxLocals)) (T156.setTop (mkF m 110 #[.val (.int p0), .val (.int p1), .val (.int p2), .val (.int p3), .val (.int kk), .val (.int mm), .val (.int (stv ko)), .val (.int (1 : Int32))] [(.int (1 : Int32))])) := fun tgt ktg => pre158 tgt (by
              show Steps p.tables e below (T156.setTop (mkF m 102 #[.val (.int p0), .val (.int p1), .val (.int p2), .val (.int p3), .val (.int kk), .val (.int mm), .val (.int (stv ko)), .val (.int (1 : Int32))] [(.int (1 : Int32)), (.int (if (stv kk) = (stv ko) then 1 else 0))])) _
              refine XS.icmpNo X156.here hx rfl (hb hby at_102) rfl (teq (by rw [if_pos c148.symm])).2 ?_
              show Steps p.tables e below (T156.setTop (mkF m 105 #[.val (.int p0), .val (.int p1), .val (.int p2), .val (.int p3), .val (.int kk), .val (.int mm), .val (.int (stv ko)), .val (.int (1 : Int32))] [])) _
              refine XS.iconst X156.here hx rfl (hb hby at_105) ?_
              show Steps p.tables e below (T156.setTop (mkF m 106 #[.val (.int p0), .val (.int p1), .val (.int p2), .val (.int p3), .val (.int kk), .val (.int mm), .val (.int (stv ko)), .val (.int (1 : Int32))] [(.int (1 : Int32))])) _
              refine XS.goto X156.here hx rfl (pc0 := 106) (pc' := 110) rfl (hb hby at_106) (by decide) (by decide) ?_
              exact ktg)
            obtain ⟨fs, hr, hrun, hended, hW, hsame⟩ := X156.leave (v := some (.int (1 : Int32))) (fun h => by rw [Bd.returns] at h; cases h)
            refine ⟨_, _, pre159 _ ?_, hrun, hended, _, _, rfl, ?_, ⟨_, rfl⟩, hW, hsame.mono (by decide) (by decide)⟩
            · show Steps p.tables e below (T156.setTop (mkF m 110 #[.val (.int p0), .val (.int p1), .val (.int p2), .val (.int p3), .val (.int kk), .val (.int mm), .val (.int (stv ko)), .val (.int (1 : Int32))] [(.int (1 : Int32))])) _
              exact retN X156 hx (t := .boolean) Bd.returns (by simp) (hb hby at_110) hr
            · show Q0 Z p0 p1 p2 p3 h0 n0 _ T156.heap _
              rw [eh156]
              exact ⟨rfl, N157⟩
          · skip
            have pre160 : Rch p.tables e below (s₁.setTop (entryFrame m #[(.int p0), (.int p1), (.int p2), (.int p3)] maxLocals)) (T146.setTop (mkF m 87 #[.val (.int p0), .val (.int p1), .val (.int p2), .val (.int p3), .val (.int kk), .val (.int mm), .val (.int (stv ko)), .unset] [])) := fun tgt ktg => pre146 tgt (by
              show Steps p.tables e below (T146.setTop (mkF m 80 #[.val (.int p0), .val (.int p1), .val (.int p2), .val (.int p3), .val (.int kk), .val (.int mm), .val (.int (stv ko)), .unset] [(.int (stv kk)), (.int (stv ko))])) _
              refine XS.icmpYes X146.here hx rfl (pc0 := 80) (pc' := 87) rfl (hb hby at_80) rfl (feq c148).2 (by decide) (by decide) ?_
              exact ktg)
            have pre161 : Rch p.tables e below (s₁.setTop (entryFrame m #[(.int p0), (.int p1), (.int p2), (.int p3)] maxLocals)) (T146.setTop (mkF m 92 #[.val (.int p0), .val (.int p1), .val (.int p2), .val (.int p3), .val (.int kk), .val (.int mm), .val (.int (stv ko)), .val (.int (0 : Int32))] [(.int kk)])) := fun tgt ktg => pre160 tgt (by
              show Steps p.tables e below (T146.setTop (mkF m 87 #[.val (.int p0), .val (.int p1), .val (.int p2), .val (.int p3), .val (.int kk), .val (.int mm), .val (.int (stv ko)), .unset] [])) _
              refine XS.iconst X146.here hx rfl (hb hby at_87) ?_
              show Steps p.tables e below (T146.setTop (mkF m 88 #[.val (.int p0), .val (.int p1), .val (.int p2), .val (.int p3), .val (.int kk), .val (.int mm), .val (.int (stv ko)), .unset] [(.int (0 : Int32))])) _
              refine XS.istore X146.here hx rfl (hb hby at_88) rfl (l' := #[.val (.int p0), .val (.int p1), .val (.int p2), .val (.int p3), .val (.int kk), .val (.int mm), .val (.int (stv ko)), .val (.int (0 : Int32))]) rfl ?_
              show Steps p.tables e below (T146.setTop (mkF m 90 #[.val (.int p0), .val (.int p1), .val (.int p2), .val (.int p3), .val (.int kk), .val (.int mm), .val (.int (stv ko)), .val (.int (0 : Int32))] [])) _
              refine XS.iload X146.here hx rfl (hb hby at_90) rfl ?_
              exact ktg)
            obtain ⟨_, _, ⟨T162, L162, k162, n162⟩, -, X162, ⟨Lc162, hQ162, l162, y162, z162⟩, st162⟩ := Jvm.LawKit.callS X146 hx (y := (⟨"com/example/error_envelope/errorenvelope/BuiltInCodeStandsForPinLaw", "constant", "(I)Lcom/example/error_envelope/errorenvelope/BuiltInCode;"⟩ : MethodName)) hown (mvT hZ (hw _ (List.mem_of_getElem? (i := 4) rfl))) (mvT hZ (hw _ (List.mem_of_getElem? (i := 5) rfl))) (mvT hZ (hw _ (List.mem_of_getElem? (i := 2) rfl))) (mvT hZ (hw _ (List.mem_of_getElem? (i := 6) rfl))) (by decide) (backOf (W := 0) (rm2 l Z a0 hw [] kk W h0 n0 Z0 S0 S1 S2 S3 S4 S5 S6 S7) hZ (hw _ (List.mem_of_getElem? (i := 6) rfl)) (hw _ (List.mem_of_getElem? (i := 2) rfl)) (by decide) (by decide)) (g := (mkF m 92 #[.val (.int p0), .val (.int p1), .val (.int p2), .val (.int p3), .val (.int kk), .val (.int mm), .val (.int (stv ko)), .val (.int (0 : Int32))] [(.int kk)])) rfl (by rw [hml]; rfl) (argsL := [(.int kk)]) (rest := []) (lenOf pd_1 rfl) rfl (by show 2 * 0 + _ ≤ _; exact Nat.le_of_eq rfl) (hb hby at_92) (fun _ _ => ⟨rfl, eh146, (by decide : 0 + 0 ≤ _), (by decide : 0 + 0 ≤ _)⟩)
            dsimp only [Pt.U, Pt.locs, Pt.cells, Pt.slots] at X162 l162 y162 z162 st162 hQ162
            subst l162 y162 z162
            obtain ⟨rfl, Nq162, eh162⟩ := hQ162
            have N163 := Fr.app N147 Nq162
            have pre162 : Rch p.tables e below (s₁.setTop (entryFrame m #[(.int p0), (.int p1), (.int p2), (.int p3)] maxLocals)) (T162.setTop (mkF m 95 #[.val (.int p0), .val (.int p1), .val (.int p2), .val (.int p3), .val (.int kk), .val (.int mm), .val (.int (stv ko)), .val (.int (0 : Int32))] [(.ref (W (cl kk)))])) := fun tgt ktg => pre161 tgt (st162 tgt ktg)
            obtain ⟨b1, b2, b3, b4, b5⟩ := HB kk c133
            obtain ⟨bc, hv_bc⟩ : ∃ nm_ : Addr, nm_ = (W (cl kk)) := ⟨_, rfl⟩
            have pre164 : Rch p.tables e below (s₁.setTop (entryFrame m #[(.int p0), (.int p1), (.int p2), (.int p3)] maxLocals)) (T162.setTop (mkF m 95 #[.val (.int p0), .val (.int p1), .val (.int p2), .val (.int p3), .val (.int kk), .val (.int mm), .val (.int (stv ko)), .val (.int (0 : Int32))] [(.ref bc)])) := fun tgt ktg => pre162 tgt (by rw [hv_bc] at ktg; exact ktg)
            rw [← hv_bc] at b1 b2 b3
            have f165 : Exa Z h0 bc "com/example/error_envelope/errorenvelope/BuiltInCode" := b1
            have pre166 : Rch p.tables e below (s₁.setTop (entryFrame m #[(.int p0), (.int p1), (.int p2), (.int p3)] maxLocals)) (T162.setTop (mkF m 97 #[.val (.int p0), .val (.int p1), .val (.int p2), .val (.int p3), .val (.int kk), .val (.int mm), .val (.int (stv ko)), .val (.int (0 : Int32))] [(.int (stv ko)), (.ref bc)])) := fun tgt ktg => pre164 tgt (by
              show Steps p.tables e below (T162.setTop (mkF m 95 #[.val (.int p0), .val (.int p1), .val (.int p2), .val (.int p3), .val (.int kk), .val (.int mm), .val (.int (stv ko)), .val (.int (0 : Int32))] [(.ref bc)])) _
              refine XS.iload X162.here hx rfl (hb hby at_95) rfl ?_
              exact ktg)
            obtain ⟨cq167, kq167, q167a, q167b, q167c⟩ := isOf hZ eh162 f165
            obtain ⟨_, _, ⟨T167, L167, k167, n167⟩, -, X167, ⟨Lc167, hQ167, l167, y167, z167⟩, st167⟩ := X162.virtualBack hx (y := (⟨"com/example/error_envelope/errorenvelope/BuiltInCode", "standsFor", "(I)Z"⟩ : MethodName)) (z := (⟨"com/example/error_envelope/errorenvelope/BuiltInCode", "standsFor", "(I)Z"⟩ : MethodName)) hown (mvT hZ (hw _ (List.mem_of_getElem? (i := 10) rfl))) (mvT hZ (hw _ (List.mem_of_getElem? (i := 11) rfl))) (notFace_of_selects (args := #[]) (mvT hZ (hw _ (List.mem_of_getElem? (i := 13) rfl)))) (mvT hZ (hw _ (List.mem_of_getElem? (i := 13) rfl))) (mvT hZ (hw _ (List.mem_of_getElem? (i := 12) rfl))) (by decide) (backOf (W := 0) (rmF1 l Z a0 hw [] bc (stv ko) (De kk) (stv kk) h0 n0 Z0 b2 b3 b4 b5) hZ (hw _ (List.mem_of_getElem? (i := 14) rfl)) (hw _ (List.mem_of_getElem? (i := 8) rfl)) (by decide) (by decide)) q167a q167c (g := (mkF m 97 #[.val (.int p0), .val (.int p1), .val (.int p2), .val (.int p3), .val (.int kk), .val (.int mm), .val (.int (stv ko)), .val (.int (0 : Int32))] [(.int (stv ko)), (.ref bc)])) rfl (by rw [hml]; rfl) (Steps.refl _) (argsL := [(.int (stv ko))]) (rest := []) (lenOf pd_2 rfl) rfl (by show 2 * 0 + _ ≤ _; exact Nat.le_of_eq rfl) (hb hby at_97) (fun _ _ => ⟨rfl, eh162, (by decide : 0 + 0 ≤ _), (by decide : 0 + 0 ≤ _)⟩)
            dsimp only [Pt.U, Pt.locs, Pt.cells, Pt.slots] at X167 l167 y167 z167 st167 hQ167
            subst l167 y167 z167
            obtain ⟨rfl, Nq167, eh167⟩ := hQ167
            have N168 := Fr.app N163 Nq167
            have pre167 : Rch p.tables e below (s₁.setTop (entryFrame m #[(.int p0), (.int p1), (.int p2), (.int p3)] maxLocals)) (T167.setTop (mkF m 100 #[.val (.int p0), .val (.int p1), .val (.int p2), .val (.int p3), .val (.int kk), .val (.int mm), .val (.int (stv ko)), .val (.int (0 : Int32))] [(.int (if (stv kk) = (stv ko) then 1 else 0))])) := fun tgt ktg => pre166 tgt (st167.trans ktg)
            have pre169 : Rch p.tables e below (s₁.setTop (entryFrame m #[(.int p0), (.int p1), (.int p2), (.int p3)] maxLocals)) (T167.setTop (mkF m 102 #[.val (.int p0), .val (.int p1), .val (.int p2), .val (.int p3), .val (.int kk), .val (.int mm), .val (.int (stv ko)), .val (.int (0 : Int32))] [(.int (0 : Int32)), (.int (if (stv kk) = (stv ko) then 1 else 0))])) := fun tgt ktg => pre167 tgt (by
              show Steps p.tables e below (T167.setTop (mkF m 100 #[.val (.int p0), .val (.int p1), .val (.int p2), .val (.int p3), .val (.int kk), .val (.int mm), .val (.int (stv ko)), .val (.int (0 : Int32))] [(.int (if (stv kk) = (stv ko) then 1 else 0))])) _
              refine XS.iload X167.here hx rfl (hb hby at_100) rfl ?_
              exact ktg)
            have pre170 : Rch p.tables e below (s₁.setTop (entryFrame m #[(.int p0), (.int p1), (.int p2), (.int p3)] maxLocals)) (T167.setTop (mkF m 110 #[.val (.int p0), .val (.int p1), .val (.int p2), .val (.int p3), .val (.int kk), .val (.int mm), .val (.int (stv ko)), .val (.int (0 : Int32))] [(.int (1 : Int32))])) := fun tgt ktg => pre169 tgt (by
              show Steps p.tables e below (T167.setTop (mkF m 102 #[.val (.int p0), .val (.int p1), .val (.int p2), .val (.int p3), .val (.int kk), .val (.int mm), .val (.int (stv ko)), .val (.int (0 : Int32))] [(.int (0 : Int32)), (.int (if (stv kk) = (stv ko) then 1 else 0))])) _
              refine XS.icmpNo X167.here hx rfl (hb hby at_102) rfl (teq (by rw [if_neg (fun q => c148 q.symm)])).2 ?_
              show Steps p.tables e below (T167.setTop (mkF m 105 #[.val (.int p0), .val (.int p1), .val (.int p2), .val (.int p3), .val (.int kk), .val (.int mm), .val (.int (stv ko)), .val (.int (0 : Int32))] [])) _
              refine XS.iconst X167.here hx rfl (hb hby at_105) ?_
              show Steps p.tables e below (T167.setTop (mkF m 106 #[.val (.int p0), .val (.int p1), .val (.int p2), .val (.int p3), .val (.int kk), .val (.int mm), .val (.int (stv ko)), .val (.int (0 : Int32))] [(.int (1 : Int32))])) _
              refine XS.goto X167.here hx rfl (pc0 := 106) (pc' := 110) rfl (hb hby at_106) (by decide) (by decide) ?_
              exact ktg)
            obtain ⟨fs, hr, hrun, hended, hW, hsame⟩ := X167.leave (v := some (.int (1 : Int32))) (fun h => by rw [Bd.returns] at h; cases h)
            refine ⟨_, _, pre170 _ ?_, hrun, hended, _, _, rfl, ?_, ⟨_, rfl⟩, hW, hsame.mono (by decide) (by decide)⟩
            · show Steps p.tables e below (T167.setTop (mkF m 110 #[.val (.int p0), .val (.int p1), .val (.int p2), .val (.int p3), .val (.int kk), .val (.int mm), .val (.int (stv ko)), .val (.int (0 : Int32))] [(.int (1 : Int32))])) _
              exact retN X167 hx (t := .boolean) Bd.returns (by simp) (hb hby at_110) hr
            · show Q0 Z p0 p1 p2 p3 h0 n0 _ T167.heap _
              rw [eh167]
              exact ⟨rfl, N168⟩
theorem own_eqi {args : Array Value} {s f : State} {o : Option Outcome} {idx : List Nat} {a : Term} {v : Int32} (h : (Jvm.Cond.eq a (.int v)).value args f o s idx = some true) : a.eval args f o idx s = some (.int v) := by
  simp only [Cond.value, Term.int_eval] at h
  cases ha : a.eval args f o idx s with
  | none => simp [ha] at h
  | some x => cases x <;> simp [ha] at h; rw [h]
set_option maxRecDepth 65536 in
set_option maxHeartbeats 40000000 in
theorem comes_1 {Post : Tables → Env → Array Value → State → Outcome → State → Prop} (hpost : ∀ tb e args s v u, (limb_1_1.after args s (.returned v) u = true ∧ limb_1_2.after args s (.returned v) u = true ∧ True) → FrameEnd s (.returned v) u (Jvm.fieldLocs frame_1_writes args s ++ Jvm.arrayLocs frame_1_arrays args s ++ Jvm.staticLocs frame_1_statics s) 0 0 → Post tb e args s (.returned v) u) :
    ArmFor flags0 classFile x code maxLocals ret World_1 tables_1 room_1 Calls_1 rest_1 Pre_1 Post := by
  intro l hfl _ _ p e ha hc hk s m args below hf hA hF happ hP
  obtain ⟨hcalls, hrest, hpre⟩ := hP
  obtain ⟨-, -, -, hnamed, -, -, -, hat⟩ := (Spec.applies_iff hf).mp happ
  obtain ⟨hg, hn⟩ := and_e (Cond.before_iff.mp (show (Jvm.Cond.and given_1 narrow_1).before args s = true from hpre))
  obtain ⟨gc, g0⟩ := and_e hg
  obtain ⟨ga0, g1⟩ := and_e g0
  obtain ⟨ga1, g2⟩ := and_e g1
  obtain ⟨ga2, g3⟩ := and_e g2
  obtain ⟨w0, w1, w2, w3, rfl⟩ : ∃ w0 w1 w2 w3 : Value, args = #[w0, w1, w2, w3] := by
    have hs : args.size = 4 := by simpa [Cond.value, given_1] using gc
    obtain ⟨L⟩ := args
    match L, hs with
    | [w0, w1, w2, w3], _ => exact ⟨w0, w1, w2, w3, rfl⟩
  have hw := fun d (hd : d ∈ tables_1) => atoms_spec (ws := Jvm.Cond.code x code maxLocals ret :: tables_1) hat d (List.mem_cons_of_mem _ hd)
  have hfit : Fit s := fun {y c} hc i hi => by
    obtain ⟨ha, rfl⟩ := Array.getElem?_eq_some_iff.mp hc
    have q := List.all_eq_true.mp ((Array.all_eq_true_iff_forall_mem.mp hF) _ (Array.getElem_mem ha)) i (List.mem_range.mpr hi)
    simpa [Array.getElem?_eq_getElem hi] using q
  obtain ⟨i0, ei0⟩ := is_v ga0
  obtain rfl : w0 = (.int i0) := Option.some.inj ei0
  obtain ⟨i1, ei1⟩ := is_v ga1
  obtain rfl : w1 = (.int i1) := Option.some.inj ei1
  obtain ⟨i2, ei2⟩ := is_v ga2
  obtain rfl : w2 = (.int i2) := Option.some.inj ei2
  obtain ⟨i3, ei3⟩ := is_v g3
  obtain rfl : w3 = (.int i3) := Option.some.inj ei3
  obtain ⟨nE0, r0⟩ := and_e hn
  obtain ⟨nS0, r1⟩ := and_e r0
  obtain ⟨nD0, r2⟩ := and_e r1
  obtain ⟨nT0, r3⟩ := and_e r2
  obtain ⟨nE4, r4⟩ := and_e r3
  obtain ⟨nS4, r5⟩ := and_e r4
  obtain ⟨nE7, r6⟩ := and_e r5
  obtain ⟨nS7, r7⟩ := and_e r6
  obtain ⟨nD7, r8⟩ := and_e r7
  obtain ⟨nT7, r9⟩ := and_e r8
  obtain ⟨nE2, r10⟩ := and_e r9
  obtain ⟨nS2, r11⟩ := and_e r10
  obtain ⟨nD2, r12⟩ := and_e r11
  obtain ⟨nT2, r13⟩ := and_e r12
  obtain ⟨nE1, r14⟩ := and_e r13
  obtain ⟨nS1, r15⟩ := and_e r14
  obtain ⟨nD1, r16⟩ := and_e r15
  obtain ⟨nT1, r17⟩ := and_e r16
  obtain ⟨nE3, r18⟩ := and_e r17
  obtain ⟨nS3, r19⟩ := and_e r18
  obtain ⟨nD3, r20⟩ := and_e r19
  obtain ⟨nT3, r21⟩ := and_e r20
  obtain ⟨nE5, r22⟩ := and_e r21
  obtain ⟨nS5, r23⟩ := and_e r22
  obtain ⟨nD5, r24⟩ := and_e r23
  obtain ⟨nT5, r25⟩ := and_e r24
  obtain ⟨nE6, r26⟩ := and_e r25
  obtain ⟨nS6, r27⟩ := and_e r26
  obtain ⟨nD6, r28⟩ := and_e r27
  obtain ⟨nT6, r29⟩ := and_e r28
  obtain ⟨nD4, r30⟩ := and_e r29
  have nT4 := r30
  obtain ⟨v0, ev0⟩ := exa_v nE0
  have S0 : Sta s s.heap "com/example/error_envelope/errorenvelope/BuiltInCode" "NOT_FOUND" "Lcom/example/error_envelope/errorenvelope/BuiltInCode;" (.ref v0) := Sta.start ev0 (Or.inr ⟨(hw _ (List.mem_of_getElem? (i := 8) rfl)), (hw _ (List.mem_of_getElem? (i := 9) rfl))⟩)
  have E0 := Exa.start ev0 nE0
  have F0 : Fld s s.heap v0 "com/example/error_envelope/errorenvelope/BuiltInCode" "standsForStatus" "Z" (.int 1) := Fld.start ((fld_at ev0).symm.trans (own_eqi nS0))
  obtain ⟨d0, ed0⟩ := exa_v nD0
  have G0 : Fld s s.heap v0 "com/example/error_envelope/errorenvelope/BuiltInCode" "defaultEntry" "Lcom/example/error_envelope/errorenvelope/ErrorCode;" (.ref d0) := Fld.start ((fld_at ev0).symm.trans ed0)
  have J0 := Exa.start ed0 nD0
  have K0 : Fld s s.heap d0 "com/example/error_envelope/errorenvelope/ErrorCode" "status" "I" (.int 404) := Fld.start ((fld_at ed0).symm.trans (own_eqi nT0))
  obtain ⟨v1, ev1⟩ := exa_v nE1
  have S1 : Sta s s.heap "com/example/error_envelope/errorenvelope/BuiltInCode" "METHOD_NOT_ALLOWED" "Lcom/example/error_envelope/errorenvelope/BuiltInCode;" (.ref v1) := Sta.start ev1 (Or.inr ⟨(hw _ (List.mem_of_getElem? (i := 8) rfl)), (hw _ (List.mem_of_getElem? (i := 34) rfl))⟩)
  have E1 := Exa.start ev1 nE1
  have F1 : Fld s s.heap v1 "com/example/error_envelope/errorenvelope/BuiltInCode" "standsForStatus" "Z" (.int 1) := Fld.start ((fld_at ev1).symm.trans (own_eqi nS1))
  obtain ⟨d1, ed1⟩ := exa_v nD1
  have G1 : Fld s s.heap v1 "com/example/error_envelope/errorenvelope/BuiltInCode" "defaultEntry" "Lcom/example/error_envelope/errorenvelope/ErrorCode;" (.ref d1) := Fld.start ((fld_at ev1).symm.trans ed1)
  have J1 := Exa.start ed1 nD1
  have K1 : Fld s s.heap d1 "com/example/error_envelope/errorenvelope/ErrorCode" "status" "I" (.int 405) := Fld.start ((fld_at ed1).symm.trans (own_eqi nT1))
  obtain ⟨v2, ev2⟩ := exa_v nE2
  have S2 : Sta s s.heap "com/example/error_envelope/errorenvelope/BuiltInCode" "UNSUPPORTED_MEDIA_TYPE" "Lcom/example/error_envelope/errorenvelope/BuiltInCode;" (.ref v2) := Sta.start ev2 (Or.inr ⟨(hw _ (List.mem_of_getElem? (i := 8) rfl)), (hw _ (List.mem_of_getElem? (i := 32) rfl))⟩)
  have E2 := Exa.start ev2 nE2
  have F2 : Fld s s.heap v2 "com/example/error_envelope/errorenvelope/BuiltInCode" "standsForStatus" "Z" (.int 1) := Fld.start ((fld_at ev2).symm.trans (own_eqi nS2))
  obtain ⟨d2, ed2⟩ := exa_v nD2
  have G2 : Fld s s.heap v2 "com/example/error_envelope/errorenvelope/BuiltInCode" "defaultEntry" "Lcom/example/error_envelope/errorenvelope/ErrorCode;" (.ref d2) := Fld.start ((fld_at ev2).symm.trans ed2)
  have J2 := Exa.start ed2 nD2
  have K2 : Fld s s.heap d2 "com/example/error_envelope/errorenvelope/ErrorCode" "status" "I" (.int 415) := Fld.start ((fld_at ed2).symm.trans (own_eqi nT2))
  obtain ⟨v3, ev3⟩ := exa_v nE3
  have S3 : Sta s s.heap "com/example/error_envelope/errorenvelope/BuiltInCode" "PAYLOAD_TOO_LARGE" "Lcom/example/error_envelope/errorenvelope/BuiltInCode;" (.ref v3) := Sta.start ev3 (Or.inr ⟨(hw _ (List.mem_of_getElem? (i := 8) rfl)), (hw _ (List.mem_of_getElem? (i := 36) rfl))⟩)
  have E3 := Exa.start ev3 nE3
  have F3 : Fld s s.heap v3 "com/example/error_envelope/errorenvelope/BuiltInCode" "standsForStatus" "Z" (.int 1) := Fld.start ((fld_at ev3).symm.trans (own_eqi nS3))
  obtain ⟨d3, ed3⟩ := exa_v nD3
  have G3 : Fld s s.heap v3 "com/example/error_envelope/errorenvelope/BuiltInCode" "defaultEntry" "Lcom/example/error_envelope/errorenvelope/ErrorCode;" (.ref d3) := Fld.start ((fld_at ev3).symm.trans ed3)
  have J3 := Exa.start ed3 nD3
  have K3 : Fld s s.heap d3 "com/example/error_envelope/errorenvelope/ErrorCode" "status" "I" (.int 413) := Fld.start ((fld_at ed3).symm.trans (own_eqi nT3))
  obtain ⟨v4, ev4⟩ := exa_v nE4
  have S4 : Sta s s.heap "com/example/error_envelope/errorenvelope/BuiltInCode" "INVALID_JSON" "Lcom/example/error_envelope/errorenvelope/BuiltInCode;" (.ref v4) := Sta.start ev4 (Or.inr ⟨(hw _ (List.mem_of_getElem? (i := 8) rfl)), (hw _ (List.mem_of_getElem? (i := 28) rfl))⟩)
  have E4 := Exa.start ev4 nE4
  have F4 : Fld s s.heap v4 "com/example/error_envelope/errorenvelope/BuiltInCode" "standsForStatus" "Z" (.int 0) := Fld.start ((fld_at ev4).symm.trans (own_eqi nS4))
  obtain ⟨v5, ev5⟩ := exa_v nE5
  have S5 : Sta s s.heap "com/example/error_envelope/errorenvelope/BuiltInCode" "VALIDATION_ERROR" "Lcom/example/error_envelope/errorenvelope/BuiltInCode;" (.ref v5) := Sta.start ev5 (Or.inr ⟨(hw _ (List.mem_of_getElem? (i := 8) rfl)), (hw _ (List.mem_of_getElem? (i := 38) rfl))⟩)
  have E5 := Exa.start ev5 nE5
  have F5 : Fld s s.heap v5 "com/example/error_envelope/errorenvelope/BuiltInCode" "standsForStatus" "Z" (.int 1) := Fld.start ((fld_at ev5).symm.trans (own_eqi nS5))
  obtain ⟨d5, ed5⟩ := exa_v nD5
  have G5 : Fld s s.heap v5 "com/example/error_envelope/errorenvelope/BuiltInCode" "defaultEntry" "Lcom/example/error_envelope/errorenvelope/ErrorCode;" (.ref d5) := Fld.start ((fld_at ev5).symm.trans ed5)
  have J5 := Exa.start ed5 nD5
  have K5 : Fld s s.heap d5 "com/example/error_envelope/errorenvelope/ErrorCode" "status" "I" (.int 422) := Fld.start ((fld_at ed5).symm.trans (own_eqi nT5))
  obtain ⟨v6, ev6⟩ := exa_v nE6
  have S6 : Sta s s.heap "com/example/error_envelope/errorenvelope/BuiltInCode" "RATE_LIMITED" "Lcom/example/error_envelope/errorenvelope/BuiltInCode;" (.ref v6) := Sta.start ev6 (Or.inr ⟨(hw _ (List.mem_of_getElem? (i := 8) rfl)), (hw _ (List.mem_of_getElem? (i := 40) rfl))⟩)
  have E6 := Exa.start ev6 nE6
  have F6 : Fld s s.heap v6 "com/example/error_envelope/errorenvelope/BuiltInCode" "standsForStatus" "Z" (.int 1) := Fld.start ((fld_at ev6).symm.trans (own_eqi nS6))
  obtain ⟨d6, ed6⟩ := exa_v nD6
  have G6 : Fld s s.heap v6 "com/example/error_envelope/errorenvelope/BuiltInCode" "defaultEntry" "Lcom/example/error_envelope/errorenvelope/ErrorCode;" (.ref d6) := Fld.start ((fld_at ev6).symm.trans ed6)
  have J6 := Exa.start ed6 nD6
  have K6 : Fld s s.heap d6 "com/example/error_envelope/errorenvelope/ErrorCode" "status" "I" (.int 429) := Fld.start ((fld_at ed6).symm.trans (own_eqi nT6))
  obtain ⟨v7, ev7⟩ := exa_v nE7
  have S7 : Sta s s.heap "com/example/error_envelope/errorenvelope/BuiltInCode" "INTERNAL_ERROR" "Lcom/example/error_envelope/errorenvelope/BuiltInCode;" (.ref v7) := Sta.start ev7 (Or.inr ⟨(hw _ (List.mem_of_getElem? (i := 8) rfl)), (hw _ (List.mem_of_getElem? (i := 30) rfl))⟩)
  have E7 := Exa.start ev7 nE7
  have F7 : Fld s s.heap v7 "com/example/error_envelope/errorenvelope/BuiltInCode" "standsForStatus" "Z" (.int 1) := Fld.start ((fld_at ev7).symm.trans (own_eqi nS7))
  obtain ⟨d7, ed7⟩ := exa_v nD7
  have G7 : Fld s s.heap v7 "com/example/error_envelope/errorenvelope/BuiltInCode" "defaultEntry" "Lcom/example/error_envelope/errorenvelope/ErrorCode;" (.ref d7) := Fld.start ((fld_at ev7).symm.trans ed7)
  have J7 := Exa.start ed7 nD7
  have K7 : Fld s s.heap d7 "com/example/error_envelope/errorenvelope/ErrorCode" "status" "I" (.int 500) := Fld.start ((fld_at ed7).symm.trans (own_eqi nT7))
  let W : Int32 → Addr := fun k => if k = 0 then v0 else if k = 1 then v1 else if k = 2 then v2 else if k = 3 then v3 else if k = 4 then v4 else if k = 5 then v5 else if k = 6 then v6 else v7
  let De : Int32 → Addr := fun k => if k = 0 then d0 else if k = 1 then d1 else if k = 2 then d2 else if k = 3 then d3 else if k = 4 then 0 else if k = 5 then d5 else if k = 6 then d6 else d7
  have HB : ∀ k : Int32, ¬ k = 4 → Exa s s.heap (W (cl k)) "com/example/error_envelope/errorenvelope/BuiltInCode" ∧ Fld s s.heap (W (cl k)) "com/example/error_envelope/errorenvelope/BuiltInCode" "standsForStatus" "Z" (.int 1) ∧ Fld s s.heap (W (cl k)) "com/example/error_envelope/errorenvelope/BuiltInCode" "defaultEntry" "Lcom/example/error_envelope/errorenvelope/ErrorCode;" (.ref (De k)) ∧ Exa s s.heap (De k) "com/example/error_envelope/errorenvelope/ErrorCode" ∧ Fld s s.heap (De k) "com/example/error_envelope/errorenvelope/ErrorCode" "status" "I" (.int (stv k)) := by
    intro k h4
    by_cases k0 : k = 0
    · subst k0; exact ⟨E0, F0, G0, J0, K0⟩
    by_cases k1 : k = 1
    · subst k1; exact ⟨E1, F1, G1, J1, K1⟩
    by_cases k2 : k = 2
    · subst k2; exact ⟨E2, F2, G2, J2, K2⟩
    by_cases k3 : k = 3
    · subst k3; exact ⟨E3, F3, G3, J3, K3⟩
    by_cases k5 : k = 5
    · subst k5; exact ⟨E5, F5, G5, J5, K5⟩
    by_cases k6 : k = 6
    · subst k6; exact ⟨E6, F6, G6, J6, K6⟩
    have e1 : cl k = 7 := by simp [cl, k0, k1, k2, k3, k5, k6, h4]
    have e2 : De k = d7 := by simp [De, k0, k1, k2, k3, k5, k6, h4]
    have e3 : stv k = 500 := by simp [stv, k0, k1, k2, k3, k5, k6, h4]
    rw [e1, e2, e3]
    exact ⟨E7, F7, G7, J7, K7⟩
  obtain ⟨n, o, h1, h2, h3, _, L, rfl, ⟨rfl, N⟩, hq⟩ := rm0 l s _ hw tables_1 i0 i1 i2 i3 s.heap s.heap.size (Nat.le_refl _) W S0 S1 S2 S3 S4 S5 S6 S7 De HB ⟨E4, F4⟩ p e ha hc hk s m _ below hf ((Spec.applies_iff_loose hf).mp happ).1 ⟨rfl, State.Warmed39.refl s, rfl⟩ trivial
  refine ⟨n, _, h1, h2, h3, hpost _ _ _ _ _ _ ⟨Cond.after_iff.mpr rfl, Cond.after_iff.mpr (eq_i res_at (Term.int_eval (1)) rfl), trivial⟩ ⟨hq.1, hq.2.1, (hq.2.2.sift fun y hy => Or.inr (N y hy)).mono (by decide) (by decide)⟩⟩
theorem main_1_1 : Claimed_1_1 := comes_1 fun _ _ _ _ _ _ h hF => ⟨h.1, hF⟩
theorem main_1_2 : Claimed_1_2 := comes_1 fun _ _ _ _ _ _ h hF => ⟨h.2.1, hF⟩
end Jvm.Pilot.@@N@@
namespace Jvm.Pilot.@@N@@
open Jvm Jvm.ClassFile Sem Op Lib Jvm.Free Jvm.Stand Jvm.Pilot.@@N@@.Jvm.D
/-! MADE BY PROGRAM (witnessworld.py) out of the Statement's table words and the real class files: 14 classes; the members and pool entries that the words name. The judged class is class 1, her method 3. -/
namespace start1
open Jvm.ClassFile
def u (s : String) : CpInfo := .utf8 (stringToUtf16 s)
/-- a pool by its gaps: so many unusable entries, then the entry; so many at the end -/
def gap : Nat → List CpInfo → List CpInfo
  | 0, r => r
  | n + 1, r => .unusable :: gap n r
def poolList (es : List (Nat × CpInfo)) (last : Nat) : List CpInfo := es.foldr (fun e r => gap e.1 (e.2 :: r)) (gap last [])
def pool (es : List (Nat × CpInfo)) (last : Nat) : Array CpInfo := ⟨poolList es last⟩
def fileOf (pool : Array CpInfo) (this : Nat) (attrs : Array Attribute := #[]) (ms : Array MethodInfo := #[]) (fl : Nat := 33) (sup : Nat := 0) (ifs : Array Nat := #[]) (fds : Array FieldInfo := #[]) : ClassFile where
  minorVersion := 0
  majorVersion := 65
  constantPool := pool
  accessFlags := fl
  thisClass := this
  superClass := sup
  interfaces := ifs
  fields := fds
  methods := ms
  attributes := attrs
def plain (name : String) (sup : Option ClassId) : Class where
  name := name
  kind := .ordinary
  loader := none
  accessFlags := 33
  super := sup
  interfaces := #[]
  cf := none
  fields := #[]
  methods := #[]
  instanceTypes := #[]
  staticTypes := #[]
  resolved := #[]
  callSites := []
  init := .initialized
  statics := none
  mirror := none

def pool0 : Array CpInfo := pool [(5, u "<init>"), (0, u "()V"), (1, .class_ 10), (1, u "java/lang/Object")] 113

def k0m0 : Method := { name := "<init>", desc := "()V", sig := { parameters := [], returnType := none }, accessFlags := 1, code := none }
/-- java/lang/Object -/
def k0 : Class := { plain "java/lang/Object" none with
  accessFlags := 33
  interfaces := #[]
  cf := some (fileOf pool0 8 #[] #[{ accessFlags := 1, nameIndex := 5, descriptorIndex := 6, attributes := #[] }] 33 0 #[] #[])
  fields := #[]
  methods := #[k0m0]
  instanceTypes := #[]
  staticTypes := #[]
  resolved := Array.replicate 124 none
  statics := none }

def pool1 : Array CpInfo := pool [(2, .class_ 4), (1, u "java/lang/Object"), (0, u "<init>"), (0, u "()V"), (0, .fieldref 8 9), (0, .class_ 10), (0, .nameAndType 11 12), (0, u "com/example/error_envelope/errorenvelope/BuiltInCode"), (0, u "NOT_FOUND"), (0, u "Lcom/example/error_envelope/errorenvelope/BuiltInCode;"), (0, .fieldref 8 14), (0, .nameAndType 15 12), (0, u "METHOD_NOT_ALLOWED"), (0, .fieldref 8 17), (0, .nameAndType 18 12), (0, u "UNSUPPORTED_MEDIA_TYPE"), (0, .fieldref 8 20), (0, .nameAndType 21 12), (0, u "PAYLOAD_TOO_LARGE"), (0, .fieldref 8 23), (0, .nameAndType 24 12), (0, u "INVALID_JSON"), (0, .fieldref 8 26), (0, .nameAndType 27 12), (0, u "VALIDATION_ERROR"), (0, .fieldref 8 29), (0, .nameAndType 30 12), (0, u "RATE_LIMITED"), (0, .fieldref 8 32), (0, .nameAndType 33 12), (0, u "INTERNAL_ERROR"), (0, .methodref 35 36), (0, .class_ 37), (0, .nameAndType 38 39), (0, u "com/example/error_envelope/errorenvelope/BuiltInCodeStandsForPinLaw"), (0, u "statusOf"), (0, u "(I)I"), (0, .methodref 35 41), (0, .nameAndType 42 43), (0, u "constant"), (0, u "(I)Lcom/example/error_envelope/errorenvelope/BuiltInCode;"), (0, .methodref 8 45), (0, .nameAndType 46 47), (0, u "standsFor"), (0, u "(I)Z"), (3, u "law"), (0, u "(IIII)Z")] 2

def k1m0 : Method := { name := "<init>", desc := "()V", sig := { parameters := [], returnType := none }, accessFlags := 1, code := none }
def k1c1 : Code := { maxStack := 2, maxLocals := 1, code := method_2_code, exceptionTable := #[], attributes := #[] }
def k1m1 : Method := { name := "constant", desc := "(I)Lcom/example/error_envelope/errorenvelope/BuiltInCode;", sig := { parameters := [.int], returnType := some (.object "com/example/error_envelope/errorenvelope/BuiltInCode") }, accessFlags := 10, code := some k1c1 }
def k1c2 : Code := { maxStack := 2, maxLocals := 1, code := method_3_code, exceptionTable := #[], attributes := #[] }
def k1m2 : Method := { name := "statusOf", desc := "(I)I", sig := { parameters := [.int], returnType := some .int }, accessFlags := 10, code := some k1c2 }
def k1c3 : Code := { maxStack := 3, maxLocals := 8, code := code, exceptionTable := #[], attributes := #[] }
def k1m3 : Method := { name := "law", desc := "(IIII)Z", sig := { parameters := [.int, .int, .int, .int], returnType := some .boolean }, accessFlags := 9, code := some k1c3 }
/-- com/example/error_envelope/errorenvelope/BuiltInCodeStandsForPinLaw -/
def k1 : Class := { plain "com/example/error_envelope/errorenvelope/BuiltInCodeStandsForPinLaw" (some 0) with
  accessFlags := 49
  interfaces := #[]
  cf := some (fileOf pool1 35 #[] #[{ accessFlags := 1, nameIndex := 5, descriptorIndex := 6, attributes := #[] }, { accessFlags := 10, nameIndex := 42, descriptorIndex := 43, attributes := #[] }, { accessFlags := 10, nameIndex := 38, descriptorIndex := 39, attributes := #[] }, { accessFlags := 9, nameIndex := 51, descriptorIndex := 52, attributes := #[] }] 49 2 #[] #[])
  fields := #[]
  methods := #[k1m0, k1m1, k1m2, k1m3]
  instanceTypes := #[]
  staticTypes := #[]
  resolved := Array.replicate 55 none
  statics := none }

def pool2 : Array CpInfo := pool [(1, .class_ 2), (0, u "java/lang/constant/Constable"), (0, .class_ 4), (0, u "java/lang/Object")] 6

/-- java/lang/constant/Constable -/
def k2 : Class := { plain "java/lang/constant/Constable" (some 0) with
  accessFlags := 1537
  interfaces := #[]
  cf := some (fileOf pool2 1 #[] #[] 1537 3 #[] #[])
  fields := #[]
  methods := #[]
  instanceTypes := #[]
  staticTypes := #[]
  resolved := Array.replicate 11 none
  statics := none }

def pool3 : Array CpInfo := pool [(1, .class_ 2), (0, u "java/lang/Comparable"), (0, .class_ 4), (0, u "java/lang/Object")] 7

/-- java/lang/Comparable -/
def k3 : Class := { plain "java/lang/Comparable" (some 0) with
  accessFlags := 1537
  interfaces := #[]
  cf := some (fileOf pool3 1 #[] #[] 1537 3 #[] #[])
  fields := #[]
  methods := #[]
  instanceTypes := #[]
  staticTypes := #[]
  resolved := Array.replicate 12 none
  statics := none }

def pool4 : Array CpInfo := pool [(1, .class_ 2), (0, u "java/io/Serializable"), (0, .class_ 4), (0, u "java/lang/Object")] 2

/-- java/io/Serializable -/
def k4 : Class := { plain "java/io/Serializable" (some 0) with
  accessFlags := 1537
  interfaces := #[]
  cf := some (fileOf pool4 1 #[] #[] 1537 3 #[] #[])
  fields := #[]
  methods := #[]
  instanceTypes := #[]
  staticTypes := #[]
  resolved := Array.replicate 7 none
  statics := none }

def pool5 : Array CpInfo := pool [(2, .class_ 4), (1, u "java/lang/Enum"), (0, u "name"), (0, u "Ljava/lang/String;"), (2, u "ordinal"), (0, u "I"), (1, .class_ 14), (1, u "java/lang/Object"), (4, u "hash"), (86, .class_ 108), (1, u "java/lang/Enum$EnumDesc"), (2, .class_ 112), (0, u "java/lang/constant/Constable"), (0, .class_ 114), (0, u "java/lang/Comparable"), (0, .class_ 116), (0, u "java/io/Serializable")] 87

/-- java/lang/Enum -/
def k5 : Class := { plain "java/lang/Enum" (some 0) with
  accessFlags := 1057
  interfaces := #[2, 3, 4]
  cf := some (fileOf pool5 2 #[.nestMembers #[106]] #[] 1057 12 #[111, 113, 115] #[{ accessFlags := 18, nameIndex := 5, descriptorIndex := 6, attributes := #[] }, { accessFlags := 18, nameIndex := 9, descriptorIndex := 10, attributes := #[] }, { accessFlags := 2, nameIndex := 19, descriptorIndex := 10, attributes := #[] }])
  fields := #[{ name := "name", type := (.object "java/lang/String"), accessFlags := 18, slot := 0, constantValue := 0 }, { name := "ordinal", type := .int, accessFlags := 18, slot := 1, constantValue := 0 }, { name := "hash", type := .int, accessFlags := 2, slot := 2, constantValue := 0 }]
  methods := #[]
  instanceTypes := #[(.object "java/lang/String"), .int, .int]
  staticTypes := #[]
  resolved := Array.replicate 204 none
  statics := none }

def pool6 : Array CpInfo := pool [(1, .class_ 2), (0, u "com/example/error_envelope/errorenvelope/BuiltInCode"), (2, u "NOT_FOUND"), (0, u "Lcom/example/error_envelope/errorenvelope/BuiltInCode;"), (2, u "METHOD_NOT_ALLOWED"), (2, u "UNSUPPORTED_MEDIA_TYPE"), (2, u "PAYLOAD_TOO_LARGE"), (2, u "INVALID_JSON"), (2, u "VALIDATION_ERROR"), (2, u "RATE_LIMITED"), (2, u "INTERNAL_ERROR"), (2, u "$VALUES"), (0, u "[Lcom/example/error_envelope/errorenvelope/BuiltInCode;"), (6, .class_ 40), (1, u "java/lang/Enum"), (6, .class_ 48), (0, u "com/example/error_envelope/errorenvelope/ErrorCode"), (3, .fieldref 1 53), (0, .nameAndType 54 55), (0, u "defaultEntry"), (0, u "Lcom/example/error_envelope/errorenvelope/ErrorCode;"), (0, .fieldref 1 57), (0, .nameAndType 58 59), (0, u "standsForStatus"), (0, u "Z"), (0, .methodref 47 61), (0, .nameAndType 62 63), (0, u "status"), (0, u "()I"), (55, u "standsFor"), (0, u "(I)Z")] 6

def k6c0 : Code := { maxStack := 2, maxLocals := 2, code := prog_2_method_5_code, exceptionTable := #[], attributes := #[] }
def k6m0 : Method := { name := "standsFor", desc := "(I)Z", sig := { parameters := [.int], returnType := some .boolean }, accessFlags := 0, code := some k6c0 }
/-- com/example/error_envelope/errorenvelope/BuiltInCode -/
def k6 : Class := { plain "com/example/error_envelope/errorenvelope/BuiltInCode" (some 5) with
  accessFlags := 16433
  interfaces := #[]
  cf := some (fileOf pool6 1 #[] #[{ accessFlags := 0, nameIndex := 119, descriptorIndex := 120, attributes := #[] }] 16433 38 #[] #[{ accessFlags := 16409, nameIndex := 5, descriptorIndex := 6, attributes := #[] }, { accessFlags := 16409, nameIndex := 9, descriptorIndex := 6, attributes := #[] }, { accessFlags := 16409, nameIndex := 12, descriptorIndex := 6, attributes := #[] }, { accessFlags := 16409, nameIndex := 15, descriptorIndex := 6, attributes := #[] }, { accessFlags := 16409, nameIndex := 18, descriptorIndex := 6, attributes := #[] }, { accessFlags := 16409, nameIndex := 21, descriptorIndex := 6, attributes := #[] }, { accessFlags := 16409, nameIndex := 24, descriptorIndex := 6, attributes := #[] }, { accessFlags := 16409, nameIndex := 27, descriptorIndex := 6, attributes := #[] }, { accessFlags := 18, nameIndex := 54, descriptorIndex := 55, attributes := #[] }, { accessFlags := 18, nameIndex := 58, descriptorIndex := 59, attributes := #[] }, { accessFlags := 4122, nameIndex := 30, descriptorIndex := 31, attributes := #[] }])
  fields := #[{ name := "NOT_FOUND", type := (.object "com/example/error_envelope/errorenvelope/BuiltInCode"), accessFlags := 16409, slot := 0, constantValue := 0 }, { name := "METHOD_NOT_ALLOWED", type := (.object "com/example/error_envelope/errorenvelope/BuiltInCode"), accessFlags := 16409, slot := 1, constantValue := 0 }, { name := "UNSUPPORTED_MEDIA_TYPE", type := (.object "com/example/error_envelope/errorenvelope/BuiltInCode"), accessFlags := 16409, slot := 2, constantValue := 0 }, { name := "PAYLOAD_TOO_LARGE", type := (.object "com/example/error_envelope/errorenvelope/BuiltInCode"), accessFlags := 16409, slot := 3, constantValue := 0 }, { name := "INVALID_JSON", type := (.object "com/example/error_envelope/errorenvelope/BuiltInCode"), accessFlags := 16409, slot := 4, constantValue := 0 }, { name := "VALIDATION_ERROR", type := (.object "com/example/error_envelope/errorenvelope/BuiltInCode"), accessFlags := 16409, slot := 5, constantValue := 0 }, { name := "RATE_LIMITED", type := (.object "com/example/error_envelope/errorenvelope/BuiltInCode"), accessFlags := 16409, slot := 6, constantValue := 0 }, { name := "INTERNAL_ERROR", type := (.object "com/example/error_envelope/errorenvelope/BuiltInCode"), accessFlags := 16409, slot := 7, constantValue := 0 }, { name := "defaultEntry", type := (.object "com/example/error_envelope/errorenvelope/ErrorCode"), accessFlags := 18, slot := 3, constantValue := 0 }, { name := "standsForStatus", type := .boolean, accessFlags := 18, slot := 4, constantValue := 0 }, { name := "$VALUES", type := (.array (.object "com/example/error_envelope/errorenvelope/BuiltInCode")), accessFlags := 4122, slot := 8, constantValue := 0 }]
  methods := #[k6m0]
  instanceTypes := #[(.object "java/lang/String"), .int, .int, (.object "com/example/error_envelope/errorenvelope/ErrorCode"), .boolean]
  staticTypes := #[(.object "com/example/error_envelope/errorenvelope/BuiltInCode"), (.object "com/example/error_envelope/errorenvelope/BuiltInCode"), (.object "com/example/error_envelope/errorenvelope/BuiltInCode"), (.object "com/example/error_envelope/errorenvelope/BuiltInCode"), (.object "com/example/error_envelope/errorenvelope/BuiltInCode"), (.object "com/example/error_envelope/errorenvelope/BuiltInCode"), (.object "com/example/error_envelope/errorenvelope/BuiltInCode"), (.object "com/example/error_envelope/errorenvelope/BuiltInCode"), (.array (.object "com/example/error_envelope/errorenvelope/BuiltInCode"))]
  resolved := Array.replicate 127 none
  statics := some 0 }

def pool7 : Array CpInfo := pool [(2, .class_ 4), (1, u "java/lang/Object"), (0, u "<init>"), (0, u "()V"), (0, .class_ 8), (0, u "java/lang/Record")] 13

def k7m0 : Method := { name := "<init>", desc := "()V", sig := { parameters := [], returnType := none }, accessFlags := 4, code := none }
/-- java/lang/Record -/
def k7 : Class := { plain "java/lang/Record" (some 0) with
  accessFlags := 1057
  interfaces := #[]
  cf := some (fileOf pool7 7 #[] #[{ accessFlags := 4, nameIndex := 5, descriptorIndex := 6, attributes := #[] }] 1057 2 #[] #[])
  fields := #[]
  methods := #[k7m0]
  instanceTypes := #[]
  staticTypes := #[]
  resolved := Array.replicate 22 none
  statics := none }

def pool8 : Array CpInfo := pool [(2, .class_ 4), (1, u "java/lang/Record"), (3, u "code"), (7, u "defaultMessage"), (1, .class_ 20), (1, u "com/example/error_envelope/errorenvelope/ErrorCode"), (35, u "Ljava/lang/String;"), (0, .fieldref 18 58), (0, .nameAndType 59 60), (0, u "status"), (0, u "I"), (8, u "()I"), (25, .class_ 96), (0, u "java/io/Serializable"), (0, u "MIN_STATUS"), (2, u "MAX_STATUS")] 38

def k8c0 : Code := { maxStack := 1, maxLocals := 1, code := prog_6_method_7_code, exceptionTable := #[], attributes := #[] }
def k8m0 : Method := { name := "status", desc := "()I", sig := { parameters := [], returnType := some .int }, accessFlags := 1, code := some k8c0 }
/-- com/example/error_envelope/errorenvelope/ErrorCode -/
def k8 : Class := { plain "com/example/error_envelope/errorenvelope/ErrorCode" (some 7) with
  accessFlags := 49
  interfaces := #[4]
  cf := some (fileOf pool8 18 #[] #[{ accessFlags := 1, nameIndex := 59, descriptorIndex := 69, attributes := #[] }] 49 2 #[95] #[{ accessFlags := 18, nameIndex := 8, descriptorIndex := 56, attributes := #[] }, { accessFlags := 18, nameIndex := 59, descriptorIndex := 60, attributes := #[] }, { accessFlags := 18, nameIndex := 16, descriptorIndex := 56, attributes := #[] }, { accessFlags := 25, nameIndex := 97, descriptorIndex := 60, attributes := #[] }, { accessFlags := 25, nameIndex := 100, descriptorIndex := 60, attributes := #[] }])
  fields := #[{ name := "code", type := (.object "java/lang/String"), accessFlags := 18, slot := 0, constantValue := 0 }, { name := "status", type := .int, accessFlags := 18, slot := 1, constantValue := 0 }, { name := "defaultMessage", type := (.object "java/lang/String"), accessFlags := 18, slot := 2, constantValue := 0 }, { name := "MIN_STATUS", type := .int, accessFlags := 25, slot := 0, constantValue := 0 }, { name := "MAX_STATUS", type := .int, accessFlags := 25, slot := 1, constantValue := 0 }]
  methods := #[k8m0]
  instanceTypes := #[(.object "java/lang/String"), .int, (.object "java/lang/String")]
  staticTypes := #[.int, .int]
  resolved := Array.replicate 139 none
  statics := none }

def pool9 : Array CpInfo := pool [(1, u "java/lang/Cloneable"), (0, .class_ 1), (0, u "java/lang/Object"), (0, .class_ 3)] 3

/-- java/lang/Cloneable -/
def k9 : Class := { plain "java/lang/Cloneable" (some 0) with
  accessFlags := 1537
  interfaces := #[]
  cf := some (fileOf pool9 2 #[] #[] 1537 4 #[] #[])
  fields := #[]
  methods := #[]
  instanceTypes := #[]
  staticTypes := #[]
  resolved := Array.replicate 8 none
  statics := none }

/-- the primitive byte -/
def k10 : Class := { plain "byte" none with kind := .primitive 'B', accessFlags := 0x411 }
/-- [B -/
def k11 : Class := { plain "[B" (some 0) with kind := .array 10 .byte, interfaces := #[9, 4], accessFlags := 1041 }

/-- the primitive int -/
def k12 : Class := { plain "int" none with kind := .primitive 'I', accessFlags := 0x411 }
/-- [I -/
def k13 : Class := { plain "[I" (some 0) with kind := .array 12 .int, interfaces := #[9, 4], accessFlags := 1041 }

def heap : Heap := #[{ cls := 6, slots := #[.ref 9, .ref 10, .ref 11, .ref 12, .ref 13, .ref 14, .ref 15, .ref 16, .null], vm := .statics 6 },
  { cls := 8, slots := #[.null, .int 404, .null], vm := .none },
  { cls := 8, slots := #[.null, .int 405, .null], vm := .none },
  { cls := 8, slots := #[.null, .int 415, .null], vm := .none },
  { cls := 8, slots := #[.null, .int 413, .null], vm := .none },
  { cls := 8, slots := #[.null, .int 400, .null], vm := .none },
  { cls := 8, slots := #[.null, .int 422, .null], vm := .none },
  { cls := 8, slots := #[.null, .int 429, .null], vm := .none },
  { cls := 8, slots := #[.null, .int 500, .null], vm := .none },
  { cls := 6, slots := #[.null, .int 0, .int 0, .ref 1, .int 1], vm := .none },
  { cls := 6, slots := #[.null, .int 1, .int 0, .ref 2, .int 1], vm := .none },
  { cls := 6, slots := #[.null, .int 2, .int 0, .ref 3, .int 1], vm := .none },
  { cls := 6, slots := #[.null, .int 3, .int 0, .ref 4, .int 1], vm := .none },
  { cls := 6, slots := #[.null, .int 4, .int 0, .ref 5, .int 0], vm := .none },
  { cls := 6, slots := #[.null, .int 5, .int 0, .ref 6, .int 1], vm := .none },
  { cls := 6, slots := #[.null, .int 6, .int 0, .ref 7, .int 1], vm := .none },
  { cls := 6, slots := #[.null, .int 7, .int 0, .ref 8, .int 1], vm := .none }]
def classes : Array Class := #[k0, k1, k2, k3, k4, k5, k6, k7, k8, k9, k10, k11, k12, k13]
def interned : List (Array UInt16 × Addr) := []
def slotsUsed : Nat := 73
def theMethod : MethodId := ⟨1, 3⟩
def args0 : Array Value := #[.int 0, .int 1, .int 1, .int 404]
def aboutOver (below : List Frame) : State where
  vm := { classes := classes, interned := interned.toArray }
  heap := heap
  slotsUsed := slotsUsed
  threads := #[{ frames := .invoking theMethod args0 :: below }]
def below0 : List Frame := [.native { method := ⟨0, 0⟩, args := #[] }]
def about1 : State := aboutOver below0
def p0 : Program := .bare "" "" ""
def e0 : Env := launch0.env 0 0 0
theorem w_frames : about1.frames = Frame.invoking theMethod args0 :: below0 := rfl
set_option maxRecDepth 65536 in
theorem w_args : argsFit about1.vm theMethod args0 = true := by decide +kernel
set_option maxRecDepth 65536 in
theorem w_heap : heapFits about1 = true := by decide +kernel
set_option maxRecDepth 65536 in
theorem w_runnable : about1.curStatus? = some .runnable := by decide +kernel
set_option maxRecDepth 65536 in
theorem w_alone : about1.alone = true := by decide +kernel
set_option maxRecDepth 65536 in
theorem w_named : about1.methodNamed? x = some theMethod := by decide +kernel
set_option maxRecDepth 65536 in
theorem w_hears : about1.hears theMethod below0 = true := by decide +kernel
set_option maxRecDepth 65536 in
theorem w_ripe : about1.ripe theMethod args0 below0 = true := by decide +kernel
theorem w_running : about1.status = .running := rfl
set_option maxRecDepth 65536 in
theorem w_room : about1.hasRoom e0.platform room_1 = true :=
  launch0.hasRoom_least _ room_1 (by decide +kernel) (by decide +kernel) (by decide +kernel) (by decide +kernel) (by decide +kernel) (by decide +kernel)
theorem allAtoms_all (ts : List Jvm.Cond) (a : Array Jvm.Value) (st : Jvm.State) : (allAtoms ts).before a st = ts.all (fun c => c.before a st) := by
  induction ts with
  | nil => rfl
  | cons c t ih =>
    show (Jvm.Cond.and c (allAtoms t)).before a st = _
    rw [Jvm.Cond.before_and, ih, List.all_cons]
def words1 : List Jvm.Cond := Jvm.Cond.code x code maxLocals ret :: tables_1
/-- a 'code' word, met by the world's own term for the bytes: nothing is compared byte by byte -/
theorem code_word {y : MethodName} {bytes : ByteArray} {mx : Nat} {rt : Option FieldType} {a : Array Value} {s : State} {m : MethodId} {meth : Method} {c : Code} (h1 : s.methodNamed? y = some m) (h2 : s.vm.method? m = some meth) (h3 : meth.code = some c) (h4 : c.code = bytes)
    (h5 : (c.maxLocals == mx && c.exceptionTable.isEmpty && decide (c.maxStack ≤ mostOperands) && decide (meth.sig.returnType = rt) && !meth.locks && decide (parseMethodDescriptor y.desc = some meth.sig)) = true) : (Jvm.Cond.code y bytes mx rt).before a s = true := by
  simp only [Bool.and_eq_true, beq_iff_eq, Bool.not_eq_true', decide_eq_true_eq] at h5
  obtain ⟨⟨⟨⟨⟨g1, g2⟩, g3⟩, g4⟩, g5⟩, g6⟩ := h5
  simp [Cond.before, Cond.holds, Cond.value, h1, h2, h3, h4, g1, g2, g3, g4, g5, g6]
def isCode : Jvm.Cond → Bool
  | .code _ _ _ _ => true
  | _ => false
theorem all_split {L : List Jvm.Cond} {P : Jvm.Cond → Bool} (h1 : L.all (fun c => isCode c || P c) = true) (h2 : ∀ c ∈ L.filter isCode, P c = true) : L.all P = true := by
  refine List.all_eq_true.mpr fun c hc => ?_
  have h := List.all_eq_true.mp h1 c hc
  rcases Bool.eq_false_or_eq_true (isCode c) with hi | hi
  · exact h2 c (List.mem_filter.mpr ⟨hc, hi⟩)
  · simpa [hi] using h
set_option maxRecDepth 65536 in
theorem w_c0 : (Jvm.Cond.code x code maxLocals ret).before args0 about1 = true := code_word (m := ⟨1, 3⟩) (meth := k1m3) (c := k1c3) (by decide +kernel) rfl rfl rfl (by decide +kernel)
set_option maxRecDepth 65536 in
theorem w_c1 : (Jvm.Cond.code ({ cls := "com/example/error_envelope/errorenvelope/BuiltInCodeStandsForPinLaw", name := "statusOf", desc := "(I)I" } : Jvm.MethodName) method_3_code (1 : Nat) (Option.some Jvm.ClassFile.FieldType.int)).before args0 about1 = true := code_word (m := ⟨1, 2⟩) (meth := k1m2) (c := k1c2) (by decide +kernel) rfl rfl rfl (by decide +kernel)
set_option maxRecDepth 65536 in
theorem w_c2 : (Jvm.Cond.code ({ cls := "com/example/error_envelope/errorenvelope/BuiltInCodeStandsForPinLaw", name := "constant", desc := "(I)Lcom/example/error_envelope/errorenvelope/BuiltInCode;" } : Jvm.MethodName) method_2_code (1 : Nat) (Option.some (Jvm.ClassFile.FieldType.object "com/example/error_envelope/errorenvelope/BuiltInCode"))).before args0 about1 = true := code_word (m := ⟨1, 1⟩) (meth := k1m1) (c := k1c1) (by decide +kernel) rfl rfl rfl (by decide +kernel)
set_option maxRecDepth 65536 in
theorem w_c3 : (Jvm.Cond.code ({ cls := "com/example/error_envelope/errorenvelope/BuiltInCode", name := "standsFor", desc := "(I)Z" } : Jvm.MethodName) prog_2_method_5_code (2 : Nat) (Option.some Jvm.ClassFile.FieldType.boolean)).before args0 about1 = true := code_word (m := ⟨6, 0⟩) (meth := k6m0) (c := k6c0) (by decide +kernel) rfl rfl rfl (by decide +kernel)
set_option maxRecDepth 65536 in
theorem w_c4 : (Jvm.Cond.code ({ cls := "com/example/error_envelope/errorenvelope/ErrorCode", name := "status", desc := "()I" } : Jvm.MethodName) prog_6_method_7_code (1 : Nat) (Option.some Jvm.ClassFile.FieldType.int)).before args0 about1 = true := code_word (m := ⟨8, 0⟩) (meth := k8m0) (c := k8c0) (by decide +kernel) rfl rfl rfl (by decide +kernel)
def codes1 : List Jvm.Cond := [Jvm.Cond.code x code maxLocals ret, Jvm.Cond.code ({ cls := "com/example/error_envelope/errorenvelope/BuiltInCodeStandsForPinLaw", name := "statusOf", desc := "(I)I" } : Jvm.MethodName) method_3_code (1 : Nat) (Option.some Jvm.ClassFile.FieldType.int), Jvm.Cond.code ({ cls := "com/example/error_envelope/errorenvelope/BuiltInCodeStandsForPinLaw", name := "constant", desc := "(I)Lcom/example/error_envelope/errorenvelope/BuiltInCode;" } : Jvm.MethodName) method_2_code (1 : Nat) (Option.some (Jvm.ClassFile.FieldType.object "com/example/error_envelope/errorenvelope/BuiltInCode")), Jvm.Cond.code ({ cls := "com/example/error_envelope/errorenvelope/BuiltInCode", name := "standsFor", desc := "(I)Z" } : Jvm.MethodName) prog_2_method_5_code (2 : Nat) (Option.some Jvm.ClassFile.FieldType.boolean), Jvm.Cond.code ({ cls := "com/example/error_envelope/errorenvelope/ErrorCode", name := "status", desc := "()I" } : Jvm.MethodName) prog_6_method_7_code (1 : Nat) (Option.some Jvm.ClassFile.FieldType.int)]
set_option maxRecDepth 65536 in
theorem codes_eq : words1.filter isCode = codes1 := rfl
theorem w_codes : ∀ c ∈ words1.filter isCode, c.before args0 about1 = true := by
  rw [codes_eq]
  intro c hc
  simp only [codes1, List.mem_cons, List.not_mem_nil, or_false] at hc
  rcases hc with rfl | rfl | rfl | rfl | rfl
  · exact w_c0
  · exact w_c1
  · exact w_c2
  · exact w_c3
  · exact w_c4
set_option maxRecDepth 65536 in
theorem w_t1 : (words1.take 24).all (fun c => isCode c || c.before args0 about1) = true := by decide +kernel
set_option maxRecDepth 65536 in
theorem w_t2 : (words1.drop 24).all (fun c => isCode c || c.before args0 about1) = true := by decide +kernel
theorem w_tables : (allAtoms (Jvm.Cond.code x code maxLocals ret :: tables_1)).before args0 about1 = true := by
  rw [allAtoms_all]
  show words1.all (fun c => c.before args0 about1) = true
  refine all_split ?_ w_codes
  rw [← List.take_append_drop 24 words1, List.all_append, w_t1, w_t2]
  rfl
set_option maxRecDepth 65536 in
theorem w_case : (Jvm.Cond.and given_1 narrow_1).before args0 about1 = true := by decide +kernel
theorem w_applies : (headSpec (Jvm.Cond.code x code maxLocals ret :: tables_1) room_1).applies x e0.platform about1 = true :=
  (Spec.applies_iff w_frames).mpr ⟨w_running, w_runnable, w_alone, w_named, w_hears, w_ripe, w_room, w_tables⟩
theorem atStart : AtStart classFile x code maxLocals ret World_1 tables_1 room_1 Calls_1 rest_1 Pre_1 launch0 p0 e0 about1 theMethod args0 below0 :=
  ⟨lists_1, trivial, launch0.admits_env _ _ _, launch0.least_env, fairChoices_fair.cas, fairChoices_fair.clock, w_frames, w_args, w_heap, w_applies, trivial, trivial, w_case⟩
end start1
theorem witness_1 : WitnessClaimed_1 := ⟨start1.p0, start1.e0, start1.about1, start1.theMethod, start1.args0, start1.below0, start1.atStart⟩
end Jvm.Pilot.@@N@@
