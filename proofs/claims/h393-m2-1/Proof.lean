import JvmDerived
import JvmDerived.Pilot.@@N@@Statement
import JvmDerived.Pilot.@@N@@Code
set_option linter.unusedVariables false
set_option linter.unusedSimpArgs false
@@BLOCK:NumsL.lean.txt@@
namespace Jvm.RoadKit
open Sem ClassFile Op Lib Jvm.Stand Jvm.Free Jvm.LawKit
section New
variable {p : Program} {l : Launch} {e : Env} {R : Room} {s : State} {m : MethodId} {args : Array Value} {below : List Frame} {meth : Method} {c : Code} {T : State} {locs : List Loc} {cells slots : Nat}
theorem retI (X : Stand p l e R s m args below meth c T locs cells slots) (hx : p.tables.exec = Jvm.exec) {pc : Nat} {Ls : Array Slot} {z : Int32} {rest : List Value} (hret : meth.sig.returnType = some .int) (hd : decode c.code pc = .ok (.ireturn, 1)) {fs : List Frame}
    (hl : ∀ (f : JFrame) (acts : List Action), f.method = m → f.locked = none → f.entered = [] → (doReturn e (T.setTop f) acts (some (.int z))).1 = T.setFrames fs) : Steps p.tables e below (T.setTop (mkF m pc Ls (.int z :: rest))) (T.setFrames fs) := by
  have hm' : T.vm.method? m = some meth := X.method'
  have hn : narrow .int (.int z) = .int z := rfl
  show Steps p.tables e below (T.setTop { method := m, pc := pc, locals := Ls, stack := _ :: rest, locked := none }) _
  jvm_step X.here [X.here.top, hx, hd, hm', hret, hn]
  first | (intro acts; rw [hl _ acts rfl rfl rfl]) | rw [hl _ _ rfl rfl rfl]
  exact Steps.refl _
end New
theorem own_sta_keep {Z : State} {h h' : Heap} {C n d : String} {v : Value} {ws : List Addr} (F : Sta Z h C n d v) (K : Keep h h' ws) (q : ∀ x ∈ ws, ∀ cell : Cell, h[x]? = some cell → cell.vm.isStatics = false) : Sta Z h' C n d v := by
  obtain ⟨cf, i, k, f, st, cell, h1, h2, h3, h4, h5, h6, h7⟩ := F
  exact ⟨cf, i, k, f, st, cell, h1, h2, h3, h4, K.2.1 st cell h5 (fun hm => by rw [q st hm cell h5] at h6; cases h6), h6, h7⟩
/-- a class that is none of the interfaces -/
def NoFace (Z : State) (N : String) : Prop := ∃ (c : ClassId) (k : Class), Z.vm.findClass N = some c ∧ Z.vm.classes[c]? = some k ∧ k.isInterface = false
theorem own_noface {Z : State} {a0 : Array Value} {C : String} {y : MethodName} (w : (Cond.selects C y y).before a0 Z = true) : NoFace Z y.cls := by
  obtain ⟨c2, r2, m2, q1, q2, q3, q4, kP, hkP, hkPi⟩ := Cond.selects_spec w
  exact ⟨m2.cls, kP, findClass_of_methodNamed q3, hkP, hkPi⟩
theorem own_same {Z : State} {a0 : Array Value} {y : MethodName} (F : NoFace Z y.cls) (wi : (Cond.instanceMethod y).before a0 Z = true) (hy : y.cls ≠ "java/lang/invoke/MethodHandle" ∧ y.cls ≠ "java/lang/invoke/VarHandle") : (Cond.sameMethod y.cls y.cls y.name y.desc).before a0 Z = true := by
  obtain ⟨c, k, h1, h2, h3⟩ := F
  obtain ⟨mk, methM, hnamed, hmethM, -, -⟩ := Cond.instanceMethod_spec wi
  have hfound : Z.methodFound? y.cls y.name y.desc = some mk := State.methodFound?_of_named hnamed hy
  have hn : Z.methodNamed? ⟨y.cls, y.name, y.desc⟩ = some mk := hnamed
  simp only [Cond.before, Cond.holds, Cond.value, h1, hfound, hn, h2]
  simp; exact h3
theorem own_psel {Z : State} {a0 : Array Value} {y : MethodName} (F : NoFace Z y.cls) (wi : (Cond.instanceMethod y).before a0 Z = true) (wp : (Cond.privateMethod y).before a0 Z = true) (hy : y.cls ≠ "java/lang/invoke/MethodHandle" ∧ y.cls ≠ "java/lang/invoke/VarHandle") : (Cond.selects y.cls y y).before a0 Z = true := by
  obtain ⟨c, k, h1, h2, h3⟩ := F
  exact selects_self_of_private h1 h2 h3 (Cond.privateMethod_at wp) wi hy
/-- from A the run goes on as from B -/
def Rch (tb : Tables) (e : Env) (below : List Frame) (A B : State) : Prop := ∀ t, Steps tb e below B t → Steps tb e below A t
end Jvm.RoadKit
namespace Jvm.Pilot.@@N@@
open Jvm Jvm.ClassFile Sem Op Lib Jvm.Free Jvm.Stand Jvm.LawKit Jvm.RoadKit Bundle Jvm.Pilot.@@N@@.Jvm.D
def ck (k : Int32) : Int32 := if k = 0 then 0 else if k = 1 then 1 else if k = 2 then 2 else if k = 3 then 3 else 4
/-- an Optional: pr 1 where it holds something, 0 where it is empty -/
def OptS (Z : State) (h : Heap) (o : Addr) (pr : Int32) : Prop := Exa Z h o "java/util/Optional" ∧ ((pr = 0 ∧ Fld Z h o "java/util/Optional" "value" "Ljava/lang/Object;" .null) ∨ (pr = 1 ∧ ∃ b : Addr, Fld Z h o "java/util/Optional" "value" "Ljava/lang/Object;" (.ref b)))
theorem OptS.keep {Z : State} {h h' : Heap} {o : Addr} {pr : Int32} {ws : List Addr} (F : OptS Z h o pr) (K : Keep h h' ws) (q : o ∉ ws) : OptS Z h' o pr := ⟨F.1.keep K, F.2.imp (fun f => ⟨f.1, f.2.keep K q⟩) (fun ⟨f, b, g⟩ => ⟨f, b, g.keep K q⟩)⟩
theorem OptS.pr {Z : State} {h : Heap} {o : Addr} {pr : Int32} (F : OptS Z h o pr) : pr = 0 ∨ pr = 1 := F.2.imp (·.1) (·.1)
/-- what callbacksSent reads of a Progress -/
def PrW (Z : State) (h : Heap) (g : Addr) (n : Int32) (cs : Addr) : Prop := Exa Z h g "com/example/subjectline/subjectline/server/Progress" ∧ Fld Z h g "com/example/subjectline/subjectline/server/Progress" "undeliveredCallbacks" "I" (.int n) ∧ Fld Z h g "com/example/subjectline/subjectline/server/Progress" "callingSince" "Ljava/util/Optional;" (.ref cs)
def PrS (Z : State) (h : Heap) (g st da : Addr) (n : Int32) (la cs : Addr) : Prop := PrW Z h g n cs ∧ Fld Z h g "com/example/subjectline/subjectline/server/Progress" "status" "Lcom/example/subjectline/subjectline/server/Status;" (.ref st) ∧ Fld Z h g "com/example/subjectline/subjectline/server/Progress" "data" "Ljava/util/Optional;" (.ref da) ∧ Fld Z h g "com/example/subjectline/subjectline/server/Progress" "lastUndeliveredAt" "Ljava/util/Optional;" (.ref la)
theorem PrW.keep {Z : State} {h h' : Heap} {g cs : Addr} {n : Int32} {ws : List Addr} (F : PrW Z h g n cs) (K : Keep h h' ws) (q : g ∉ ws) : PrW Z h' g n cs := ⟨F.1.keep K, F.2.1.keep K q, F.2.2.keep K q⟩
theorem PrS.keep {Z : State} {h h' : Heap} {g st da la cs : Addr} {n : Int32} {ws : List Addr} (F : PrS Z h g st da n la cs) (K : Keep h h' ws) (q : g ∉ ws) : PrS Z h' g st da n la cs := ⟨F.1.keep K q, F.2.1.keep K q, F.2.2.1.keep K q, F.2.2.2.keep K q⟩
/-- a status, with the plain progress of its number -/
def StS (Z : State) (h : Heap) (st pa : Addr) (em : Addr) : Prop := Exa Z h st "com/example/subjectline/subjectline/server/Status" ∧ ∃ (od : Int32) (pl : Addr) (cl : Cell), Fld Z h st "java/lang/Enum" "ordinal" "I" (.int od) ∧ Sta Z h "com/example/subjectline/subjectline/server/Progress" "PLAIN" "[Lcom/example/subjectline/subjectline/server/Progress;" (.ref pa) ∧ Arr Z h pa cl (.object "com/example/subjectline/subjectline/server/Progress") ∧ ¬ (od < 0 ∨ cl.slots.size ≤ od.toNatClampNeg) ∧ cl.slots[od.toNatClampNeg]? = some (.ref pl) ∧ PrW Z h pl 0 em ∧ OptS Z h em 0
theorem StS.keep {Z : State} {h h' : Heap} {st pa em : Addr} (F : StS Z h st pa em) (K : Keep h h' []) : StS Z h' st pa em := by
  obtain ⟨a, od, pl, cl, b, c, d, e, f, g, i⟩ := F
  exact ⟨a.keep K, od, pl, cl, b.keep K nin0, own_sta_keep c K ns0, ⟨K.2.1 _ _ d.1 nin0, d.2⟩, e, f, g.keep K nin0, i.keep K nin0⟩
theorem d1_0 : decode method_2_code 0 = .ok (.iload_n 0, 1) := by decide +kernel
theorem d1_1 : decode method_2_code 1 = .ok (.ldc 7, 2) := by decide +kernel
theorem d1_3 : decode method_2_code 3 = .ok (.iand, 1) := by decide +kernel
theorem d1_4 : decode method_2_code 4 = .ok (.iconst 5, 1) := by decide +kernel
theorem d1_5 : decode method_2_code 5 = .ok (.irem, 1) := by decide +kernel
theorem d1_6 : decode method_2_code 6 = .ok (.istore_n 1, 1) := by decide +kernel
theorem d1_7 : decode method_2_code 7 = .ok (.iload_n 1, 1) := by decide +kernel
theorem d1_8 : decode method_2_code 8 = .ok (.ifCond .ne 7, 3) := by decide +kernel
theorem d1_11 : decode method_2_code 11 = .ok (.getstatic 8, 3) := by decide +kernel
theorem d1_14 : decode method_2_code 14 = .ok (.areturn, 1) := by decide +kernel
theorem d1_15 : decode method_2_code 15 = .ok (.iload_n 1, 1) := by decide +kernel
theorem d1_16 : decode method_2_code 16 = .ok (.iconst 1, 1) := by decide +kernel
theorem d1_17 : decode method_2_code 17 = .ok (.if_icmp .ne 7, 3) := by decide +kernel
theorem d1_20 : decode method_2_code 20 = .ok (.getstatic 14, 3) := by decide +kernel
theorem d1_23 : decode method_2_code 23 = .ok (.areturn, 1) := by decide +kernel
theorem d1_24 : decode method_2_code 24 = .ok (.iload_n 1, 1) := by decide +kernel
theorem d1_25 : decode method_2_code 25 = .ok (.iconst 2, 1) := by decide +kernel
theorem d1_26 : decode method_2_code 26 = .ok (.if_icmp .ne 7, 3) := by decide +kernel
theorem d1_29 : decode method_2_code 29 = .ok (.getstatic 17, 3) := by decide +kernel
theorem d1_32 : decode method_2_code 32 = .ok (.areturn, 1) := by decide +kernel
theorem d1_33 : decode method_2_code 33 = .ok (.iload_n 1, 1) := by decide +kernel
theorem d1_34 : decode method_2_code 34 = .ok (.iconst 3, 1) := by decide +kernel
theorem d1_35 : decode method_2_code 35 = .ok (.if_icmp .ne 7, 3) := by decide +kernel
theorem d1_38 : decode method_2_code 38 = .ok (.getstatic 20, 3) := by decide +kernel
theorem d1_41 : decode method_2_code 41 = .ok (.areturn, 1) := by decide +kernel
theorem d1_42 : decode method_2_code 42 = .ok (.getstatic 23, 3) := by decide +kernel
theorem d1_45 : decode method_2_code 45 = .ok (.areturn, 1) := by decide +kernel
theorem pn_0 : plainName "com/example/subjectline/subjectline/server/ProgressCallbacksSentPinLaw" = true := by first | (simp [plainName, overriddenIn]; done) | decide +kernel
theorem ef_1 (m : MethodId) (x0 : Int32) : entryFrame m #[(.int x0)] 2 = mkF m 0 #[.val (.int x0), .unset] [] := by first | (simp [entryFrame, mkF, argsToLocals, Value.category]; done) | rfl
def Q1 (Z : State) (ps : Int32) (W : Int32 → Addr) (h0 : Heap) (n0 : Nat) (v : Option Value) (h : Heap) (L : List Loc) : Prop := ∃ k : Int32, v = some (.ref (W (ck k))) ∧ Fr n0 L ∧ h = h0
set_option maxRecDepth 65536 in
set_option maxHeartbeats 40000000 in
theorem rm1 (l : Launch) (Z : State) (a0 : Array Value) (hw : ∀ d ∈ tables_1, d.before a0 Z = true) (ws : List Jvm.Cond) (ps : Int32) (W : Int32 → Addr) (h0 : Heap) (n0 : Nat) (Z0 : n0 ≤ h0.size) (S0 : Sta Z h0 "com/example/subjectline/subjectline/server/Status" "RECEIVED" "Lcom/example/subjectline/subjectline/server/Status;" (.ref (W 0))) (S1 : Sta Z h0 "com/example/subjectline/subjectline/server/Status" "COMPLETED" "Lcom/example/subjectline/subjectline/server/Status;" (.ref (W 1))) (S2 : Sta Z h0 "com/example/subjectline/subjectline/server/Status" "FAILED" "Lcom/example/subjectline/subjectline/server/Status;" (.ref (W 2))) (S3 : Sta Z h0 "com/example/subjectline/subjectline/server/Status" "NOTIFIED" "Lcom/example/subjectline/subjectline/server/Status;" (.ref (W 3))) (S4 : Sta Z h0 "com/example/subjectline/subjectline/server/Status" "UNDELIVERABLE" "Lcom/example/subjectline/subjectline/server/Status;" (.ref (W 4))) :
    MetFree l (⟨"com/example/subjectline/subjectline/server/ProgressCallbacksSentPinLaw", "status", "(I)Lcom/example/subjectline/subjectline/server/Status;"⟩ : MethodName) (head1 (Jvm.Cond.code (⟨"com/example/subjectline/subjectline/server/ProgressCallbacksSentPinLaw", "status", "(I)Lcom/example/subjectline/subjectline/server/Status;"⟩ : MethodName) method_2_code 2 (some (.object "com/example/subjectline/subjectline/server/Status")) :: ws) ({ frames := 0, cells := 0, slots := 0, locals := 0 } : Room)) (fun aA U => aA = #[(.int ps)] ∧ Z.Warmed39 U.vm ∧ U.heap = h0) (fun _ _ _ _ _ => True) (fun _ U oO U' => ∃ vV LL, oO = .returned vV ∧ Q1 Z ps W h0 n0 vV U'.heap LL ∧ FrameEnd U oO U' LL ({ frames := 0, cells := 0, slots := 0, locals := 0 } : Room).cells ({ frames := 0, cells := 0, slots := 0, locals := 0 } : Room).slots) := by
  refine MetFree.of_bodySF (plainFor_of_name pn_0) hisR ?_
  intro p e s m args below meth c s₁ Bd hml0 hP hK
  obtain ⟨rfl, hZ, hh⟩ := hP
  have hx := Bd.exec
  have hby := Bd.bytes
  have hml : c.maxLocals = 2 := hml0
  have hown : s.vm.findClass "com/example/subjectline/subjectline/server/ProgressCallbacksSentPinLaw" = some m.cls := findClass_of_methodNamed Bd.named
  have hnm := (name_of_methodNamed Bd.named Bd.method).1
  have X0 : Stand p l e ({ frames := 0, cells := 0, slots := 0, locals := 0 } : Room) s m #[(.int ps)] below meth c s₁ [] 0 0 := Stand.of_body Bd
  have e0 : s₁.heap = h0 := by rw [← hh, Bd.state]; rfl
  have N0 := Fr.nil n0
  have K0 : Keep h0 h0 [] := Keep.refl _ _
  have pre0 : Rch p.tables e below (s₁.setTop (entryFrame m #[(.int ps)] 2)) (s₁.setTop (mkF m 0 #[.val (.int ps), .unset] [])) := fun tgt ktg => castTop (ef_1 m ps) ktg
  have pre_1 : Rch p.tables e below (s₁.setTop (entryFrame m #[(.int ps)] 2)) (s₁.setTop (mkF m 6 #[.val (.int ps), .unset] [(.int ((ps &&& (2147483647 : Int32)) % (5 : Int32)))])) := fun tgt ktg => pre0 tgt (by
    show Steps p.tables e below (s₁.setTop (mkF m 0 #[.val (.int ps), .unset] [])) _
    refine XS.iloadN X0.here hx rfl (hb hby d1_0) rfl ?_
    show Steps p.tables e below (s₁.setTop (mkF m 1 #[.val (.int ps), .unset] [(.int ps)])) _
    refine X0.ldcInt hx hown (mvT hZ (hw _ (List.mem_of_getElem? (i := 4) rfl))) (g := (mkF m 1 #[.val (.int ps), .unset] [(.int ps)])) rfl (hb hby d1_1) _ ?_
    show Steps p.tables e below (s₁.setTop (mkF m 3 #[.val (.int ps), .unset] [(.int (2147483647 : Int32)), (.int ps)])) _
    refine XS.iand X0.here hx rfl (hb hby d1_3) rfl ?_
    show Steps p.tables e below (s₁.setTop (mkF m 4 #[.val (.int ps), .unset] [(.int (ps &&& (2147483647 : Int32)))])) _
    refine XS.iconst X0.here hx rfl (hb hby d1_4) ?_
    show Steps p.tables e below (s₁.setTop (mkF m 5 #[.val (.int ps), .unset] [(.int (5 : Int32)), (.int (ps &&& (2147483647 : Int32)))])) _
    refine iremM (g := (mkF m 5 #[.val (.int ps), .unset] [(.int (5 : Int32)), (.int (ps &&& (2147483647 : Int32)))])) X0 hx rfl (hb hby d1_5) rfl (by decide) ?_
    exact ktg)
  obtain ⟨k, hv_k⟩ : ∃ nm_ : Int32, nm_ = ((ps &&& (2147483647 : Int32)) % (5 : Int32)) := ⟨_, rfl⟩
  have pre_2 : Rch p.tables e below (s₁.setTop (entryFrame m #[(.int ps)] 2)) (s₁.setTop (mkF m 6 #[.val (.int ps), .unset] [(.int k)])) := fun tgt ktg => pre_1 tgt (by rw [hv_k] at ktg; exact ktg)
  have pre_3 : Rch p.tables e below (s₁.setTop (entryFrame m #[(.int ps)] 2)) (s₁.setTop (mkF m 8 #[.val (.int ps), .val (.int k)] [(.int k)])) := fun tgt ktg => pre_2 tgt (by
    show Steps p.tables e below (s₁.setTop (mkF m 6 #[.val (.int ps), .unset] [(.int k)])) _
    refine XS.istoreN X0.here hx rfl (hb hby d1_6) rfl (l' := #[.val (.int ps), .val (.int k)]) rfl ?_
    show Steps p.tables e below (s₁.setTop (mkF m 7 #[.val (.int ps), .val (.int k)] [])) _
    refine XS.iloadN X0.here hx rfl (hb hby d1_7) rfl ?_
    exact ktg)
  by_cases c_4 : k = (0 : Int32)
  · skip
    have pre_5 : Rch p.tables e below (s₁.setTop (entryFrame m #[(.int ps)] 2)) (s₁.setTop (mkF m 11 #[.val (.int ps), .val (.int k)] [])) := fun tgt ktg => pre_3 tgt (by
      show Steps p.tables e below (s₁.setTop (mkF m 8 #[.val (.int ps), .val (.int k)] [(.int k)])) _
      refine XS.ifNo X0.here hx rfl (hb hby d1_8) rfl ((if0 _ _).trans (teq c_4).2) ?_
      exact ktg)
    obtain ⟨T_6, X_6, e_6, st_6⟩ := getS2 X0 hx hZ hown (host := "") (Or.inl (hw _ (List.mem_of_getElem? (i := 5) rfl))) Via.refl e0 S0 (g := (mkF m 11 #[.val (.int ps), .val (.int k)] [])) rfl (hb hby d1_11)
    have pre_6 : Rch p.tables e below (s₁.setTop (entryFrame m #[(.int ps)] 2)) (T_6.setTop (mkF m 14 #[.val (.int ps), .val (.int k)] [(.ref (W 0))])) := fun tgt ktg => pre_5 tgt (st_6 tgt ktg)
    obtain ⟨fs, hr, hrun, hended, hW, hsame⟩ := X_6.leave (v := some (.ref (W 0))) (fun h => by rw [Bd.returns] at h; cases h)
    refine ⟨_, _, pre_6 _ ?_, hrun, hended, _, _, rfl, ?_, ⟨_, rfl⟩, hW, hsame.mono (by decide) (by decide)⟩
    · show Steps p.tables e below (T_6.setTop (mkF m 14 #[.val (.int ps), .val (.int k)] [(.ref (W 0))])) _
      jvm_step X_6.here [X_6.here.top, hx, (hb hby d1_14), X_6.method', Bd.returns, Value.isRef, FieldType.isReference]
      first | (intro acts; rw [hr _ acts rfl rfl rfl]) | rw [hr _ _ rfl rfl rfl]
      exact Steps.refl _
    · show Q1 Z ps W h0 n0 _ T_6.heap _
      rw [e_6]
      exact ⟨k, by simp [ck, c_4], N0, rfl⟩
  · skip
    have pre_7 : Rch p.tables e below (s₁.setTop (entryFrame m #[(.int ps)] 2)) (s₁.setTop (mkF m 15 #[.val (.int ps), .val (.int k)] [])) := fun tgt ktg => pre_3 tgt (by
      show Steps p.tables e below (s₁.setTop (mkF m 8 #[.val (.int ps), .val (.int k)] [(.int k)])) _
      refine XS.ifYes X0.here hx rfl (pc0 := 8) (pc' := 15) rfl (hb hby d1_8) rfl ((if0 _ _).trans (feq c_4).2) (by decide) (by decide) ?_
      exact ktg)
    have pre_8 : Rch p.tables e below (s₁.setTop (entryFrame m #[(.int ps)] 2)) (s₁.setTop (mkF m 17 #[.val (.int ps), .val (.int k)] [(.int (1 : Int32)), (.int k)])) := fun tgt ktg => pre_7 tgt (by
      show Steps p.tables e below (s₁.setTop (mkF m 15 #[.val (.int ps), .val (.int k)] [])) _
      refine XS.iloadN X0.here hx rfl (hb hby d1_15) rfl ?_
      show Steps p.tables e below (s₁.setTop (mkF m 16 #[.val (.int ps), .val (.int k)] [(.int k)])) _
      refine XS.iconst X0.here hx rfl (hb hby d1_16) ?_
      exact ktg)
    by_cases c_9 : k = (1 : Int32)
    · skip
      have pre_10 : Rch p.tables e below (s₁.setTop (entryFrame m #[(.int ps)] 2)) (s₁.setTop (mkF m 20 #[.val (.int ps), .val (.int k)] [])) := fun tgt ktg => pre_8 tgt (by
        show Steps p.tables e below (s₁.setTop (mkF m 17 #[.val (.int ps), .val (.int k)] [(.int (1 : Int32)), (.int k)])) _
        refine XS.icmpNo X0.here hx rfl (hb hby d1_17) rfl (teq c_9).2 ?_
        exact ktg)
      obtain ⟨T_11, X_11, e_11, st_11⟩ := getS2 X0 hx hZ hown (host := "") (Or.inl (hw _ (List.mem_of_getElem? (i := 131) rfl))) Via.refl e0 S1 (g := (mkF m 20 #[.val (.int ps), .val (.int k)] [])) rfl (hb hby d1_20)
      have pre_11 : Rch p.tables e below (s₁.setTop (entryFrame m #[(.int ps)] 2)) (T_11.setTop (mkF m 23 #[.val (.int ps), .val (.int k)] [(.ref (W 1))])) := fun tgt ktg => pre_10 tgt (st_11 tgt ktg)
      obtain ⟨fs, hr, hrun, hended, hW, hsame⟩ := X_11.leave (v := some (.ref (W 1))) (fun h => by rw [Bd.returns] at h; cases h)
      refine ⟨_, _, pre_11 _ ?_, hrun, hended, _, _, rfl, ?_, ⟨_, rfl⟩, hW, hsame.mono (by decide) (by decide)⟩
      · show Steps p.tables e below (T_11.setTop (mkF m 23 #[.val (.int ps), .val (.int k)] [(.ref (W 1))])) _
        jvm_step X_11.here [X_11.here.top, hx, (hb hby d1_23), X_11.method', Bd.returns, Value.isRef, FieldType.isReference]
        first | (intro acts; rw [hr _ acts rfl rfl rfl]) | rw [hr _ _ rfl rfl rfl]
        exact Steps.refl _
      · show Q1 Z ps W h0 n0 _ T_11.heap _
        rw [e_11]
        exact ⟨k, by simp [ck, c_4, c_9], N0, rfl⟩
    · skip
      have pre_12 : Rch p.tables e below (s₁.setTop (entryFrame m #[(.int ps)] 2)) (s₁.setTop (mkF m 24 #[.val (.int ps), .val (.int k)] [])) := fun tgt ktg => pre_8 tgt (by
        show Steps p.tables e below (s₁.setTop (mkF m 17 #[.val (.int ps), .val (.int k)] [(.int (1 : Int32)), (.int k)])) _
        refine XS.icmpYes X0.here hx rfl (pc0 := 17) (pc' := 24) rfl (hb hby d1_17) rfl (feq c_9).2 (by decide) (by decide) ?_
        exact ktg)
      have pre_13 : Rch p.tables e below (s₁.setTop (entryFrame m #[(.int ps)] 2)) (s₁.setTop (mkF m 26 #[.val (.int ps), .val (.int k)] [(.int (2 : Int32)), (.int k)])) := fun tgt ktg => pre_12 tgt (by
        show Steps p.tables e below (s₁.setTop (mkF m 24 #[.val (.int ps), .val (.int k)] [])) _
        refine XS.iloadN X0.here hx rfl (hb hby d1_24) rfl ?_
        show Steps p.tables e below (s₁.setTop (mkF m 25 #[.val (.int ps), .val (.int k)] [(.int k)])) _
        refine XS.iconst X0.here hx rfl (hb hby d1_25) ?_
        exact ktg)
      by_cases c_14 : k = (2 : Int32)
      · skip
        have pre_15 : Rch p.tables e below (s₁.setTop (entryFrame m #[(.int ps)] 2)) (s₁.setTop (mkF m 29 #[.val (.int ps), .val (.int k)] [])) := fun tgt ktg => pre_13 tgt (by
          show Steps p.tables e below (s₁.setTop (mkF m 26 #[.val (.int ps), .val (.int k)] [(.int (2 : Int32)), (.int k)])) _
          refine XS.icmpNo X0.here hx rfl (hb hby d1_26) rfl (teq c_14).2 ?_
          exact ktg)
        obtain ⟨T_16, X_16, e_16, st_16⟩ := getS2 X0 hx hZ hown (host := "") (Or.inl (hw _ (List.mem_of_getElem? (i := 133) rfl))) Via.refl e0 S2 (g := (mkF m 29 #[.val (.int ps), .val (.int k)] [])) rfl (hb hby d1_29)
        have pre_16 : Rch p.tables e below (s₁.setTop (entryFrame m #[(.int ps)] 2)) (T_16.setTop (mkF m 32 #[.val (.int ps), .val (.int k)] [(.ref (W 2))])) := fun tgt ktg => pre_15 tgt (st_16 tgt ktg)
        obtain ⟨fs, hr, hrun, hended, hW, hsame⟩ := X_16.leave (v := some (.ref (W 2))) (fun h => by rw [Bd.returns] at h; cases h)
        refine ⟨_, _, pre_16 _ ?_, hrun, hended, _, _, rfl, ?_, ⟨_, rfl⟩, hW, hsame.mono (by decide) (by decide)⟩
        · show Steps p.tables e below (T_16.setTop (mkF m 32 #[.val (.int ps), .val (.int k)] [(.ref (W 2))])) _
          jvm_step X_16.here [X_16.here.top, hx, (hb hby d1_32), X_16.method', Bd.returns, Value.isRef, FieldType.isReference]
          first | (intro acts; rw [hr _ acts rfl rfl rfl]) | rw [hr _ _ rfl rfl rfl]
          exact Steps.refl _
        · show Q1 Z ps W h0 n0 _ T_16.heap _
          rw [e_16]
          exact ⟨k, by simp [ck, c_4, c_9, c_14], N0, rfl⟩
      · skip
        have pre_17 : Rch p.tables e below (s₁.setTop (entryFrame m #[(.int ps)] 2)) (s₁.setTop (mkF m 33 #[.val (.int ps), .val (.int k)] [])) := fun tgt ktg => pre_13 tgt (by
          show Steps p.tables e below (s₁.setTop (mkF m 26 #[.val (.int ps), .val (.int k)] [(.int (2 : Int32)), (.int k)])) _
          refine XS.icmpYes X0.here hx rfl (pc0 := 26) (pc' := 33) rfl (hb hby d1_26) rfl (feq c_14).2 (by decide) (by decide) ?_
          exact ktg)
        have pre_18 : Rch p.tables e below (s₁.setTop (entryFrame m #[(.int ps)] 2)) (s₁.setTop (mkF m 35 #[.val (.int ps), .val (.int k)] [(.int (3 : Int32)), (.int k)])) := fun tgt ktg => pre_17 tgt (by
          show Steps p.tables e below (s₁.setTop (mkF m 33 #[.val (.int ps), .val (.int k)] [])) _
          refine XS.iloadN X0.here hx rfl (hb hby d1_33) rfl ?_
          show Steps p.tables e below (s₁.setTop (mkF m 34 #[.val (.int ps), .val (.int k)] [(.int k)])) _
          refine XS.iconst X0.here hx rfl (hb hby d1_34) ?_
          exact ktg)
        by_cases c_19 : k = (3 : Int32)
        · skip
          have pre_20 : Rch p.tables e below (s₁.setTop (entryFrame m #[(.int ps)] 2)) (s₁.setTop (mkF m 38 #[.val (.int ps), .val (.int k)] [])) := fun tgt ktg => pre_18 tgt (by
            show Steps p.tables e below (s₁.setTop (mkF m 35 #[.val (.int ps), .val (.int k)] [(.int (3 : Int32)), (.int k)])) _
            refine XS.icmpNo X0.here hx rfl (hb hby d1_35) rfl (teq c_19).2 ?_
            exact ktg)
          obtain ⟨T_21, X_21, e_21, st_21⟩ := getS2 X0 hx hZ hown (host := "") (Or.inl (hw _ (List.mem_of_getElem? (i := 135) rfl))) Via.refl e0 S3 (g := (mkF m 38 #[.val (.int ps), .val (.int k)] [])) rfl (hb hby d1_38)
          have pre_21 : Rch p.tables e below (s₁.setTop (entryFrame m #[(.int ps)] 2)) (T_21.setTop (mkF m 41 #[.val (.int ps), .val (.int k)] [(.ref (W 3))])) := fun tgt ktg => pre_20 tgt (st_21 tgt ktg)
          obtain ⟨fs, hr, hrun, hended, hW, hsame⟩ := X_21.leave (v := some (.ref (W 3))) (fun h => by rw [Bd.returns] at h; cases h)
          refine ⟨_, _, pre_21 _ ?_, hrun, hended, _, _, rfl, ?_, ⟨_, rfl⟩, hW, hsame.mono (by decide) (by decide)⟩
          · show Steps p.tables e below (T_21.setTop (mkF m 41 #[.val (.int ps), .val (.int k)] [(.ref (W 3))])) _
            jvm_step X_21.here [X_21.here.top, hx, (hb hby d1_41), X_21.method', Bd.returns, Value.isRef, FieldType.isReference]
            first | (intro acts; rw [hr _ acts rfl rfl rfl]) | rw [hr _ _ rfl rfl rfl]
            exact Steps.refl _
          · show Q1 Z ps W h0 n0 _ T_21.heap _
            rw [e_21]
            exact ⟨k, by simp [ck, c_4, c_9, c_14, c_19], N0, rfl⟩
        · skip
          have pre_22 : Rch p.tables e below (s₁.setTop (entryFrame m #[(.int ps)] 2)) (s₁.setTop (mkF m 42 #[.val (.int ps), .val (.int k)] [])) := fun tgt ktg => pre_18 tgt (by
            show Steps p.tables e below (s₁.setTop (mkF m 35 #[.val (.int ps), .val (.int k)] [(.int (3 : Int32)), (.int k)])) _
            refine XS.icmpYes X0.here hx rfl (pc0 := 35) (pc' := 42) rfl (hb hby d1_35) rfl (feq c_19).2 (by decide) (by decide) ?_
            exact ktg)
          obtain ⟨T_23, X_23, e_23, st_23⟩ := getS2 X0 hx hZ hown (host := "") (Or.inl (hw _ (List.mem_of_getElem? (i := 105) rfl))) Via.refl e0 S4 (g := (mkF m 42 #[.val (.int ps), .val (.int k)] [])) rfl (hb hby d1_42)
          have pre_23 : Rch p.tables e below (s₁.setTop (entryFrame m #[(.int ps)] 2)) (T_23.setTop (mkF m 45 #[.val (.int ps), .val (.int k)] [(.ref (W 4))])) := fun tgt ktg => pre_22 tgt (st_23 tgt ktg)
          obtain ⟨fs, hr, hrun, hended, hW, hsame⟩ := X_23.leave (v := some (.ref (W 4))) (fun h => by rw [Bd.returns] at h; cases h)
          refine ⟨_, _, pre_23 _ ?_, hrun, hended, _, _, rfl, ?_, ⟨_, rfl⟩, hW, hsame.mono (by decide) (by decide)⟩
          · show Steps p.tables e below (T_23.setTop (mkF m 45 #[.val (.int ps), .val (.int k)] [(.ref (W 4))])) _
            jvm_step X_23.here [X_23.here.top, hx, (hb hby d1_45), X_23.method', Bd.returns, Value.isRef, FieldType.isReference]
            first | (intro acts; rw [hr _ acts rfl rfl rfl]) | rw [hr _ _ rfl rfl rfl]
            exact Steps.refl _
          · show Q1 Z ps W h0 n0 _ T_23.heap _
            rw [e_23]
            exact ⟨k, by simp [ck, c_4, c_9, c_14, c_19], N0, rfl⟩
theorem d2_0 : decode jdk_32_method_1_code 0 = .ok (.getstatic 1, 3) := by decide +kernel
theorem d2_3 : decode jdk_32_method_1_code 3 = .ok (.astore_n 0, 1) := by decide +kernel
theorem d2_4 : decode jdk_32_method_1_code 4 = .ok (.aload_n 0, 1) := by decide +kernel
theorem d2_5 : decode jdk_32_method_1_code 5 = .ok (.areturn, 1) := by decide +kernel
theorem pn_1 : plainName "java/util/Optional" = true := by first | (simp [plainName, overriddenIn]; done) | decide +kernel
theorem ef_2 (m : MethodId)  : entryFrame m #[] 1 = mkF m 0 #[.unset] [] := by first | (simp [entryFrame, mkF, argsToLocals, Value.category]; done) | rfl
def Q2 (Z : State) (em : Addr) (h0 : Heap) (n0 : Nat) (v : Option Value) (h : Heap) (L : List Loc) : Prop := v = some (.ref em) ∧ Fr n0 L ∧ h = h0
set_option maxRecDepth 65536 in
set_option maxHeartbeats 40000000 in
theorem rm2 (l : Launch) (Z : State) (a0 : Array Value) (hw : ∀ d ∈ tables_1, d.before a0 Z = true) (ws : List Jvm.Cond) (em : Addr) (h0 : Heap) (n0 : Nat) (Z0 : n0 ≤ h0.size) (S1 : Sta Z h0 "java/util/Optional" "EMPTY" "Ljava/util/Optional;" (.ref em)) :
    MetFree l (⟨"java/util/Optional", "empty", "()Ljava/util/Optional;"⟩ : MethodName) (head1 (Jvm.Cond.code (⟨"java/util/Optional", "empty", "()Ljava/util/Optional;"⟩ : MethodName) jdk_32_method_1_code 1 (some (.object "java/util/Optional")) :: ws) ({ frames := 0, cells := 0, slots := 0, locals := 0 } : Room)) (fun aA U => aA = #[] ∧ Z.Warmed39 U.vm ∧ U.heap = h0) (fun _ _ _ _ _ => True) (fun _ U oO U' => ∃ vV LL, oO = .returned vV ∧ Q2 Z em h0 n0 vV U'.heap LL ∧ FrameEnd U oO U' LL ({ frames := 0, cells := 0, slots := 0, locals := 0 } : Room).cells ({ frames := 0, cells := 0, slots := 0, locals := 0 } : Room).slots) := by
  refine MetFree.of_bodySF (plainFor_of_name pn_1) hisR ?_
  intro p e s m args below meth c s₁ Bd hml0 hP hK
  obtain ⟨rfl, hZ, hh⟩ := hP
  have hx := Bd.exec
  have hby := Bd.bytes
  have hml : c.maxLocals = 1 := hml0
  have hown : s.vm.findClass "java/util/Optional" = some m.cls := findClass_of_methodNamed Bd.named
  have hnm := (name_of_methodNamed Bd.named Bd.method).1
  have X0 : Stand p l e ({ frames := 0, cells := 0, slots := 0, locals := 0 } : Room) s m #[] below meth c s₁ [] 0 0 := Stand.of_body Bd
  have e0 : s₁.heap = h0 := by rw [← hh, Bd.state]; rfl
  have N0 := Fr.nil n0
  have K0 : Keep h0 h0 [] := Keep.refl _ _
  have pre0 : Rch p.tables e below (s₁.setTop (entryFrame m #[] 1)) (s₁.setTop (mkF m 0 #[.unset] [])) := fun tgt ktg => castTop (ef_2 m ) ktg
  obtain ⟨T_1, X_1, e_1, st_1⟩ := getS2 X0 hx hZ hown (host := "") (Or.inl (hw _ (List.mem_of_getElem? (i := 12) rfl))) Via.refl e0 S1 (g := (mkF m 0 #[.unset] [])) rfl (hb hby d2_0)
  have pre_1 : Rch p.tables e below (s₁.setTop (entryFrame m #[] 1)) (T_1.setTop (mkF m 3 #[.unset] [(.ref em)])) := fun tgt ktg => pre0 tgt (st_1 tgt ktg)
  have pre_2 : Rch p.tables e below (s₁.setTop (entryFrame m #[] 1)) (T_1.setTop (mkF m 5 #[.val (.ref em)] [(.ref em)])) := fun tgt ktg => pre_1 tgt (by
    show Steps p.tables e below (T_1.setTop (mkF m 3 #[.unset] [(.ref em)])) _
    refine XS.astoreN X_1.here hx rfl (hb hby d2_3) rfl rfl (l' := #[.val (.ref em)]) rfl ?_
    show Steps p.tables e below (T_1.setTop (mkF m 4 #[.val (.ref em)] [])) _
    refine XS.aloadN X_1.here hx rfl (hb hby d2_4) rfl rfl ?_
    exact ktg)
  obtain ⟨fs, hr, hrun, hended, hW, hsame⟩ := X_1.leave (v := some (.ref em)) (fun h => by rw [Bd.returns] at h; cases h)
  refine ⟨_, _, pre_2 _ ?_, hrun, hended, _, _, rfl, ?_, ⟨_, rfl⟩, hW, hsame.mono (by decide) (by decide)⟩
  · show Steps p.tables e below (T_1.setTop (mkF m 5 #[.val (.ref em)] [(.ref em)])) _
    jvm_step X_1.here [X_1.here.top, hx, (hb hby d2_5), X_1.method', Bd.returns, Value.isRef, FieldType.isReference]
    first | (intro acts; rw [hr _ acts rfl rfl rfl]) | rw [hr _ _ rfl rfl rfl]
    exact Steps.refl _
  · show Q2 Z em h0 n0 _ T_1.heap _
    rw [e_1]
    exact ⟨rfl, N0, rfl⟩
theorem d5_0 : decode jdk_2320_method_9_code 0 = .ok (.aload_n 0, 1) := by decide +kernel
theorem d5_1 : decode jdk_2320_method_9_code 1 = .ok (.invokespecial 137, 3) := by decide +kernel
theorem d5_4 : decode jdk_2320_method_9_code 4 = .ok (.aload_n 0, 1) := by decide +kernel
theorem d5_5 : decode jdk_2320_method_9_code 5 = .ok (.lload_n 1, 1) := by decide +kernel
theorem d5_6 : decode jdk_2320_method_9_code 6 = .ok (.putfield 140, 3) := by decide +kernel
theorem d5_9 : decode jdk_2320_method_9_code 9 = .ok (.aload_n 0, 1) := by decide +kernel
theorem d5_10 : decode jdk_2320_method_9_code 10 = .ok (.iload_n 3, 1) := by decide +kernel
theorem d5_11 : decode jdk_2320_method_9_code 11 = .ok (.putfield 144, 3) := by decide +kernel
theorem d5_14 : decode jdk_2320_method_9_code 14 = .ok (.return_, 1) := by decide +kernel
theorem pn_2 : plainName "java/time/Instant" = true := by first | (simp [plainName, overriddenIn]; done) | decide +kernel
theorem ef_5 (m : MethodId) (x0 : Addr) (x1 : Int64) (x2 : Int32) : entryFrame m #[(.ref x0), (.long x1), (.int x2)] 4 = mkF m 0 #[.val (.ref x0), .val (.long x1), .second, .val (.int x2)] [] := by first | (simp [entryFrame, mkF, argsToLocals, Value.category]; done) | rfl
def Q5 (Z : State) (a : Addr) (sc : Int64) (nn : Int32) (h0 : Heap) (n0 : Nat) (v : Option Value) (h : Heap) (L : List Loc) : Prop := v = none ∧ Fr n0 L ∧ Keep h0 h [a]
set_option maxRecDepth 65536 in
set_option maxHeartbeats 40000000 in
theorem rm5 (l : Launch) (Z : State) (a0 : Array Value) (hw : ∀ d ∈ tables_1, d.before a0 Z = true) (ws : List Jvm.Cond) (a : Addr) (sc : Int64) (nn : Int32) (h0 : Heap) (n0 : Nat) (Z0 : n0 ≤ h0.size) (E1 : Exa Z h0 a "java/time/Instant") (F1 : Fld Z h0 a "java/time/Instant" "seconds" "J" (.long (0 : Int64))) (F2 : Fld Z h0 a "java/time/Instant" "nanos" "I" (.int (0 : Int32))) (ga : n0 ≤ a) :
    MetFree l (⟨"java/time/Instant", "<init>", "(JI)V"⟩ : MethodName) (head1 (Jvm.Cond.code (⟨"java/time/Instant", "<init>", "(JI)V"⟩ : MethodName) jdk_2320_method_9_code 4 none :: ws) ({ frames := 1, cells := 0, slots := 0, locals := 12 } : Room)) (fun aA U => aA = #[(.ref a), (.long sc), (.int nn)] ∧ Z.Warmed39 U.vm ∧ U.heap = h0) (fun _ _ _ _ _ => True) (fun _ U oO U' => ∃ vV LL, oO = .returned vV ∧ Q5 Z a sc nn h0 n0 vV U'.heap LL ∧ FrameEnd U oO U' LL ({ frames := 1, cells := 0, slots := 0, locals := 12 } : Room).cells ({ frames := 1, cells := 0, slots := 0, locals := 12 } : Room).slots) := by
  refine MetFree.of_bodySF (plainFor_of_name pn_2) hisR ?_
  intro p e s m args below meth c s₁ Bd hml0 hP hK
  obtain ⟨rfl, hZ, hh⟩ := hP
  have hx := Bd.exec
  have hby := Bd.bytes
  have hml : c.maxLocals = 4 := hml0
  have hown : s.vm.findClass "java/time/Instant" = some m.cls := findClass_of_methodNamed Bd.named
  have hnm := (name_of_methodNamed Bd.named Bd.method).1
  have X0 : Stand p l e ({ frames := 1, cells := 0, slots := 0, locals := 12 } : Room) s m #[(.ref a), (.long sc), (.int nn)] below meth c s₁ [] 0 0 := Stand.of_body Bd
  have e0 : s₁.heap = h0 := by rw [← hh, Bd.state]; rfl
  have N0 := Fr.nil n0
  have K0 : Keep h0 h0 [a] := Keep.refl _ _
  have pre0 : Rch p.tables e below (s₁.setTop (entryFrame m #[(.ref a), (.long sc), (.int nn)] 4)) (s₁.setTop (mkF m 0 #[.val (.ref a), .val (.long sc), .second, .val (.int nn)] [])) := fun tgt ktg => castTop (ef_5 m a sc nn) ktg
  have pre_1 : Rch p.tables e below (s₁.setTop (entryFrame m #[(.ref a), (.long sc), (.int nn)] 4)) (s₁.setTop (mkF m 1 #[.val (.ref a), .val (.long sc), .second, .val (.int nn)] [(.ref a)])) := fun tgt ktg => pre0 tgt (by
    show Steps p.tables e below (s₁.setTop (mkF m 0 #[.val (.ref a), .val (.long sc), .second, .val (.int nn)] [])) _
    refine XS.aloadN X0.here hx rfl (hb hby d5_0) rfl rfl ?_
    exact ktg)
  obtain ⟨T_2, X_2, e_2, st_2⟩ := initO X0 hx hZ hown (hw _ (List.mem_of_getElem? (i := 29) rfl)) (hw _ (List.mem_of_getElem? (i := 30) rfl)) (hw _ (List.mem_of_getElem? (i := 31) rfl)) e0 (g := (mkF m 1 #[.val (.ref a), .val (.long sc), .second, .val (.int nn)] [(.ref a)])) rfl (by rw [hml]; rfl) rfl (hb hby d5_1) (by decide) (W := 0) (by show 2 * 0 + _ ≤ _; exact Nat.le_of_eq rfl) (by decide)
  have pre_2 : Rch p.tables e below (s₁.setTop (entryFrame m #[(.ref a), (.long sc), (.int nn)] 4)) (T_2.setTop (mkF m 4 #[.val (.ref a), .val (.long sc), .second, .val (.int nn)] [])) := fun tgt ktg => pre_1 tgt (st_2 tgt ktg)
  have pre_3 : Rch p.tables e below (s₁.setTop (entryFrame m #[(.ref a), (.long sc), (.int nn)] 4)) (T_2.setTop (mkF m 6 #[.val (.ref a), .val (.long sc), .second, .val (.int nn)] [(.long sc), (.ref a)])) := fun tgt ktg => pre_2 tgt (by
    show Steps p.tables e below (T_2.setTop (mkF m 4 #[.val (.ref a), .val (.long sc), .second, .val (.int nn)] [])) _
    refine XS.aloadN X_2.here hx rfl (hb hby d5_4) rfl rfl ?_
    show Steps p.tables e below (T_2.setTop (mkF m 5 #[.val (.ref a), .val (.long sc), .second, .val (.int nn)] [(.ref a)])) _
    refine XT.lloadN X_2.here hx rfl (hb hby d5_5) rfl ?_
    exact ktg)
  obtain ⟨T_4, h_4, X_4, e_4, W_4, st_4⟩ := putF X_2 hx hZ hown (host := "") (Or.inl (hw _ (List.mem_of_getElem? (i := 32) rfl))) Via.refl e_2 F1 E1 (Or.inr ⟨(hw _ (List.mem_of_getElem? (i := 33) rfl)), rfl, hnm⟩) (hw _ (List.mem_of_getElem? (i := 24) rfl)) (ty := .long) (by decide) rfl rfl (g := (mkF m 6 #[.val (.ref a), .val (.long sc), .second, .val (.int nn)] [(.long sc), (.ref a)])) rfl rfl (hb hby d5_6)
  have pre_4 : Rch p.tables e below (s₁.setTop (entryFrame m #[(.ref a), (.long sc), (.int nn)] 4)) (T_4.setTop (mkF m 9 #[.val (.ref a), .val (.long sc), .second, .val (.int nn)] [])) := fun tgt ktg => pre_3 tgt (st_4 tgt ktg)
  have f_5 : Exa Z h_4 a "java/time/Instant" := E1.wr W_4
  have f_6 : Fld Z h_4 a "java/time/Instant" "nanos" "I" (.int (0 : Int32)) := F2.other W_4 (Or.inr (slot_ne (Or.inr (hw _ (List.mem_of_getElem? (i := 35) rfl))) (Or.inr (hw _ (List.mem_of_getElem? (i := 33) rfl))) (by decide) (t := .int) (t' := .long) (by decide) (by decide)))
  have z_7 : n0 ≤ h_4.size := Nat.le_trans Z0 (Keep.of_wr W_4).1
  have K_8 : Keep h0 h_4 [a] := K0.wr W_4 (Or.inl (List.mem_of_getElem? (i := 0) rfl))
  have f_9 : Fld Z h_4 a "java/time/Instant" "seconds" "J" (.long sc) := F1.same W_4
  have N_10 := Fr.snoc X_4 N0 ga
  have pre_11 : Rch p.tables e below (s₁.setTop (entryFrame m #[(.ref a), (.long sc), (.int nn)] 4)) (T_4.setTop (mkF m 11 #[.val (.ref a), .val (.long sc), .second, .val (.int nn)] [(.int nn), (.ref a)])) := fun tgt ktg => pre_4 tgt (by
    show Steps p.tables e below (T_4.setTop (mkF m 9 #[.val (.ref a), .val (.long sc), .second, .val (.int nn)] [])) _
    refine XS.aloadN X_4.here hx rfl (hb hby d5_9) rfl rfl ?_
    show Steps p.tables e below (T_4.setTop (mkF m 10 #[.val (.ref a), .val (.long sc), .second, .val (.int nn)] [(.ref a)])) _
    refine XS.iloadN X_4.here hx rfl (hb hby d5_10) rfl ?_
    exact ktg)
  obtain ⟨T_12, h_12, X_12, e_12, W_12, st_12⟩ := putF X_4 hx hZ hown (host := "") (Or.inl (hw _ (List.mem_of_getElem? (i := 34) rfl))) Via.refl e_4 f_6 f_5 (Or.inr ⟨(hw _ (List.mem_of_getElem? (i := 35) rfl)), rfl, hnm⟩) (hw _ (List.mem_of_getElem? (i := 24) rfl)) (ty := .int) (by decide) rfl rfl (g := (mkF m 11 #[.val (.ref a), .val (.long sc), .second, .val (.int nn)] [(.int nn), (.ref a)])) rfl rfl (hb hby d5_11)
  have pre_12 : Rch p.tables e below (s₁.setTop (entryFrame m #[(.ref a), (.long sc), (.int nn)] 4)) (T_12.setTop (mkF m 14 #[.val (.ref a), .val (.long sc), .second, .val (.int nn)] [])) := fun tgt ktg => pre_11 tgt (st_12 tgt ktg)
  have f_13 : Exa Z h_12 a "java/time/Instant" := f_5.wr W_12
  have f_14 : Fld Z h_12 a "java/time/Instant" "seconds" "J" (.long sc) := f_9.other W_12 (Or.inr (slot_ne (Or.inr (hw _ (List.mem_of_getElem? (i := 33) rfl))) (Or.inr (hw _ (List.mem_of_getElem? (i := 35) rfl))) (by decide) (t := .long) (t' := .int) (by decide) (by decide)))
  have z_15 : n0 ≤ h_12.size := Nat.le_trans z_7 (Keep.of_wr W_12).1
  have K_16 : Keep h0 h_12 [a] := K_8.wr W_12 (Or.inl (List.mem_of_getElem? (i := 0) rfl))
  have f_17 : Fld Z h_12 a "java/time/Instant" "nanos" "I" (.int nn) := f_6.same W_12
  have N_18 := Fr.snoc X_12 N_10 ga
  obtain ⟨fs, hr, hrun, hended, hW, hsame⟩ := X_12.leave (v := none) (fun _ => rfl)
  refine ⟨_, _, pre_12 _ ?_, hrun, hended, _, _, rfl, ?_, ⟨_, rfl⟩, hW, hsame.mono (by decide) (by decide)⟩
  · show Steps p.tables e below (T_12.setTop (mkF m 14 #[.val (.ref a), .val (.long sc), .second, .val (.int nn)] [])) _
    exact X_12.returnOut hx Bd.returns (hb hby d5_14) hr
  · show Q5 Z a sc nn h0 n0 _ T_12.heap _
    rw [e_12]
    exact ⟨rfl, N_18, K_16⟩
theorem d4_0 : decode jdk_2320_method_8_code 0 = .ok (.lload_n 0, 1) := by decide +kernel
theorem d4_1 : decode jdk_2320_method_8_code 1 = .ok (.iload_n 2, 1) := by decide +kernel
theorem d4_2 : decode jdk_2320_method_8_code 2 = .ok (.i2l, 1) := by decide +kernel
theorem d4_3 : decode jdk_2320_method_8_code 3 = .ok (.lor, 1) := by decide +kernel
theorem d4_4 : decode jdk_2320_method_8_code 4 = .ok (.lconst 0, 1) := by decide +kernel
theorem d4_5 : decode jdk_2320_method_8_code 5 = .ok (.lcmp, 1) := by decide +kernel
theorem d4_6 : decode jdk_2320_method_8_code 6 = .ok (.ifCond .ne 7, 3) := by decide +kernel
theorem d4_9 : decode jdk_2320_method_8_code 9 = .ok (.getstatic 121, 3) := by decide +kernel
theorem d4_12 : decode jdk_2320_method_8_code 12 = .ok (.areturn, 1) := by decide +kernel
theorem d4_13 : decode jdk_2320_method_8_code 13 = .ok (.lload_n 0, 1) := by decide +kernel
theorem d4_14 : decode jdk_2320_method_8_code 14 = .ok (.ldc2_w 125, 3) := by decide +kernel
theorem d4_17 : decode jdk_2320_method_8_code 17 = .ok (.lcmp, 1) := by decide +kernel
theorem d4_18 : decode jdk_2320_method_8_code 18 = .ok (.ifCond .lt 11, 3) := by decide +kernel
theorem d4_21 : decode jdk_2320_method_8_code 21 = .ok (.lload_n 0, 1) := by decide +kernel
theorem d4_22 : decode jdk_2320_method_8_code 22 = .ok (.ldc2_w 127, 3) := by decide +kernel
theorem d4_25 : decode jdk_2320_method_8_code 25 = .ok (.lcmp, 1) := by decide +kernel
theorem d4_26 : decode jdk_2320_method_8_code 26 = .ok (.ifCond .le 13, 3) := by decide +kernel
theorem d4_39 : decode jdk_2320_method_8_code 39 = .ok (.new 21, 3) := by decide +kernel
theorem d4_42 : decode jdk_2320_method_8_code 42 = .ok (.dup, 1) := by decide +kernel
theorem d4_43 : decode jdk_2320_method_8_code 43 = .ok (.lload_n 0, 1) := by decide +kernel
theorem d4_44 : decode jdk_2320_method_8_code 44 = .ok (.iload_n 2, 1) := by decide +kernel
theorem d4_45 : decode jdk_2320_method_8_code 45 = .ok (.invokespecial 134, 3) := by decide +kernel
theorem pd_0 : parseMethodDescriptor "(JI)V" = some ⟨[.long, .int], none⟩ := by decide +kernel
theorem d4_48 : decode jdk_2320_method_8_code 48 = .ok (.areturn, 1) := by decide +kernel
theorem ef_4 (m : MethodId) (x0 : Int64) (x1 : Int32) : entryFrame m #[(.long x0), (.int x1)] 3 = mkF m 0 #[.val (.long x0), .second, .val (.int x1)] [] := by first | (simp [entryFrame, mkF, argsToLocals, Value.category]; done) | rfl
def Q4 (Z : State) (sc : Int64) (h0 : Heap) (n0 : Nat) (v : Option Value) (h : Heap) (L : List Loc) : Prop := ∃ b : Addr, v = some (.ref b) ∧ Fr n0 L ∧ Keep h0 h []
set_option maxRecDepth 65536 in
set_option maxHeartbeats 40000000 in
theorem rm4 (l : Launch) (Z : State) (a0 : Array Value) (hw : ∀ d ∈ tables_1, d.before a0 Z = true) (ws : List Jvm.Cond) (sc : Int64) (h0 : Heap) (n0 : Nat) (Z0 : n0 ≤ h0.size) (ep : Addr) (S1 : Sta Z h0 "java/time/Instant" "EPOCH" "Ljava/time/Instant;" (.ref ep)) (hs : ¬ (XT.cmpL sc (-31557014167219200 : Int64)) < 0 ∧ ¬ (0 : Int32) < (XT.cmpL sc (31556889864403199 : Int64))) :
    MetFree l (⟨"java/time/Instant", "create", "(JI)Ljava/time/Instant;"⟩ : MethodName) (head1 (Jvm.Cond.code (⟨"java/time/Instant", "create", "(JI)Ljava/time/Instant;"⟩ : MethodName) jdk_2320_method_8_code 3 (some (.object "java/time/Instant")) :: ws) ({ frames := 2, cells := 1, slots := 2, locals := 28 } : Room)) (fun aA U => aA = #[(.long sc), (.int (0 : Int32))] ∧ Z.Warmed39 U.vm ∧ U.heap = h0) (fun _ _ _ _ _ => True) (fun _ U oO U' => ∃ vV LL, oO = .returned vV ∧ Q4 Z sc h0 n0 vV U'.heap LL ∧ FrameEnd U oO U' LL ({ frames := 2, cells := 1, slots := 2, locals := 28 } : Room).cells ({ frames := 2, cells := 1, slots := 2, locals := 28 } : Room).slots) := by
  refine MetFree.of_bodySF (plainFor_of_name pn_2) hisR ?_
  intro p e s m args below meth c s₁ Bd hml0 hP hK
  obtain ⟨rfl, hZ, hh⟩ := hP
  have hx := Bd.exec
  have hby := Bd.bytes
  have hml : c.maxLocals = 3 := hml0
  have hown : s.vm.findClass "java/time/Instant" = some m.cls := findClass_of_methodNamed Bd.named
  have hnm := (name_of_methodNamed Bd.named Bd.method).1
  have X0 : Stand p l e ({ frames := 2, cells := 1, slots := 2, locals := 28 } : Room) s m #[(.long sc), (.int (0 : Int32))] below meth c s₁ [] 0 0 := Stand.of_body Bd
  have e0 : s₁.heap = h0 := by rw [← hh, Bd.state]; rfl
  have N0 := Fr.nil n0
  have K0 : Keep h0 h0 [] := Keep.refl _ _
  have pre0 : Rch p.tables e below (s₁.setTop (entryFrame m #[(.long sc), (.int (0 : Int32))] 3)) (s₁.setTop (mkF m 0 #[.val (.long sc), .second, .val (.int (0 : Int32))] [])) := fun tgt ktg => castTop (ef_4 m sc (0 : Int32)) ktg
  have pre_1 : Rch p.tables e below (s₁.setTop (entryFrame m #[(.long sc), (.int (0 : Int32))] 3)) (s₁.setTop (mkF m 6 #[.val (.long sc), .second, .val (.int (0 : Int32))] [(.int (XT.cmpL (sc ||| ((0 : Int32).toInt64)) (0 : Int64)))])) := fun tgt ktg => pre0 tgt (by
    show Steps p.tables e below (s₁.setTop (mkF m 0 #[.val (.long sc), .second, .val (.int (0 : Int32))] [])) _
    refine XT.lloadN X0.here hx rfl (hb hby d4_0) rfl ?_
    show Steps p.tables e below (s₁.setTop (mkF m 1 #[.val (.long sc), .second, .val (.int (0 : Int32))] [(.long sc)])) _
    refine XS.iloadN X0.here hx rfl (hb hby d4_1) rfl ?_
    show Steps p.tables e below (s₁.setTop (mkF m 2 #[.val (.long sc), .second, .val (.int (0 : Int32))] [(.int (0 : Int32)), (.long sc)])) _
    refine XT.i2l X0.here hx rfl (hb hby d4_2) rfl ?_
    show Steps p.tables e below (s₁.setTop (mkF m 3 #[.val (.long sc), .second, .val (.int (0 : Int32))] [(.long ((0 : Int32).toInt64)), (.long sc)])) _
    refine XT.lor X0.here hx rfl (hb hby d4_3) rfl ?_
    show Steps p.tables e below (s₁.setTop (mkF m 4 #[.val (.long sc), .second, .val (.int (0 : Int32))] [(.long (sc ||| ((0 : Int32).toInt64)))])) _
    refine XT.lconst X0.here hx rfl (hb hby d4_4) ?_
    show Steps p.tables e below (s₁.setTop (mkF m 5 #[.val (.long sc), .second, .val (.int (0 : Int32))] [(.long (0 : Int64)), (.long (sc ||| ((0 : Int32).toInt64)))])) _
    refine XT.lcmp X0.here hx rfl (hb hby d4_5) rfl ?_
    exact ktg)
  by_cases c_2 : (XT.cmpL (sc ||| ((0 : Int32).toInt64)) (0 : Int64)) = (0 : Int32)
  · skip
    have pre_3 : Rch p.tables e below (s₁.setTop (entryFrame m #[(.long sc), (.int (0 : Int32))] 3)) (s₁.setTop (mkF m 9 #[.val (.long sc), .second, .val (.int (0 : Int32))] [])) := fun tgt ktg => pre_1 tgt (by
      show Steps p.tables e below (s₁.setTop (mkF m 6 #[.val (.long sc), .second, .val (.int (0 : Int32))] [(.int (XT.cmpL (sc ||| ((0 : Int32).toInt64)) (0 : Int64)))])) _
      refine XS.ifNo X0.here hx rfl (hb hby d4_6) rfl ((if0 _ _).trans (teq c_2).2) ?_
      exact ktg)
    obtain ⟨T_4, X_4, e_4, st_4⟩ := getS2 X0 hx hZ hown (host := "") (Or.inl (hw _ (List.mem_of_getElem? (i := 137) rfl))) Via.refl e0 S1 (g := (mkF m 9 #[.val (.long sc), .second, .val (.int (0 : Int32))] [])) rfl (hb hby d4_9)
    have pre_4 : Rch p.tables e below (s₁.setTop (entryFrame m #[(.long sc), (.int (0 : Int32))] 3)) (T_4.setTop (mkF m 12 #[.val (.long sc), .second, .val (.int (0 : Int32))] [(.ref ep)])) := fun tgt ktg => pre_3 tgt (st_4 tgt ktg)
    obtain ⟨fs, hr, hrun, hended, hW, hsame⟩ := X_4.leave (v := some (.ref ep)) (fun h => by rw [Bd.returns] at h; cases h)
    refine ⟨_, _, pre_4 _ ?_, hrun, hended, _, _, rfl, ?_, ⟨_, rfl⟩, hW, hsame.mono (by decide) (by decide)⟩
    · show Steps p.tables e below (T_4.setTop (mkF m 12 #[.val (.long sc), .second, .val (.int (0 : Int32))] [(.ref ep)])) _
      jvm_step X_4.here [X_4.here.top, hx, (hb hby d4_12), X_4.method', Bd.returns, Value.isRef, FieldType.isReference]
      first | (intro acts; rw [hr _ acts rfl rfl rfl]) | rw [hr _ _ rfl rfl rfl]
      exact Steps.refl _
    · show Q4 Z sc h0 n0 _ T_4.heap _
      rw [e_4]
      exact ⟨ep, rfl, N0, K0⟩
  · skip
    have pre_5 : Rch p.tables e below (s₁.setTop (entryFrame m #[(.long sc), (.int (0 : Int32))] 3)) (s₁.setTop (mkF m 13 #[.val (.long sc), .second, .val (.int (0 : Int32))] [])) := fun tgt ktg => pre_1 tgt (by
      show Steps p.tables e below (s₁.setTop (mkF m 6 #[.val (.long sc), .second, .val (.int (0 : Int32))] [(.int (XT.cmpL (sc ||| ((0 : Int32).toInt64)) (0 : Int64)))])) _
      refine XS.ifYes X0.here hx rfl (pc0 := 6) (pc' := 13) rfl (hb hby d4_6) rfl ((if0 _ _).trans (feq c_2).2) (by decide) (by decide) ?_
      exact ktg)
    have pre_6 : Rch p.tables e below (s₁.setTop (entryFrame m #[(.long sc), (.int (0 : Int32))] 3)) (s₁.setTop (mkF m 39 #[.val (.long sc), .second, .val (.int (0 : Int32))] [])) := fun tgt ktg => pre_5 tgt (by
      show Steps p.tables e below (s₁.setTop (mkF m 13 #[.val (.long sc), .second, .val (.int (0 : Int32))] [])) _
      refine XT.lloadN X0.here hx rfl (hb hby d4_13) rfl ?_
      show Steps p.tables e below (s₁.setTop (mkF m 14 #[.val (.long sc), .second, .val (.int (0 : Int32))] [(.long sc)])) _
      refine X0.ldc2Long hx hown (mvT hZ (hw _ (List.mem_of_getElem? (i := 21) rfl))) (g := (mkF m 14 #[.val (.long sc), .second, .val (.int (0 : Int32))] [(.long sc)])) rfl (hb hby d4_14) _ ?_
      show Steps p.tables e below (s₁.setTop (mkF m 17 #[.val (.long sc), .second, .val (.int (0 : Int32))] [(.long (-31557014167219200 : Int64)), (.long sc)])) _
      refine XT.lcmp X0.here hx rfl (hb hby d4_17) rfl ?_
      show Steps p.tables e below (s₁.setTop (mkF m 18 #[.val (.long sc), .second, .val (.int (0 : Int32))] [(.int (XT.cmpL sc (-31557014167219200 : Int64)))])) _
      refine XS.ifNo X0.here hx rfl (hb hby d4_18) rfl ((if0 _ _).trans (flt hs.1).1) ?_
      show Steps p.tables e below (s₁.setTop (mkF m 21 #[.val (.long sc), .second, .val (.int (0 : Int32))] [])) _
      refine XT.lloadN X0.here hx rfl (hb hby d4_21) rfl ?_
      show Steps p.tables e below (s₁.setTop (mkF m 22 #[.val (.long sc), .second, .val (.int (0 : Int32))] [(.long sc)])) _
      refine X0.ldc2Long hx hown (mvT hZ (hw _ (List.mem_of_getElem? (i := 22) rfl))) (g := (mkF m 22 #[.val (.long sc), .second, .val (.int (0 : Int32))] [(.long sc)])) rfl (hb hby d4_22) _ ?_
      show Steps p.tables e below (s₁.setTop (mkF m 25 #[.val (.long sc), .second, .val (.int (0 : Int32))] [(.long (31556889864403199 : Int64)), (.long sc)])) _
      refine XT.lcmp X0.here hx rfl (hb hby d4_25) rfl ?_
      show Steps p.tables e below (s₁.setTop (mkF m 26 #[.val (.long sc), .second, .val (.int (0 : Int32))] [(.int (XT.cmpL sc (31556889864403199 : Int64)))])) _
      refine XS.ifYes X0.here hx rfl (pc0 := 26) (pc' := 39) rfl (hb hby d4_26) rfl ((if0 _ _).trans (flt hs.2).2.2.2) (by decide) (by decide) ?_
      exact ktg)
    obtain ⟨T_7, h_7, X_7, e_7, E_7, A_7, D_7, U_7, st_7⟩ := newO X0 hx hZ hown (hw _ (List.mem_of_getElem? (i := 23) rfl)) (hw _ (List.mem_of_getElem? (i := 24) rfl)) (hw _ (List.mem_of_getElem? (i := 16) rfl)) e0 (g := (mkF m 39 #[.val (.long sc), .second, .val (.int (0 : Int32))] [])) rfl (hb hby d4_39) (by decide) (by decide)
    obtain ⟨b, g_7⟩ : ∃ nm_, nm_ = h0.size := ⟨_, rfl⟩
    rw [← g_7] at A_7 D_7 U_7 st_7
    have g_b : n0 ≤ b := Nat.le_trans Z0 (Nat.le_of_eq g_7.symm)
    have sz_b : h0.size ≤ b := Nat.le_trans K0.1 (Nat.le_of_eq g_7.symm)
    have pre_7 : Rch p.tables e below (s₁.setTop (entryFrame m #[(.long sc), (.int (0 : Int32))] 3)) (T_7.setTop (mkF m 42 #[.val (.long sc), .second, .val (.int (0 : Int32))] [(.ref b)])) := fun tgt ktg => pre_6 tgt (st_7 tgt ktg)
    have f_8 : Sta Z h_7 "java/time/Instant" "EPOCH" "Ljava/time/Instant;" (.ref ep) := S1.ext E_7
    have z_9 : n0 ≤ h_7.size := Nat.le_trans Z0 E_7.1
    have K_10 : Keep h0 h_7 [] := K0.ext E_7
    have f_11 : Exa Z h_7 b "java/time/Instant" := A_7
    have f_12 : Fld Z h_7 b "java/time/Instant" "seconds" "J" (.long (0 : Int64)) := D_7 (Or.inr (hw _ (List.mem_of_getElem? (i := 33) rfl))) (ty := .long) (by decide)
    have f_13 : Fld Z h_7 b "java/time/Instant" "nanos" "I" (.int (0 : Int32)) := D_7 (Or.inr (hw _ (List.mem_of_getElem? (i := 35) rfl))) (ty := .int) (by decide)
    have pre_14 : Rch p.tables e below (s₁.setTop (entryFrame m #[(.long sc), (.int (0 : Int32))] 3)) (T_7.setTop (mkF m 45 #[.val (.long sc), .second, .val (.int (0 : Int32))] [(.int (0 : Int32)), (.long sc), (.ref b), (.ref b)])) := fun tgt ktg => pre_7 tgt (by
      show Steps p.tables e below (T_7.setTop (mkF m 42 #[.val (.long sc), .second, .val (.int (0 : Int32))] [(.ref b)])) _
      refine XS.dup X_7.here hx rfl (hb hby d4_42) rfl rfl ?_
      show Steps p.tables e below (T_7.setTop (mkF m 43 #[.val (.long sc), .second, .val (.int (0 : Int32))] [(.ref b), (.ref b)])) _
      refine XT.lloadN X_7.here hx rfl (hb hby d4_43) rfl ?_
      show Steps p.tables e below (T_7.setTop (mkF m 44 #[.val (.long sc), .second, .val (.int (0 : Int32))] [(.long sc), (.ref b), (.ref b)])) _
      refine XS.iloadN X_7.here hx rfl (hb hby d4_44) rfl ?_
      exact ktg)
    obtain ⟨_, _, ⟨T_15, L_15, k_15, n_15⟩, -, X_15, ⟨Lc_15, hQ_15, l_15, y_15, z_15⟩, st_15⟩ := X_7.specialBack hx (y := (⟨"java/time/Instant", "<init>", "(JI)V"⟩ : MethodName)) rfl hown (mvT hZ (hw _ (List.mem_of_getElem? (i := 25) rfl))) (mvT hZ (hw _ (List.mem_of_getElem? (i := 26) rfl))) (mvT hZ (hw _ (List.mem_of_getElem? (i := 28) rfl))) (by decide) (backOf (W := 1) (rm5 l Z a0 hw [] b sc (0 : Int32) h_7 n0 z_9 f_11 f_12 f_13 g_b) hZ (hw _ (List.mem_of_getElem? (i := 28) rfl)) (hw _ (List.mem_of_getElem? (i := 16) rfl)) (by decide) (by decide)) (g := (mkF m 45 #[.val (.long sc), .second, .val (.int (0 : Int32))] [(.int (0 : Int32)), (.long sc), (.ref b), (.ref b)])) rfl (by rw [hml]; rfl) (Steps.refl _) (a := b) (argsL := [(.long sc), (.int (0 : Int32))]) (rest := [(.ref b)]) (lenOf pd_0 rfl) rfl (by show 2 * 0 + _ ≤ _; exact Nat.le_of_eq rfl) (hb hby d4_45) (fun _ _ => ⟨rfl, e_7, (by decide : 1 + 0 ≤ _), (by decide : 2 + 0 ≤ _)⟩)
    dsimp only [Pt.U, Pt.locs, Pt.cells, Pt.slots] at X_15 l_15 y_15 z_15 st_15 hQ_15
    subst l_15 y_15 z_15
    obtain ⟨rfl, Nq_15, Kq_15⟩ := hQ_15
    have N_16 := Fr.app N0 Nq_15
    have pre_15 : Rch p.tables e below (s₁.setTop (entryFrame m #[(.long sc), (.int (0 : Int32))] 3)) (T_15.setTop (mkF m 48 #[.val (.long sc), .second, .val (.int (0 : Int32))] [(.ref b)])) := fun tgt ktg => pre_14 tgt (st_15.trans ktg)
    have z_17 : n0 ≤ T_15.heap.size := Nat.le_trans z_9 Kq_15.1
    have K_18 : Keep h0 T_15.heap [] := K_10.trans Kq_15 (allS (P := fun x => x ∈ ([] : List Addr) ∨ h0.size ≤ x) (Or.inr sz_b) (all0 (P := fun x => x ∈ ([] : List Addr) ∨ h0.size ≤ x)))
    obtain ⟨fs, hr, hrun, hended, hW, hsame⟩ := X_15.leave (v := some (.ref b)) (fun h => by rw [Bd.returns] at h; cases h)
    refine ⟨_, _, pre_15 _ ?_, hrun, hended, _, _, rfl, ?_, ⟨_, rfl⟩, hW, hsame.mono (by decide) (by decide)⟩
    · show Steps p.tables e below (T_15.setTop (mkF m 48 #[.val (.long sc), .second, .val (.int (0 : Int32))] [(.ref b)])) _
      jvm_step X_15.here [X_15.here.top, hx, (hb hby d4_48), X_15.method', Bd.returns, Value.isRef, FieldType.isReference]
      first | (intro acts; rw [hr _ acts rfl rfl rfl]) | rw [hr _ _ rfl rfl rfl]
      exact Steps.refl _
    · show Q4 Z sc h0 n0 _ T_15.heap _
      exact ⟨b, rfl, N_16, K_18⟩
theorem d3_0 : decode jdk_2320_method_3_code 0 = .ok (.lload_n 0, 1) := by decide +kernel
theorem d3_1 : decode jdk_2320_method_3_code 1 = .ok (.iconst 0, 1) := by decide +kernel
theorem d3_2 : decode jdk_2320_method_3_code 2 = .ok (.invokestatic 20, 3) := by decide +kernel
theorem pd_1 : parseMethodDescriptor "(JI)Ljava/time/Instant;" = some ⟨[.long, .int], some (.object "java/time/Instant")⟩ := by decide +kernel
theorem d3_5 : decode jdk_2320_method_3_code 5 = .ok (.areturn, 1) := by decide +kernel
theorem ef_3 (m : MethodId) (x0 : Int64) : entryFrame m #[(.long x0)] 2 = mkF m 0 #[.val (.long x0), .second] [] := by first | (simp [entryFrame, mkF, argsToLocals, Value.category]; done) | rfl
def Q3 (Z : State) (sc : Int64) (h0 : Heap) (n0 : Nat) (v : Option Value) (h : Heap) (L : List Loc) : Prop := ∃ b : Addr, v = some (.ref b) ∧ Fr n0 L ∧ Keep h0 h []
set_option maxRecDepth 65536 in
set_option maxHeartbeats 40000000 in
theorem rm3 (l : Launch) (Z : State) (a0 : Array Value) (hw : ∀ d ∈ tables_1, d.before a0 Z = true) (ws : List Jvm.Cond) (sc : Int64) (h0 : Heap) (n0 : Nat) (Z0 : n0 ≤ h0.size) (ep : Addr) (S1 : Sta Z h0 "java/time/Instant" "EPOCH" "Ljava/time/Instant;" (.ref ep)) (hs : ¬ (XT.cmpL sc (-31557014167219200 : Int64)) < 0 ∧ ¬ (0 : Int32) < (XT.cmpL sc (31556889864403199 : Int64))) :
    MetFree l (⟨"java/time/Instant", "ofEpochSecond", "(J)Ljava/time/Instant;"⟩ : MethodName) (head1 (Jvm.Cond.code (⟨"java/time/Instant", "ofEpochSecond", "(J)Ljava/time/Instant;"⟩ : MethodName) jdk_2320_method_3_code 2 (some (.object "java/time/Instant")) :: ws) ({ frames := 3, cells := 1, slots := 2, locals := 45 } : Room)) (fun aA U => aA = #[(.long sc)] ∧ Z.Warmed39 U.vm ∧ U.heap = h0) (fun _ _ _ _ _ => True) (fun _ U oO U' => ∃ vV LL, oO = .returned vV ∧ Q3 Z sc h0 n0 vV U'.heap LL ∧ FrameEnd U oO U' LL ({ frames := 3, cells := 1, slots := 2, locals := 45 } : Room).cells ({ frames := 3, cells := 1, slots := 2, locals := 45 } : Room).slots) := by
  refine MetFree.of_bodySF (plainFor_of_name pn_2) hisR ?_
  intro p e s m args below meth c s₁ Bd hml0 hP hK
  obtain ⟨rfl, hZ, hh⟩ := hP
  have hx := Bd.exec
  have hby := Bd.bytes
  have hml : c.maxLocals = 2 := hml0
  have hown : s.vm.findClass "java/time/Instant" = some m.cls := findClass_of_methodNamed Bd.named
  have hnm := (name_of_methodNamed Bd.named Bd.method).1
  have X0 : Stand p l e ({ frames := 3, cells := 1, slots := 2, locals := 45 } : Room) s m #[(.long sc)] below meth c s₁ [] 0 0 := Stand.of_body Bd
  have e0 : s₁.heap = h0 := by rw [← hh, Bd.state]; rfl
  have N0 := Fr.nil n0
  have K0 : Keep h0 h0 [] := Keep.refl _ _
  have pre0 : Rch p.tables e below (s₁.setTop (entryFrame m #[(.long sc)] 2)) (s₁.setTop (mkF m 0 #[.val (.long sc), .second] [])) := fun tgt ktg => castTop (ef_3 m sc) ktg
  have pre_1 : Rch p.tables e below (s₁.setTop (entryFrame m #[(.long sc)] 2)) (s₁.setTop (mkF m 2 #[.val (.long sc), .second] [(.int (0 : Int32)), (.long sc)])) := fun tgt ktg => pre0 tgt (by
    show Steps p.tables e below (s₁.setTop (mkF m 0 #[.val (.long sc), .second] [])) _
    refine XT.lloadN X0.here hx rfl (hb hby d3_0) rfl ?_
    show Steps p.tables e below (s₁.setTop (mkF m 1 #[.val (.long sc), .second] [(.long sc)])) _
    refine XS.iconst X0.here hx rfl (hb hby d3_1) ?_
    exact ktg)
  obtain ⟨_, _, ⟨T_2, L_2, k_2, n_2⟩, -, X_2, ⟨Lc_2, hQ_2, l_2, y_2, z_2⟩, st_2⟩ := Jvm.LawKit.callS X0 hx (y := (⟨"java/time/Instant", "create", "(JI)Ljava/time/Instant;"⟩ : MethodName)) hown (mvT hZ (hw _ (List.mem_of_getElem? (i := 18) rfl))) (mvT hZ (hw _ (List.mem_of_getElem? (i := 19) rfl))) (mvT hZ (hw _ (List.mem_of_getElem? (i := 16) rfl))) (mvT hZ (hw _ (List.mem_of_getElem? (i := 20) rfl))) (by decide) (backOf (W := 0) (rm4 l Z a0 hw [] sc h0 n0 Z0 ep S1 hs) hZ (hw _ (List.mem_of_getElem? (i := 20) rfl)) (hw _ (List.mem_of_getElem? (i := 16) rfl)) (by decide) (by decide)) (g := (mkF m 2 #[.val (.long sc), .second] [(.int (0 : Int32)), (.long sc)])) rfl (by rw [hml]; rfl) (argsL := [(.long sc), (.int (0 : Int32))]) (rest := []) (lenOf pd_1 rfl) rfl (by show 2 * 0 + _ ≤ _; exact Nat.le_of_eq rfl) (hb hby d3_2) (fun _ _ => ⟨rfl, e0, (by decide : 0 + 1 ≤ _), (by decide : 0 + 2 ≤ _)⟩)
  dsimp only [Pt.U, Pt.locs, Pt.cells, Pt.slots] at X_2 l_2 y_2 z_2 st_2 hQ_2
  subst l_2 y_2 z_2
  obtain ⟨b, rfl, Nq_2, Kq_2⟩ := hQ_2
  have N_3 := Fr.app N0 Nq_2
  have pre_2 : Rch p.tables e below (s₁.setTop (entryFrame m #[(.long sc)] 2)) (T_2.setTop (mkF m 5 #[.val (.long sc), .second] [(.ref b)])) := fun tgt ktg => pre_1 tgt (st_2 tgt ktg)
  have z_4 : n0 ≤ T_2.heap.size := Nat.le_trans Z0 Kq_2.1
  have K_5 : Keep h0 T_2.heap [] := K0.trans Kq_2 (all0 (P := fun x => x ∈ ([] : List Addr) ∨ h0.size ≤ x))
  obtain ⟨fs, hr, hrun, hended, hW, hsame⟩ := X_2.leave (v := some (.ref b)) (fun h => by rw [Bd.returns] at h; cases h)
  refine ⟨_, _, pre_2 _ ?_, hrun, hended, _, _, rfl, ?_, ⟨_, rfl⟩, hW, hsame.mono (by decide) (by decide)⟩
  · show Steps p.tables e below (T_2.setTop (mkF m 5 #[.val (.long sc), .second] [(.ref b)])) _
    jvm_step X_2.here [X_2.here.top, hx, (hb hby d3_5), X_2.method', Bd.returns, Value.isRef, FieldType.isReference]
    first | (intro acts; rw [hr _ acts rfl rfl rfl]) | rw [hr _ _ rfl rfl rfl]
    exact Steps.refl _
  · show Q3 Z sc h0 n0 _ T_2.heap _
    exact ⟨b, rfl, N_3, K_5⟩
theorem d8_0 : decode jdk_31_method_10_code 0 = .ok (.aload_n 0, 1) := by decide +kernel
theorem d8_1 : decode jdk_31_method_10_code 1 = .ok (.ifnonnull 11, 3) := by decide +kernel
theorem d8_12 : decode jdk_31_method_10_code 12 = .ok (.aload_n 0, 1) := by decide +kernel
theorem d8_13 : decode jdk_31_method_10_code 13 = .ok (.areturn, 1) := by decide +kernel
theorem pn_3 : plainName "java/util/Objects" = true := by first | (simp [plainName, overriddenIn]; done) | decide +kernel
theorem ef_8 (m : MethodId) (x0 : Addr) : entryFrame m #[(.ref x0)] 1 = mkF m 0 #[.val (.ref x0)] [] := by first | (simp [entryFrame, mkF, argsToLocals, Value.category]; done) | rfl
def Q8 (Z : State) (b : Addr) (h0 : Heap) (n0 : Nat) (v : Option Value) (h : Heap) (L : List Loc) : Prop := v = some (.ref b) ∧ Fr n0 L ∧ h = h0
set_option maxRecDepth 65536 in
set_option maxHeartbeats 40000000 in
theorem rm8 (l : Launch) (Z : State) (a0 : Array Value) (hw : ∀ d ∈ tables_1, d.before a0 Z = true) (ws : List Jvm.Cond) (b : Addr) (h0 : Heap) (n0 : Nat) (Z0 : n0 ≤ h0.size)  :
    MetFree l (⟨"java/util/Objects", "requireNonNull", "(Ljava/lang/Object;)Ljava/lang/Object;"⟩ : MethodName) (head1 (Jvm.Cond.code (⟨"java/util/Objects", "requireNonNull", "(Ljava/lang/Object;)Ljava/lang/Object;"⟩ : MethodName) jdk_31_method_10_code 1 (some (.object "java/lang/Object")) :: ws) ({ frames := 0, cells := 0, slots := 0, locals := 0 } : Room)) (fun aA U => aA = #[(.ref b)] ∧ Z.Warmed39 U.vm ∧ U.heap = h0) (fun _ _ _ _ _ => True) (fun _ U oO U' => ∃ vV LL, oO = .returned vV ∧ Q8 Z b h0 n0 vV U'.heap LL ∧ FrameEnd U oO U' LL ({ frames := 0, cells := 0, slots := 0, locals := 0 } : Room).cells ({ frames := 0, cells := 0, slots := 0, locals := 0 } : Room).slots) := by
  refine MetFree.of_bodySF (plainFor_of_name pn_3) hisR ?_
  intro p e s m args below meth c s₁ Bd hml0 hP hK
  obtain ⟨rfl, hZ, hh⟩ := hP
  have hx := Bd.exec
  have hby := Bd.bytes
  have hml : c.maxLocals = 1 := hml0
  have hown : s.vm.findClass "java/util/Objects" = some m.cls := findClass_of_methodNamed Bd.named
  have hnm := (name_of_methodNamed Bd.named Bd.method).1
  have X0 : Stand p l e ({ frames := 0, cells := 0, slots := 0, locals := 0 } : Room) s m #[(.ref b)] below meth c s₁ [] 0 0 := Stand.of_body Bd
  have e0 : s₁.heap = h0 := by rw [← hh, Bd.state]; rfl
  have N0 := Fr.nil n0
  have K0 : Keep h0 h0 [] := Keep.refl _ _
  have pre0 : Rch p.tables e below (s₁.setTop (entryFrame m #[(.ref b)] 1)) (s₁.setTop (mkF m 0 #[.val (.ref b)] [])) := fun tgt ktg => castTop (ef_8 m b) ktg
  have pre_1 : Rch p.tables e below (s₁.setTop (entryFrame m #[(.ref b)] 1)) (s₁.setTop (mkF m 13 #[.val (.ref b)] [(.ref b)])) := fun tgt ktg => pre0 tgt (by
    show Steps p.tables e below (s₁.setTop (mkF m 0 #[.val (.ref b)] [])) _
    refine XS.aloadN X0.here hx rfl (hb hby d8_0) rfl rfl ?_
    show Steps p.tables e below (s₁.setTop (mkF m 1 #[.val (.ref b)] [(.ref b)])) _
    refine XT.ifnonnullYes X0.here hx rfl (pc0 := 1) (pc' := 12) rfl (hb hby d8_1) rfl (by decide) (by decide) ?_
    show Steps p.tables e below (s₁.setTop (mkF m 12 #[.val (.ref b)] [])) _
    refine XS.aloadN X0.here hx rfl (hb hby d8_12) rfl rfl ?_
    exact ktg)
  obtain ⟨fs, hr, hrun, hended, hW, hsame⟩ := X0.leave (v := some (.ref b)) (fun h => by rw [Bd.returns] at h; cases h)
  refine ⟨_, _, pre_1 _ ?_, hrun, hended, _, _, rfl, ?_, ⟨_, rfl⟩, hW, hsame.mono (by decide) (by decide)⟩
  · show Steps p.tables e below (s₁.setTop (mkF m 13 #[.val (.ref b)] [(.ref b)])) _
    jvm_step X0.here [X0.here.top, hx, (hb hby d8_13), X0.method', Bd.returns, Value.isRef, FieldType.isReference]
    first | (intro acts; rw [hr _ acts rfl rfl rfl]) | rw [hr _ _ rfl rfl rfl]
    exact Steps.refl _
  · show Q8 Z b h0 n0 _ s₁.heap _
    rw [e0]
    exact ⟨rfl, N0, rfl⟩
theorem d9_0 : decode jdk_32_method_2_code 0 = .ok (.aload_n 0, 1) := by decide +kernel
theorem d9_1 : decode jdk_32_method_2_code 1 = .ok (.invokespecial 7, 3) := by decide +kernel
theorem d9_4 : decode jdk_32_method_2_code 4 = .ok (.aload_n 0, 1) := by decide +kernel
theorem d9_5 : decode jdk_32_method_2_code 5 = .ok (.aload_n 1, 1) := by decide +kernel
theorem d9_6 : decode jdk_32_method_2_code 6 = .ok (.putfield 13, 3) := by decide +kernel
theorem d9_9 : decode jdk_32_method_2_code 9 = .ok (.return_, 1) := by decide +kernel
theorem ef_9 (m : MethodId) (x0 : Addr) (x1 : Addr) : entryFrame m #[(.ref x0), (.ref x1)] 2 = mkF m 0 #[.val (.ref x0), .val (.ref x1)] [] := by first | (simp [entryFrame, mkF, argsToLocals, Value.category]; done) | rfl
def Q9 (Z : State) (a : Addr) (b : Addr) (h0 : Heap) (n0 : Nat) (v : Option Value) (h : Heap) (L : List Loc) : Prop := v = none ∧ Fr n0 L ∧ Keep h0 h [a] ∧ OptS Z h a 1
set_option maxRecDepth 65536 in
set_option maxHeartbeats 40000000 in
theorem rm9 (l : Launch) (Z : State) (a0 : Array Value) (hw : ∀ d ∈ tables_1, d.before a0 Z = true) (ws : List Jvm.Cond) (a : Addr) (b : Addr) (h0 : Heap) (n0 : Nat) (Z0 : n0 ≤ h0.size) (E1 : Exa Z h0 a "java/util/Optional") (F1 : Fld Z h0 a "java/util/Optional" "value" "Ljava/lang/Object;" .null) (ga : n0 ≤ a) :
    MetFree l (⟨"java/util/Optional", "<init>", "(Ljava/lang/Object;)V"⟩ : MethodName) (head1 (Jvm.Cond.code (⟨"java/util/Optional", "<init>", "(Ljava/lang/Object;)V"⟩ : MethodName) jdk_32_method_2_code 2 none :: ws) ({ frames := 1, cells := 0, slots := 0, locals := 12 } : Room)) (fun aA U => aA = #[(.ref a), (.ref b)] ∧ Z.Warmed39 U.vm ∧ U.heap = h0) (fun _ _ _ _ _ => True) (fun _ U oO U' => ∃ vV LL, oO = .returned vV ∧ Q9 Z a b h0 n0 vV U'.heap LL ∧ FrameEnd U oO U' LL ({ frames := 1, cells := 0, slots := 0, locals := 12 } : Room).cells ({ frames := 1, cells := 0, slots := 0, locals := 12 } : Room).slots) := by
  refine MetFree.of_bodySF (plainFor_of_name pn_1) hisR ?_
  intro p e s m args below meth c s₁ Bd hml0 hP hK
  obtain ⟨rfl, hZ, hh⟩ := hP
  have hx := Bd.exec
  have hby := Bd.bytes
  have hml : c.maxLocals = 2 := hml0
  have hown : s.vm.findClass "java/util/Optional" = some m.cls := findClass_of_methodNamed Bd.named
  have hnm := (name_of_methodNamed Bd.named Bd.method).1
  have X0 : Stand p l e ({ frames := 1, cells := 0, slots := 0, locals := 12 } : Room) s m #[(.ref a), (.ref b)] below meth c s₁ [] 0 0 := Stand.of_body Bd
  have e0 : s₁.heap = h0 := by rw [← hh, Bd.state]; rfl
  have N0 := Fr.nil n0
  have K0 : Keep h0 h0 [a] := Keep.refl _ _
  have pre0 : Rch p.tables e below (s₁.setTop (entryFrame m #[(.ref a), (.ref b)] 2)) (s₁.setTop (mkF m 0 #[.val (.ref a), .val (.ref b)] [])) := fun tgt ktg => castTop (ef_9 m a b) ktg
  have pre_1 : Rch p.tables e below (s₁.setTop (entryFrame m #[(.ref a), (.ref b)] 2)) (s₁.setTop (mkF m 1 #[.val (.ref a), .val (.ref b)] [(.ref a)])) := fun tgt ktg => pre0 tgt (by
    show Steps p.tables e below (s₁.setTop (mkF m 0 #[.val (.ref a), .val (.ref b)] [])) _
    refine XS.aloadN X0.here hx rfl (hb hby d9_0) rfl rfl ?_
    exact ktg)
  obtain ⟨T_2, X_2, e_2, st_2⟩ := initO X0 hx hZ hown (hw _ (List.mem_of_getElem? (i := 49) rfl)) (hw _ (List.mem_of_getElem? (i := 30) rfl)) (hw _ (List.mem_of_getElem? (i := 31) rfl)) e0 (g := (mkF m 1 #[.val (.ref a), .val (.ref b)] [(.ref a)])) rfl (by rw [hml]; rfl) rfl (hb hby d9_1) (by decide) (W := 0) (by show 2 * 0 + _ ≤ _; exact Nat.le_of_eq rfl) (by decide)
  have pre_2 : Rch p.tables e below (s₁.setTop (entryFrame m #[(.ref a), (.ref b)] 2)) (T_2.setTop (mkF m 4 #[.val (.ref a), .val (.ref b)] [])) := fun tgt ktg => pre_1 tgt (st_2 tgt ktg)
  have pre_3 : Rch p.tables e below (s₁.setTop (entryFrame m #[(.ref a), (.ref b)] 2)) (T_2.setTop (mkF m 6 #[.val (.ref a), .val (.ref b)] [(.ref b), (.ref a)])) := fun tgt ktg => pre_2 tgt (by
    show Steps p.tables e below (T_2.setTop (mkF m 4 #[.val (.ref a), .val (.ref b)] [])) _
    refine XS.aloadN X_2.here hx rfl (hb hby d9_4) rfl rfl ?_
    show Steps p.tables e below (T_2.setTop (mkF m 5 #[.val (.ref a), .val (.ref b)] [(.ref a)])) _
    refine XS.aloadN X_2.here hx rfl (hb hby d9_5) rfl rfl ?_
    exact ktg)
  obtain ⟨T_4, h_4, X_4, e_4, W_4, st_4⟩ := putF X_2 hx hZ hown (host := "") (Or.inl (hw _ (List.mem_of_getElem? (i := 50) rfl))) Via.refl e_2 F1 E1 (Or.inr ⟨(hw _ (List.mem_of_getElem? (i := 51) rfl)), rfl, hnm⟩) (hw _ (List.mem_of_getElem? (i := 40) rfl)) (ty := (.object "java/lang/Object")) (by decide) rfl rfl (g := (mkF m 6 #[.val (.ref a), .val (.ref b)] [(.ref b), (.ref a)])) rfl rfl (hb hby d9_6)
  have pre_4 : Rch p.tables e below (s₁.setTop (entryFrame m #[(.ref a), (.ref b)] 2)) (T_4.setTop (mkF m 9 #[.val (.ref a), .val (.ref b)] [])) := fun tgt ktg => pre_3 tgt (st_4 tgt ktg)
  have f_5 : Exa Z h_4 a "java/util/Optional" := E1.wr W_4
  have z_6 : n0 ≤ h_4.size := Nat.le_trans Z0 (Keep.of_wr W_4).1
  have K_7 : Keep h0 h_4 [a] := K0.wr W_4 (Or.inl (List.mem_of_getElem? (i := 0) rfl))
  have f_8 : Fld Z h_4 a "java/util/Optional" "value" "Ljava/lang/Object;" (.ref b) := F1.same W_4
  have N_9 := Fr.snoc X_4 N0 ga
  obtain ⟨fs, hr, hrun, hended, hW, hsame⟩ := X_4.leave (v := none) (fun _ => rfl)
  refine ⟨_, _, pre_4 _ ?_, hrun, hended, _, _, rfl, ?_, ⟨_, rfl⟩, hW, hsame.mono (by decide) (by decide)⟩
  · show Steps p.tables e below (T_4.setTop (mkF m 9 #[.val (.ref a), .val (.ref b)] [])) _
    exact X_4.returnOut hx Bd.returns (hb hby d9_9) hr
  · show Q9 Z a b h0 n0 _ T_4.heap _
    rw [e_4]
    exact ⟨rfl, N_9, K_7, ⟨f_5, Or.inr ⟨rfl, b, f_8⟩⟩⟩
theorem d7_0 : decode jdk_32_method_3_code 0 = .ok (.new 2, 3) := by decide +kernel
theorem d7_3 : decode jdk_32_method_3_code 3 = .ok (.dup, 1) := by decide +kernel
theorem d7_4 : decode jdk_32_method_3_code 4 = .ok (.aload_n 0, 1) := by decide +kernel
theorem d7_5 : decode jdk_32_method_3_code 5 = .ok (.invokestatic 17, 3) := by decide +kernel
theorem pd_2 : parseMethodDescriptor "(Ljava/lang/Object;)Ljava/lang/Object;" = some ⟨[(.object "java/lang/Object")], some (.object "java/lang/Object")⟩ := by decide +kernel
theorem d7_8 : decode jdk_32_method_3_code 8 = .ok (.invokespecial 23, 3) := by decide +kernel
theorem pd_3 : parseMethodDescriptor "(Ljava/lang/Object;)V" = some ⟨[(.object "java/lang/Object")], none⟩ := by decide +kernel
theorem d7_11 : decode jdk_32_method_3_code 11 = .ok (.areturn, 1) := by decide +kernel
theorem ef_7 (m : MethodId) (x0 : Addr) : entryFrame m #[(.ref x0)] 1 = mkF m 0 #[.val (.ref x0)] [] := by first | (simp [entryFrame, mkF, argsToLocals, Value.category]; done) | rfl
def Q7 (Z : State) (b : Addr) (h0 : Heap) (n0 : Nat) (v : Option Value) (h : Heap) (L : List Loc) : Prop := ∃ o : Addr, v = some (.ref o) ∧ Fr n0 L ∧ Keep h0 h [] ∧ OptS Z h o 1
set_option maxRecDepth 65536 in
set_option maxHeartbeats 40000000 in
theorem rm7 (l : Launch) (Z : State) (a0 : Array Value) (hw : ∀ d ∈ tables_1, d.before a0 Z = true) (ws : List Jvm.Cond) (b : Addr) (h0 : Heap) (n0 : Nat) (Z0 : n0 ≤ h0.size)  :
    MetFree l (⟨"java/util/Optional", "of", "(Ljava/lang/Object;)Ljava/util/Optional;"⟩ : MethodName) (head1 (Jvm.Cond.code (⟨"java/util/Optional", "of", "(Ljava/lang/Object;)Ljava/util/Optional;"⟩ : MethodName) jdk_32_method_3_code 1 (some (.object "java/util/Optional")) :: ws) ({ frames := 2, cells := 1, slots := 1, locals := 26 } : Room)) (fun aA U => aA = #[(.ref b)] ∧ Z.Warmed39 U.vm ∧ U.heap = h0) (fun _ _ _ _ _ => True) (fun _ U oO U' => ∃ vV LL, oO = .returned vV ∧ Q7 Z b h0 n0 vV U'.heap LL ∧ FrameEnd U oO U' LL ({ frames := 2, cells := 1, slots := 1, locals := 26 } : Room).cells ({ frames := 2, cells := 1, slots := 1, locals := 26 } : Room).slots) := by
  refine MetFree.of_bodySF (plainFor_of_name pn_1) hisR ?_
  intro p e s m args below meth c s₁ Bd hml0 hP hK
  obtain ⟨rfl, hZ, hh⟩ := hP
  have hx := Bd.exec
  have hby := Bd.bytes
  have hml : c.maxLocals = 1 := hml0
  have hown : s.vm.findClass "java/util/Optional" = some m.cls := findClass_of_methodNamed Bd.named
  have hnm := (name_of_methodNamed Bd.named Bd.method).1
  have X0 : Stand p l e ({ frames := 2, cells := 1, slots := 1, locals := 26 } : Room) s m #[(.ref b)] below meth c s₁ [] 0 0 := Stand.of_body Bd
  have e0 : s₁.heap = h0 := by rw [← hh, Bd.state]; rfl
  have N0 := Fr.nil n0
  have K0 : Keep h0 h0 [] := Keep.refl _ _
  have pre0 : Rch p.tables e below (s₁.setTop (entryFrame m #[(.ref b)] 1)) (s₁.setTop (mkF m 0 #[.val (.ref b)] [])) := fun tgt ktg => castTop (ef_7 m b) ktg
  obtain ⟨T_1, h_1, X_1, e_1, E_1, A_1, D_1, U_1, st_1⟩ := newO X0 hx hZ hown (hw _ (List.mem_of_getElem? (i := 39) rfl)) (hw _ (List.mem_of_getElem? (i := 40) rfl)) (hw _ (List.mem_of_getElem? (i := 10) rfl)) e0 (g := (mkF m 0 #[.val (.ref b)] [])) rfl (hb hby d7_0) (by decide) (by decide)
  obtain ⟨o, g_1⟩ : ∃ nm_, nm_ = h0.size := ⟨_, rfl⟩
  rw [← g_1] at A_1 D_1 U_1 st_1
  have g_o : n0 ≤ o := Nat.le_trans Z0 (Nat.le_of_eq g_1.symm)
  have sz_o : h0.size ≤ o := Nat.le_trans K0.1 (Nat.le_of_eq g_1.symm)
  have pre_1 : Rch p.tables e below (s₁.setTop (entryFrame m #[(.ref b)] 1)) (T_1.setTop (mkF m 3 #[.val (.ref b)] [(.ref o)])) := fun tgt ktg => pre0 tgt (st_1 tgt ktg)
  have z_2 : n0 ≤ h_1.size := Nat.le_trans Z0 E_1.1
  have K_3 : Keep h0 h_1 [] := K0.ext E_1
  have f_4 : Exa Z h_1 o "java/util/Optional" := A_1
  have f_5 : Fld Z h_1 o "java/util/Optional" "value" "Ljava/lang/Object;" .null := D_1 (Or.inr (hw _ (List.mem_of_getElem? (i := 51) rfl))) (ty := (.object "java/lang/Object")) (by decide)
  have pre_6 : Rch p.tables e below (s₁.setTop (entryFrame m #[(.ref b)] 1)) (T_1.setTop (mkF m 5 #[.val (.ref b)] [(.ref b), (.ref o), (.ref o)])) := fun tgt ktg => pre_1 tgt (by
    show Steps p.tables e below (T_1.setTop (mkF m 3 #[.val (.ref b)] [(.ref o)])) _
    refine XS.dup X_1.here hx rfl (hb hby d7_3) rfl rfl ?_
    show Steps p.tables e below (T_1.setTop (mkF m 4 #[.val (.ref b)] [(.ref o), (.ref o)])) _
    refine XS.aloadN X_1.here hx rfl (hb hby d7_4) rfl rfl ?_
    exact ktg)
  obtain ⟨_, _, ⟨T_7, L_7, k_7, n_7⟩, -, X_7, ⟨Lc_7, hQ_7, l_7, y_7, z_7⟩, st_7⟩ := Jvm.LawKit.callS X_1 hx (y := (⟨"java/util/Objects", "requireNonNull", "(Ljava/lang/Object;)Ljava/lang/Object;"⟩ : MethodName)) hown (mvT hZ (hw _ (List.mem_of_getElem? (i := 41) rfl))) (mvT hZ (hw _ (List.mem_of_getElem? (i := 42) rfl))) (mvT hZ (hw _ (List.mem_of_getElem? (i := 43) rfl))) (mvT hZ (hw _ (List.mem_of_getElem? (i := 44) rfl))) (by decide) (backOf (W := 2) (rm8 l Z a0 hw [] b h_1 n0 z_2) hZ (hw _ (List.mem_of_getElem? (i := 44) rfl)) (hw _ (List.mem_of_getElem? (i := 43) rfl)) (by decide) (by decide)) (g := (mkF m 5 #[.val (.ref b)] [(.ref b), (.ref o), (.ref o)])) rfl (by rw [hml]; rfl) (argsL := [(.ref b)]) (rest := [(.ref o), (.ref o)]) (lenOf pd_2 rfl) rfl (by show 2 * 0 + _ ≤ _; exact Nat.le_of_eq rfl) (hb hby d7_5) (fun _ _ => ⟨rfl, e_1, (by decide : 1 + 0 ≤ _), (by decide : 1 + 0 ≤ _)⟩)
  dsimp only [Pt.U, Pt.locs, Pt.cells, Pt.slots] at X_7 l_7 y_7 z_7 st_7 hQ_7
  subst l_7 y_7 z_7
  obtain ⟨rfl, Nq_7, eh_7⟩ := hQ_7
  have N_8 := Fr.app N0 Nq_7
  have pre_7 : Rch p.tables e below (s₁.setTop (entryFrame m #[(.ref b)] 1)) (T_7.setTop (mkF m 8 #[.val (.ref b)] [(.ref b), (.ref o), (.ref o)])) := fun tgt ktg => pre_6 tgt (st_7 tgt ktg)
  obtain ⟨_, _, ⟨T_9, L_9, k_9, n_9⟩, -, X_9, ⟨Lc_9, hQ_9, l_9, y_9, z_9⟩, st_9⟩ := X_7.specialBack hx (y := (⟨"java/util/Optional", "<init>", "(Ljava/lang/Object;)V"⟩ : MethodName)) rfl hown (mvT hZ (hw _ (List.mem_of_getElem? (i := 45) rfl))) (mvT hZ (hw _ (List.mem_of_getElem? (i := 46) rfl))) (mvT hZ (hw _ (List.mem_of_getElem? (i := 48) rfl))) (by decide) (backOf (W := 1) (rm9 l Z a0 hw [] o b h_1 n0 z_2 f_4 f_5 g_o) hZ (hw _ (List.mem_of_getElem? (i := 48) rfl)) (hw _ (List.mem_of_getElem? (i := 10) rfl)) (by decide) (by decide)) (g := (mkF m 8 #[.val (.ref b)] [(.ref b), (.ref o), (.ref o)])) rfl (by rw [hml]; rfl) (Steps.refl _) (a := o) (argsL := [(.ref b)]) (rest := [(.ref o)]) (lenOf pd_3 rfl) rfl (by show 2 * 0 + _ ≤ _; exact Nat.le_of_eq rfl) (hb hby d7_8) (fun _ _ => ⟨rfl, eh_7, (by decide : 1 + 0 ≤ _), (by decide : 1 + 0 ≤ _)⟩)
  dsimp only [Pt.U, Pt.locs, Pt.cells, Pt.slots] at X_9 l_9 y_9 z_9 st_9 hQ_9
  subst l_9 y_9 z_9
  obtain ⟨rfl, Nq_9, Kq_9, b0⟩ := hQ_9
  have N_10 := Fr.app N_8 Nq_9
  have pre_9 : Rch p.tables e below (s₁.setTop (entryFrame m #[(.ref b)] 1)) (T_9.setTop (mkF m 11 #[.val (.ref b)] [(.ref o)])) := fun tgt ktg => pre_7 tgt (st_9.trans ktg)
  have z_11 : n0 ≤ T_9.heap.size := Nat.le_trans z_2 Kq_9.1
  have K_12 : Keep h0 T_9.heap [] := K_3.trans Kq_9 (allS (P := fun x => x ∈ ([] : List Addr) ∨ h0.size ≤ x) (Or.inr sz_o) (all0 (P := fun x => x ∈ ([] : List Addr) ∨ h0.size ≤ x)))
  obtain ⟨fs, hr, hrun, hended, hW, hsame⟩ := X_9.leave (v := some (.ref o)) (fun h => by rw [Bd.returns] at h; cases h)
  refine ⟨_, _, pre_9 _ ?_, hrun, hended, _, _, rfl, ?_, ⟨_, rfl⟩, hW, hsame.mono (by decide) (by decide)⟩
  · show Steps p.tables e below (T_9.setTop (mkF m 11 #[.val (.ref b)] [(.ref o)])) _
    jvm_step X_9.here [X_9.here.top, hx, (hb hby d7_11), X_9.method', Bd.returns, Value.isRef, FieldType.isReference]
    first | (intro acts; rw [hr _ acts rfl rfl rfl]) | rw [hr _ _ rfl rfl rfl]
    exact Steps.refl _
  · show Q7 Z b h0 n0 _ T_9.heap _
    exact ⟨o, rfl, N_10, K_12, b0⟩
theorem d11_0 : decode jdk_30_method_1_code 0 = .ok (.aload_n 0, 1) := by decide +kernel
theorem d11_1 : decode jdk_30_method_1_code 1 = .ok (.invokespecial 1, 3) := by decide +kernel
theorem d11_4 : decode jdk_30_method_1_code 4 = .ok (.return_, 1) := by decide +kernel
theorem pn_4 : plainName "java/lang/Record" = true := by first | (simp [plainName, overriddenIn]; done) | decide +kernel
theorem ef_11 (m : MethodId) (x0 : Addr) : entryFrame m #[(.ref x0)] 1 = mkF m 0 #[.val (.ref x0)] [] := by first | (simp [entryFrame, mkF, argsToLocals, Value.category]; done) | rfl
def Q11 (Z : State) (a : Addr) (h0 : Heap) (n0 : Nat) (v : Option Value) (h : Heap) (L : List Loc) : Prop := v = none ∧ Fr n0 L ∧ h = h0
set_option maxRecDepth 65536 in
set_option maxHeartbeats 40000000 in
theorem rm11 (l : Launch) (Z : State) (a0 : Array Value) (hw : ∀ d ∈ tables_1, d.before a0 Z = true) (ws : List Jvm.Cond) (a : Addr) (h0 : Heap) (n0 : Nat) (Z0 : n0 ≤ h0.size)  :
    MetFree l (⟨"java/lang/Record", "<init>", "()V"⟩ : MethodName) (head1 (Jvm.Cond.code (⟨"java/lang/Record", "<init>", "()V"⟩ : MethodName) jdk_30_method_1_code 1 none :: ws) ({ frames := 1, cells := 0, slots := 0, locals := 12 } : Room)) (fun aA U => aA = #[(.ref a)] ∧ Z.Warmed39 U.vm ∧ U.heap = h0) (fun _ _ _ _ _ => True) (fun _ U oO U' => ∃ vV LL, oO = .returned vV ∧ Q11 Z a h0 n0 vV U'.heap LL ∧ FrameEnd U oO U' LL ({ frames := 1, cells := 0, slots := 0, locals := 12 } : Room).cells ({ frames := 1, cells := 0, slots := 0, locals := 12 } : Room).slots) := by
  refine MetFree.of_bodySF (plainFor_of_name pn_4) hisR ?_
  intro p e s m args below meth c s₁ Bd hml0 hP hK
  obtain ⟨rfl, hZ, hh⟩ := hP
  have hx := Bd.exec
  have hby := Bd.bytes
  have hml : c.maxLocals = 1 := hml0
  have hown : s.vm.findClass "java/lang/Record" = some m.cls := findClass_of_methodNamed Bd.named
  have hnm := (name_of_methodNamed Bd.named Bd.method).1
  have X0 : Stand p l e ({ frames := 1, cells := 0, slots := 0, locals := 12 } : Room) s m #[(.ref a)] below meth c s₁ [] 0 0 := Stand.of_body Bd
  have e0 : s₁.heap = h0 := by rw [← hh, Bd.state]; rfl
  have N0 := Fr.nil n0
  have K0 : Keep h0 h0 [] := Keep.refl _ _
  have pre0 : Rch p.tables e below (s₁.setTop (entryFrame m #[(.ref a)] 1)) (s₁.setTop (mkF m 0 #[.val (.ref a)] [])) := fun tgt ktg => castTop (ef_11 m a) ktg
  have pre_1 : Rch p.tables e below (s₁.setTop (entryFrame m #[(.ref a)] 1)) (s₁.setTop (mkF m 1 #[.val (.ref a)] [(.ref a)])) := fun tgt ktg => pre0 tgt (by
    show Steps p.tables e below (s₁.setTop (mkF m 0 #[.val (.ref a)] [])) _
    refine XS.aloadN X0.here hx rfl (hb hby d11_0) rfl rfl ?_
    exact ktg)
  obtain ⟨T_2, X_2, e_2, st_2⟩ := initO X0 hx hZ hown (hw _ (List.mem_of_getElem? (i := 63) rfl)) (hw _ (List.mem_of_getElem? (i := 30) rfl)) (hw _ (List.mem_of_getElem? (i := 31) rfl)) e0 (g := (mkF m 1 #[.val (.ref a)] [(.ref a)])) rfl (by rw [hml]; rfl) rfl (hb hby d11_1) (by decide) (W := 0) (by show 2 * 0 + _ ≤ _; exact Nat.le_of_eq rfl) (by decide)
  have pre_2 : Rch p.tables e below (s₁.setTop (entryFrame m #[(.ref a)] 1)) (T_2.setTop (mkF m 4 #[.val (.ref a)] [])) := fun tgt ktg => pre_1 tgt (st_2 tgt ktg)
  obtain ⟨fs, hr, hrun, hended, hW, hsame⟩ := X_2.leave (v := none) (fun _ => rfl)
  refine ⟨_, _, pre_2 _ ?_, hrun, hended, _, _, rfl, ?_, ⟨_, rfl⟩, hW, hsame.mono (by decide) (by decide)⟩
  · show Steps p.tables e below (T_2.setTop (mkF m 4 #[.val (.ref a)] [])) _
    exact X_2.returnOut hx Bd.returns (hb hby d11_4) hr
  · show Q11 Z a h0 n0 _ T_2.heap _
    rw [e_2]
    exact ⟨rfl, N0, rfl⟩
theorem d10_0 : decode prog_50_method_1_code 0 = .ok (.aload_n 0, 1) := by decide +kernel
theorem d10_1 : decode prog_50_method_1_code 1 = .ok (.invokespecial 1, 3) := by decide +kernel
theorem pd_4 : parseMethodDescriptor "()V" = some ⟨[], none⟩ := by decide +kernel
theorem d10_4 : decode prog_50_method_1_code 4 = .ok (.aload_n 0, 1) := by decide +kernel
theorem d10_5 : decode prog_50_method_1_code 5 = .ok (.aload_n 1, 1) := by decide +kernel
theorem d10_6 : decode prog_50_method_1_code 6 = .ok (.putfield 7, 3) := by decide +kernel
theorem d10_9 : decode prog_50_method_1_code 9 = .ok (.aload_n 0, 1) := by decide +kernel
theorem d10_10 : decode prog_50_method_1_code 10 = .ok (.aload_n 2, 1) := by decide +kernel
theorem d10_11 : decode prog_50_method_1_code 11 = .ok (.putfield 13, 3) := by decide +kernel
theorem d10_14 : decode prog_50_method_1_code 14 = .ok (.aload_n 0, 1) := by decide +kernel
theorem d10_15 : decode prog_50_method_1_code 15 = .ok (.iload_n 3, 1) := by decide +kernel
theorem d10_16 : decode prog_50_method_1_code 16 = .ok (.putfield 17, 3) := by decide +kernel
theorem d10_19 : decode prog_50_method_1_code 19 = .ok (.aload_n 0, 1) := by decide +kernel
theorem d10_20 : decode prog_50_method_1_code 20 = .ok (.aload 4, 2) := by decide +kernel
theorem d10_22 : decode prog_50_method_1_code 22 = .ok (.putfield 21, 3) := by decide +kernel
theorem d10_25 : decode prog_50_method_1_code 25 = .ok (.aload_n 0, 1) := by decide +kernel
theorem d10_26 : decode prog_50_method_1_code 26 = .ok (.aload 5, 2) := by decide +kernel
theorem d10_28 : decode prog_50_method_1_code 28 = .ok (.putfield 24, 3) := by decide +kernel
theorem d10_31 : decode prog_50_method_1_code 31 = .ok (.return_, 1) := by decide +kernel
theorem pn_5 : plainName "com/example/subjectline/subjectline/server/Progress" = true := by first | (simp [plainName, overriddenIn]; done) | decide +kernel
theorem ef_10 (m : MethodId) (x0 : Addr) (x1 : Addr) (x2 : Addr) (x3 : Int32) (x4 : Addr) (x5 : Addr) : entryFrame m #[(.ref x0), (.ref x1), (.ref x2), (.int x3), (.ref x4), (.ref x5)] 6 = mkF m 0 #[.val (.ref x0), .val (.ref x1), .val (.ref x2), .val (.int x3), .val (.ref x4), .val (.ref x5)] [] := by first | (simp [entryFrame, mkF, argsToLocals, Value.category]; done) | rfl
def Q10 (Z : State) (g : Addr) (st : Addr) (da : Addr) (n : Int32) (la : Addr) (cs : Addr) (h0 : Heap) (n0 : Nat) (v : Option Value) (h : Heap) (L : List Loc) : Prop := v = none ∧ Fr n0 L ∧ Keep h0 h [g] ∧ PrS Z h g st da n la cs
set_option maxRecDepth 65536 in
set_option maxHeartbeats 40000000 in
theorem rm10 (l : Launch) (Z : State) (a0 : Array Value) (hw : ∀ d ∈ tables_1, d.before a0 Z = true) (ws : List Jvm.Cond) (g : Addr) (st : Addr) (da : Addr) (n : Int32) (la : Addr) (cs : Addr) (h0 : Heap) (n0 : Nat) (Z0 : n0 ≤ h0.size) (E1 : Exa Z h0 g "com/example/subjectline/subjectline/server/Progress") (F0 : Fld Z h0 g "com/example/subjectline/subjectline/server/Progress" "status" "Lcom/example/subjectline/subjectline/server/Status;" .null) (F1 : Fld Z h0 g "com/example/subjectline/subjectline/server/Progress" "data" "Ljava/util/Optional;" .null) (F2 : Fld Z h0 g "com/example/subjectline/subjectline/server/Progress" "undeliveredCallbacks" "I" (.int (0 : Int32))) (F3 : Fld Z h0 g "com/example/subjectline/subjectline/server/Progress" "lastUndeliveredAt" "Ljava/util/Optional;" .null) (F4 : Fld Z h0 g "com/example/subjectline/subjectline/server/Progress" "callingSince" "Ljava/util/Optional;" .null) (gg : n0 ≤ g) :
    MetFree l (⟨"com/example/subjectline/subjectline/server/Progress", "<init>", "(Lcom/example/subjectline/subjectline/server/Status;Ljava/util/Optional;ILjava/util/Optional;Ljava/util/Optional;)V"⟩ : MethodName) (head1 (Jvm.Cond.code (⟨"com/example/subjectline/subjectline/server/Progress", "<init>", "(Lcom/example/subjectline/subjectline/server/Status;Ljava/util/Optional;ILjava/util/Optional;Ljava/util/Optional;)V"⟩ : MethodName) prog_50_method_1_code 6 none :: ws) ({ frames := 2, cells := 0, slots := 0, locals := 26 } : Room)) (fun aA U => aA = #[(.ref g), (.ref st), (.ref da), (.int n), (.ref la), (.ref cs)] ∧ Z.Warmed39 U.vm ∧ U.heap = h0) (fun _ _ _ _ _ => True) (fun _ U oO U' => ∃ vV LL, oO = .returned vV ∧ Q10 Z g st da n la cs h0 n0 vV U'.heap LL ∧ FrameEnd U oO U' LL ({ frames := 2, cells := 0, slots := 0, locals := 26 } : Room).cells ({ frames := 2, cells := 0, slots := 0, locals := 26 } : Room).slots) := by
  refine MetFree.of_bodySF (plainFor_of_name pn_5) hisR ?_
  intro p e s m args below meth c s₁ Bd hml0 hP hK
  obtain ⟨rfl, hZ, hh⟩ := hP
  have hx := Bd.exec
  have hby := Bd.bytes
  have hml : c.maxLocals = 6 := hml0
  have hown : s.vm.findClass "com/example/subjectline/subjectline/server/Progress" = some m.cls := findClass_of_methodNamed Bd.named
  have hnm := (name_of_methodNamed Bd.named Bd.method).1
  have X0 : Stand p l e ({ frames := 2, cells := 0, slots := 0, locals := 26 } : Room) s m #[(.ref g), (.ref st), (.ref da), (.int n), (.ref la), (.ref cs)] below meth c s₁ [] 0 0 := Stand.of_body Bd
  have e0 : s₁.heap = h0 := by rw [← hh, Bd.state]; rfl
  have N0 := Fr.nil n0
  have K0 : Keep h0 h0 [g] := Keep.refl _ _
  have pre0 : Rch p.tables e below (s₁.setTop (entryFrame m #[(.ref g), (.ref st), (.ref da), (.int n), (.ref la), (.ref cs)] 6)) (s₁.setTop (mkF m 0 #[.val (.ref g), .val (.ref st), .val (.ref da), .val (.int n), .val (.ref la), .val (.ref cs)] [])) := fun tgt ktg => castTop (ef_10 m g st da n la cs) ktg
  have pre_1 : Rch p.tables e below (s₁.setTop (entryFrame m #[(.ref g), (.ref st), (.ref da), (.int n), (.ref la), (.ref cs)] 6)) (s₁.setTop (mkF m 1 #[.val (.ref g), .val (.ref st), .val (.ref da), .val (.int n), .val (.ref la), .val (.ref cs)] [(.ref g)])) := fun tgt ktg => pre0 tgt (by
    show Steps p.tables e below (s₁.setTop (mkF m 0 #[.val (.ref g), .val (.ref st), .val (.ref da), .val (.int n), .val (.ref la), .val (.ref cs)] [])) _
    refine XS.aloadN X0.here hx rfl (hb hby d10_0) rfl rfl ?_
    exact ktg)
  obtain ⟨_, _, ⟨T_2, L_2, k_2, n_2⟩, -, X_2, ⟨Lc_2, hQ_2, l_2, y_2, z_2⟩, st_2⟩ := X0.specialBack hx (y := (⟨"java/lang/Record", "<init>", "()V"⟩ : MethodName)) rfl hown (mvT hZ (hw _ (List.mem_of_getElem? (i := 58) rfl))) (mvT hZ (hw _ (List.mem_of_getElem? (i := 59) rfl))) (mvT hZ (hw _ (List.mem_of_getElem? (i := 62) rfl))) (by decide) (backOf (W := 0) (rm11 l Z a0 hw [] g h0 n0 Z0) hZ (hw _ (List.mem_of_getElem? (i := 62) rfl)) (hw _ (List.mem_of_getElem? (i := 61) rfl)) (by decide) (by decide)) (g := (mkF m 1 #[.val (.ref g), .val (.ref st), .val (.ref da), .val (.int n), .val (.ref la), .val (.ref cs)] [(.ref g)])) rfl (by rw [hml]; rfl) (Steps.refl _) (a := g) (argsL := []) (rest := []) (lenOf pd_4 rfl) rfl (by show 2 * 0 + _ ≤ _; exact Nat.le_of_eq rfl) (hb hby d10_1) (fun _ _ => ⟨rfl, e0, (by decide : 0 + 0 ≤ _), (by decide : 0 + 0 ≤ _)⟩)
  dsimp only [Pt.U, Pt.locs, Pt.cells, Pt.slots] at X_2 l_2 y_2 z_2 st_2 hQ_2
  subst l_2 y_2 z_2
  obtain ⟨rfl, Nq_2, eh_2⟩ := hQ_2
  have N_3 := Fr.app N0 Nq_2
  have pre_2 : Rch p.tables e below (s₁.setTop (entryFrame m #[(.ref g), (.ref st), (.ref da), (.int n), (.ref la), (.ref cs)] 6)) (T_2.setTop (mkF m 4 #[.val (.ref g), .val (.ref st), .val (.ref da), .val (.int n), .val (.ref la), .val (.ref cs)] [])) := fun tgt ktg => pre_1 tgt (st_2.trans ktg)
  have pre_4 : Rch p.tables e below (s₁.setTop (entryFrame m #[(.ref g), (.ref st), (.ref da), (.int n), (.ref la), (.ref cs)] 6)) (T_2.setTop (mkF m 6 #[.val (.ref g), .val (.ref st), .val (.ref da), .val (.int n), .val (.ref la), .val (.ref cs)] [(.ref st), (.ref g)])) := fun tgt ktg => pre_2 tgt (by
    show Steps p.tables e below (T_2.setTop (mkF m 4 #[.val (.ref g), .val (.ref st), .val (.ref da), .val (.int n), .val (.ref la), .val (.ref cs)] [])) _
    refine XS.aloadN X_2.here hx rfl (hb hby d10_4) rfl rfl ?_
    show Steps p.tables e below (T_2.setTop (mkF m 5 #[.val (.ref g), .val (.ref st), .val (.ref da), .val (.int n), .val (.ref la), .val (.ref cs)] [(.ref g)])) _
    refine XS.aloadN X_2.here hx rfl (hb hby d10_5) rfl rfl ?_
    exact ktg)
  obtain ⟨T_5, h_5, X_5, e_5, W_5, st_5⟩ := putF X_2 hx hZ hown (host := "") (Or.inl (hw _ (List.mem_of_getElem? (i := 64) rfl))) Via.refl eh_2 F0 E1 (Or.inr ⟨(hw _ (List.mem_of_getElem? (i := 65) rfl)), rfl, hnm⟩) (hw _ (List.mem_of_getElem? (i := 53) rfl)) (ty := (.object "com/example/subjectline/subjectline/server/Status")) (by decide) rfl rfl (g := (mkF m 6 #[.val (.ref g), .val (.ref st), .val (.ref da), .val (.int n), .val (.ref la), .val (.ref cs)] [(.ref st), (.ref g)])) rfl rfl (hb hby d10_6)
  have pre_5 : Rch p.tables e below (s₁.setTop (entryFrame m #[(.ref g), (.ref st), (.ref da), (.int n), (.ref la), (.ref cs)] 6)) (T_5.setTop (mkF m 9 #[.val (.ref g), .val (.ref st), .val (.ref da), .val (.int n), .val (.ref la), .val (.ref cs)] [])) := fun tgt ktg => pre_4 tgt (st_5 tgt ktg)
  have f_6 : Exa Z h_5 g "com/example/subjectline/subjectline/server/Progress" := E1.wr W_5
  have f_7 : Fld Z h_5 g "com/example/subjectline/subjectline/server/Progress" "data" "Ljava/util/Optional;" .null := F1.other W_5 (Or.inr (slot_ne (Or.inr (hw _ (List.mem_of_getElem? (i := 67) rfl))) (Or.inr (hw _ (List.mem_of_getElem? (i := 65) rfl))) (by decide) (t := (.object "java/util/Optional")) (t' := (.object "com/example/subjectline/subjectline/server/Status")) (by decide) (by decide)))
  have f_8 : Fld Z h_5 g "com/example/subjectline/subjectline/server/Progress" "undeliveredCallbacks" "I" (.int (0 : Int32)) := F2.other W_5 (Or.inr (slot_ne (Or.inr (hw _ (List.mem_of_getElem? (i := 69) rfl))) (Or.inr (hw _ (List.mem_of_getElem? (i := 65) rfl))) (by decide) (t := .int) (t' := (.object "com/example/subjectline/subjectline/server/Status")) (by decide) (by decide)))
  have f_9 : Fld Z h_5 g "com/example/subjectline/subjectline/server/Progress" "lastUndeliveredAt" "Ljava/util/Optional;" .null := F3.other W_5 (Or.inr (slot_ne (Or.inr (hw _ (List.mem_of_getElem? (i := 71) rfl))) (Or.inr (hw _ (List.mem_of_getElem? (i := 65) rfl))) (by decide) (t := (.object "java/util/Optional")) (t' := (.object "com/example/subjectline/subjectline/server/Status")) (by decide) (by decide)))
  have f_10 : Fld Z h_5 g "com/example/subjectline/subjectline/server/Progress" "callingSince" "Ljava/util/Optional;" .null := F4.other W_5 (Or.inr (slot_ne (Or.inr (hw _ (List.mem_of_getElem? (i := 73) rfl))) (Or.inr (hw _ (List.mem_of_getElem? (i := 65) rfl))) (by decide) (t := (.object "java/util/Optional")) (t' := (.object "com/example/subjectline/subjectline/server/Status")) (by decide) (by decide)))
  have z_11 : n0 ≤ h_5.size := Nat.le_trans Z0 (Keep.of_wr W_5).1
  have K_12 : Keep h0 h_5 [g] := K0.wr W_5 (Or.inl (List.mem_of_getElem? (i := 0) rfl))
  have f_13 : Fld Z h_5 g "com/example/subjectline/subjectline/server/Progress" "status" "Lcom/example/subjectline/subjectline/server/Status;" (.ref st) := F0.same W_5
  have N_14 := Fr.snoc X_5 N_3 gg
  have pre_15 : Rch p.tables e below (s₁.setTop (entryFrame m #[(.ref g), (.ref st), (.ref da), (.int n), (.ref la), (.ref cs)] 6)) (T_5.setTop (mkF m 11 #[.val (.ref g), .val (.ref st), .val (.ref da), .val (.int n), .val (.ref la), .val (.ref cs)] [(.ref da), (.ref g)])) := fun tgt ktg => pre_5 tgt (by
    show Steps p.tables e below (T_5.setTop (mkF m 9 #[.val (.ref g), .val (.ref st), .val (.ref da), .val (.int n), .val (.ref la), .val (.ref cs)] [])) _
    refine XS.aloadN X_5.here hx rfl (hb hby d10_9) rfl rfl ?_
    show Steps p.tables e below (T_5.setTop (mkF m 10 #[.val (.ref g), .val (.ref st), .val (.ref da), .val (.int n), .val (.ref la), .val (.ref cs)] [(.ref g)])) _
    refine XS.aloadN X_5.here hx rfl (hb hby d10_10) rfl rfl ?_
    exact ktg)
  obtain ⟨T_16, h_16, X_16, e_16, W_16, st_16⟩ := putF X_5 hx hZ hown (host := "") (Or.inl (hw _ (List.mem_of_getElem? (i := 66) rfl))) Via.refl e_5 f_7 f_6 (Or.inr ⟨(hw _ (List.mem_of_getElem? (i := 67) rfl)), rfl, hnm⟩) (hw _ (List.mem_of_getElem? (i := 53) rfl)) (ty := (.object "java/util/Optional")) (by decide) rfl rfl (g := (mkF m 11 #[.val (.ref g), .val (.ref st), .val (.ref da), .val (.int n), .val (.ref la), .val (.ref cs)] [(.ref da), (.ref g)])) rfl rfl (hb hby d10_11)
  have pre_16 : Rch p.tables e below (s₁.setTop (entryFrame m #[(.ref g), (.ref st), (.ref da), (.int n), (.ref la), (.ref cs)] 6)) (T_16.setTop (mkF m 14 #[.val (.ref g), .val (.ref st), .val (.ref da), .val (.int n), .val (.ref la), .val (.ref cs)] [])) := fun tgt ktg => pre_15 tgt (st_16 tgt ktg)
  have f_17 : Exa Z h_16 g "com/example/subjectline/subjectline/server/Progress" := f_6.wr W_16
  have f_18 : Fld Z h_16 g "com/example/subjectline/subjectline/server/Progress" "undeliveredCallbacks" "I" (.int (0 : Int32)) := f_8.other W_16 (Or.inr (slot_ne (Or.inr (hw _ (List.mem_of_getElem? (i := 69) rfl))) (Or.inr (hw _ (List.mem_of_getElem? (i := 67) rfl))) (by decide) (t := .int) (t' := (.object "java/util/Optional")) (by decide) (by decide)))
  have f_19 : Fld Z h_16 g "com/example/subjectline/subjectline/server/Progress" "lastUndeliveredAt" "Ljava/util/Optional;" .null := f_9.other W_16 (Or.inr (slot_ne (Or.inr (hw _ (List.mem_of_getElem? (i := 71) rfl))) (Or.inr (hw _ (List.mem_of_getElem? (i := 67) rfl))) (by decide) (t := (.object "java/util/Optional")) (t' := (.object "java/util/Optional")) (by decide) (by decide)))
  have f_20 : Fld Z h_16 g "com/example/subjectline/subjectline/server/Progress" "callingSince" "Ljava/util/Optional;" .null := f_10.other W_16 (Or.inr (slot_ne (Or.inr (hw _ (List.mem_of_getElem? (i := 73) rfl))) (Or.inr (hw _ (List.mem_of_getElem? (i := 67) rfl))) (by decide) (t := (.object "java/util/Optional")) (t' := (.object "java/util/Optional")) (by decide) (by decide)))
  have f_21 : Fld Z h_16 g "com/example/subjectline/subjectline/server/Progress" "status" "Lcom/example/subjectline/subjectline/server/Status;" (.ref st) := f_13.other W_16 (Or.inr (slot_ne (Or.inr (hw _ (List.mem_of_getElem? (i := 65) rfl))) (Or.inr (hw _ (List.mem_of_getElem? (i := 67) rfl))) (by decide) (t := (.object "com/example/subjectline/subjectline/server/Status")) (t' := (.object "java/util/Optional")) (by decide) (by decide)))
  have z_22 : n0 ≤ h_16.size := Nat.le_trans z_11 (Keep.of_wr W_16).1
  have K_23 : Keep h0 h_16 [g] := K_12.wr W_16 (Or.inl (List.mem_of_getElem? (i := 0) rfl))
  have f_24 : Fld Z h_16 g "com/example/subjectline/subjectline/server/Progress" "data" "Ljava/util/Optional;" (.ref da) := f_7.same W_16
  have N_25 := Fr.snoc X_16 N_14 gg
  have pre_26 : Rch p.tables e below (s₁.setTop (entryFrame m #[(.ref g), (.ref st), (.ref da), (.int n), (.ref la), (.ref cs)] 6)) (T_16.setTop (mkF m 16 #[.val (.ref g), .val (.ref st), .val (.ref da), .val (.int n), .val (.ref la), .val (.ref cs)] [(.int n), (.ref g)])) := fun tgt ktg => pre_16 tgt (by
    show Steps p.tables e below (T_16.setTop (mkF m 14 #[.val (.ref g), .val (.ref st), .val (.ref da), .val (.int n), .val (.ref la), .val (.ref cs)] [])) _
    refine XS.aloadN X_16.here hx rfl (hb hby d10_14) rfl rfl ?_
    show Steps p.tables e below (T_16.setTop (mkF m 15 #[.val (.ref g), .val (.ref st), .val (.ref da), .val (.int n), .val (.ref la), .val (.ref cs)] [(.ref g)])) _
    refine XS.iloadN X_16.here hx rfl (hb hby d10_15) rfl ?_
    exact ktg)
  obtain ⟨T_27, h_27, X_27, e_27, W_27, st_27⟩ := putF X_16 hx hZ hown (host := "") (Or.inl (hw _ (List.mem_of_getElem? (i := 68) rfl))) Via.refl e_16 f_18 f_17 (Or.inr ⟨(hw _ (List.mem_of_getElem? (i := 69) rfl)), rfl, hnm⟩) (hw _ (List.mem_of_getElem? (i := 53) rfl)) (ty := .int) (by decide) rfl rfl (g := (mkF m 16 #[.val (.ref g), .val (.ref st), .val (.ref da), .val (.int n), .val (.ref la), .val (.ref cs)] [(.int n), (.ref g)])) rfl rfl (hb hby d10_16)
  have pre_27 : Rch p.tables e below (s₁.setTop (entryFrame m #[(.ref g), (.ref st), (.ref da), (.int n), (.ref la), (.ref cs)] 6)) (T_27.setTop (mkF m 19 #[.val (.ref g), .val (.ref st), .val (.ref da), .val (.int n), .val (.ref la), .val (.ref cs)] [])) := fun tgt ktg => pre_26 tgt (st_27 tgt ktg)
  have f_28 : Exa Z h_27 g "com/example/subjectline/subjectline/server/Progress" := f_17.wr W_27
  have f_29 : Fld Z h_27 g "com/example/subjectline/subjectline/server/Progress" "lastUndeliveredAt" "Ljava/util/Optional;" .null := f_19.other W_27 (Or.inr (slot_ne (Or.inr (hw _ (List.mem_of_getElem? (i := 71) rfl))) (Or.inr (hw _ (List.mem_of_getElem? (i := 69) rfl))) (by decide) (t := (.object "java/util/Optional")) (t' := .int) (by decide) (by decide)))
  have f_30 : Fld Z h_27 g "com/example/subjectline/subjectline/server/Progress" "callingSince" "Ljava/util/Optional;" .null := f_20.other W_27 (Or.inr (slot_ne (Or.inr (hw _ (List.mem_of_getElem? (i := 73) rfl))) (Or.inr (hw _ (List.mem_of_getElem? (i := 69) rfl))) (by decide) (t := (.object "java/util/Optional")) (t' := .int) (by decide) (by decide)))
  have f_31 : Fld Z h_27 g "com/example/subjectline/subjectline/server/Progress" "status" "Lcom/example/subjectline/subjectline/server/Status;" (.ref st) := f_21.other W_27 (Or.inr (slot_ne (Or.inr (hw _ (List.mem_of_getElem? (i := 65) rfl))) (Or.inr (hw _ (List.mem_of_getElem? (i := 69) rfl))) (by decide) (t := (.object "com/example/subjectline/subjectline/server/Status")) (t' := .int) (by decide) (by decide)))
  have f_32 : Fld Z h_27 g "com/example/subjectline/subjectline/server/Progress" "data" "Ljava/util/Optional;" (.ref da) := f_24.other W_27 (Or.inr (slot_ne (Or.inr (hw _ (List.mem_of_getElem? (i := 67) rfl))) (Or.inr (hw _ (List.mem_of_getElem? (i := 69) rfl))) (by decide) (t := (.object "java/util/Optional")) (t' := .int) (by decide) (by decide)))
  have z_33 : n0 ≤ h_27.size := Nat.le_trans z_22 (Keep.of_wr W_27).1
  have K_34 : Keep h0 h_27 [g] := K_23.wr W_27 (Or.inl (List.mem_of_getElem? (i := 0) rfl))
  have f_35 : Fld Z h_27 g "com/example/subjectline/subjectline/server/Progress" "undeliveredCallbacks" "I" (.int n) := f_18.same W_27
  have N_36 := Fr.snoc X_27 N_25 gg
  have pre_37 : Rch p.tables e below (s₁.setTop (entryFrame m #[(.ref g), (.ref st), (.ref da), (.int n), (.ref la), (.ref cs)] 6)) (T_27.setTop (mkF m 22 #[.val (.ref g), .val (.ref st), .val (.ref da), .val (.int n), .val (.ref la), .val (.ref cs)] [(.ref la), (.ref g)])) := fun tgt ktg => pre_27 tgt (by
    show Steps p.tables e below (T_27.setTop (mkF m 19 #[.val (.ref g), .val (.ref st), .val (.ref da), .val (.int n), .val (.ref la), .val (.ref cs)] [])) _
    refine XS.aloadN X_27.here hx rfl (hb hby d10_19) rfl rfl ?_
    show Steps p.tables e below (T_27.setTop (mkF m 20 #[.val (.ref g), .val (.ref st), .val (.ref da), .val (.int n), .val (.ref la), .val (.ref cs)] [(.ref g)])) _
    refine XS.aload X_27.here hx rfl (hb hby d10_20) rfl rfl ?_
    exact ktg)
  obtain ⟨T_38, h_38, X_38, e_38, W_38, st_38⟩ := putF X_27 hx hZ hown (host := "") (Or.inl (hw _ (List.mem_of_getElem? (i := 70) rfl))) Via.refl e_27 f_29 f_28 (Or.inr ⟨(hw _ (List.mem_of_getElem? (i := 71) rfl)), rfl, hnm⟩) (hw _ (List.mem_of_getElem? (i := 53) rfl)) (ty := (.object "java/util/Optional")) (by decide) rfl rfl (g := (mkF m 22 #[.val (.ref g), .val (.ref st), .val (.ref da), .val (.int n), .val (.ref la), .val (.ref cs)] [(.ref la), (.ref g)])) rfl rfl (hb hby d10_22)
  have pre_38 : Rch p.tables e below (s₁.setTop (entryFrame m #[(.ref g), (.ref st), (.ref da), (.int n), (.ref la), (.ref cs)] 6)) (T_38.setTop (mkF m 25 #[.val (.ref g), .val (.ref st), .val (.ref da), .val (.int n), .val (.ref la), .val (.ref cs)] [])) := fun tgt ktg => pre_37 tgt (st_38 tgt ktg)
  have f_39 : Exa Z h_38 g "com/example/subjectline/subjectline/server/Progress" := f_28.wr W_38
  have f_40 : Fld Z h_38 g "com/example/subjectline/subjectline/server/Progress" "callingSince" "Ljava/util/Optional;" .null := f_30.other W_38 (Or.inr (slot_ne (Or.inr (hw _ (List.mem_of_getElem? (i := 73) rfl))) (Or.inr (hw _ (List.mem_of_getElem? (i := 71) rfl))) (by decide) (t := (.object "java/util/Optional")) (t' := (.object "java/util/Optional")) (by decide) (by decide)))
  have f_41 : Fld Z h_38 g "com/example/subjectline/subjectline/server/Progress" "status" "Lcom/example/subjectline/subjectline/server/Status;" (.ref st) := f_31.other W_38 (Or.inr (slot_ne (Or.inr (hw _ (List.mem_of_getElem? (i := 65) rfl))) (Or.inr (hw _ (List.mem_of_getElem? (i := 71) rfl))) (by decide) (t := (.object "com/example/subjectline/subjectline/server/Status")) (t' := (.object "java/util/Optional")) (by decide) (by decide)))
  have f_42 : Fld Z h_38 g "com/example/subjectline/subjectline/server/Progress" "data" "Ljava/util/Optional;" (.ref da) := f_32.other W_38 (Or.inr (slot_ne (Or.inr (hw _ (List.mem_of_getElem? (i := 67) rfl))) (Or.inr (hw _ (List.mem_of_getElem? (i := 71) rfl))) (by decide) (t := (.object "java/util/Optional")) (t' := (.object "java/util/Optional")) (by decide) (by decide)))
  have f_43 : Fld Z h_38 g "com/example/subjectline/subjectline/server/Progress" "undeliveredCallbacks" "I" (.int n) := f_35.other W_38 (Or.inr (slot_ne (Or.inr (hw _ (List.mem_of_getElem? (i := 69) rfl))) (Or.inr (hw _ (List.mem_of_getElem? (i := 71) rfl))) (by decide) (t := .int) (t' := (.object "java/util/Optional")) (by decide) (by decide)))
  have z_44 : n0 ≤ h_38.size := Nat.le_trans z_33 (Keep.of_wr W_38).1
  have K_45 : Keep h0 h_38 [g] := K_34.wr W_38 (Or.inl (List.mem_of_getElem? (i := 0) rfl))
  have f_46 : Fld Z h_38 g "com/example/subjectline/subjectline/server/Progress" "lastUndeliveredAt" "Ljava/util/Optional;" (.ref la) := f_29.same W_38
  have N_47 := Fr.snoc X_38 N_36 gg
  have pre_48 : Rch p.tables e below (s₁.setTop (entryFrame m #[(.ref g), (.ref st), (.ref da), (.int n), (.ref la), (.ref cs)] 6)) (T_38.setTop (mkF m 28 #[.val (.ref g), .val (.ref st), .val (.ref da), .val (.int n), .val (.ref la), .val (.ref cs)] [(.ref cs), (.ref g)])) := fun tgt ktg => pre_38 tgt (by
    show Steps p.tables e below (T_38.setTop (mkF m 25 #[.val (.ref g), .val (.ref st), .val (.ref da), .val (.int n), .val (.ref la), .val (.ref cs)] [])) _
    refine XS.aloadN X_38.here hx rfl (hb hby d10_25) rfl rfl ?_
    show Steps p.tables e below (T_38.setTop (mkF m 26 #[.val (.ref g), .val (.ref st), .val (.ref da), .val (.int n), .val (.ref la), .val (.ref cs)] [(.ref g)])) _
    refine XS.aload X_38.here hx rfl (hb hby d10_26) rfl rfl ?_
    exact ktg)
  obtain ⟨T_49, h_49, X_49, e_49, W_49, st_49⟩ := putF X_38 hx hZ hown (host := "") (Or.inl (hw _ (List.mem_of_getElem? (i := 72) rfl))) Via.refl e_38 f_40 f_39 (Or.inr ⟨(hw _ (List.mem_of_getElem? (i := 73) rfl)), rfl, hnm⟩) (hw _ (List.mem_of_getElem? (i := 53) rfl)) (ty := (.object "java/util/Optional")) (by decide) rfl rfl (g := (mkF m 28 #[.val (.ref g), .val (.ref st), .val (.ref da), .val (.int n), .val (.ref la), .val (.ref cs)] [(.ref cs), (.ref g)])) rfl rfl (hb hby d10_28)
  have pre_49 : Rch p.tables e below (s₁.setTop (entryFrame m #[(.ref g), (.ref st), (.ref da), (.int n), (.ref la), (.ref cs)] 6)) (T_49.setTop (mkF m 31 #[.val (.ref g), .val (.ref st), .val (.ref da), .val (.int n), .val (.ref la), .val (.ref cs)] [])) := fun tgt ktg => pre_48 tgt (st_49 tgt ktg)
  have f_50 : Exa Z h_49 g "com/example/subjectline/subjectline/server/Progress" := f_39.wr W_49
  have f_51 : Fld Z h_49 g "com/example/subjectline/subjectline/server/Progress" "status" "Lcom/example/subjectline/subjectline/server/Status;" (.ref st) := f_41.other W_49 (Or.inr (slot_ne (Or.inr (hw _ (List.mem_of_getElem? (i := 65) rfl))) (Or.inr (hw _ (List.mem_of_getElem? (i := 73) rfl))) (by decide) (t := (.object "com/example/subjectline/subjectline/server/Status")) (t' := (.object "java/util/Optional")) (by decide) (by decide)))
  have f_52 : Fld Z h_49 g "com/example/subjectline/subjectline/server/Progress" "data" "Ljava/util/Optional;" (.ref da) := f_42.other W_49 (Or.inr (slot_ne (Or.inr (hw _ (List.mem_of_getElem? (i := 67) rfl))) (Or.inr (hw _ (List.mem_of_getElem? (i := 73) rfl))) (by decide) (t := (.object "java/util/Optional")) (t' := (.object "java/util/Optional")) (by decide) (by decide)))
  have f_53 : Fld Z h_49 g "com/example/subjectline/subjectline/server/Progress" "undeliveredCallbacks" "I" (.int n) := f_43.other W_49 (Or.inr (slot_ne (Or.inr (hw _ (List.mem_of_getElem? (i := 69) rfl))) (Or.inr (hw _ (List.mem_of_getElem? (i := 73) rfl))) (by decide) (t := .int) (t' := (.object "java/util/Optional")) (by decide) (by decide)))
  have f_54 : Fld Z h_49 g "com/example/subjectline/subjectline/server/Progress" "lastUndeliveredAt" "Ljava/util/Optional;" (.ref la) := f_46.other W_49 (Or.inr (slot_ne (Or.inr (hw _ (List.mem_of_getElem? (i := 71) rfl))) (Or.inr (hw _ (List.mem_of_getElem? (i := 73) rfl))) (by decide) (t := (.object "java/util/Optional")) (t' := (.object "java/util/Optional")) (by decide) (by decide)))
  have z_55 : n0 ≤ h_49.size := Nat.le_trans z_44 (Keep.of_wr W_49).1
  have K_56 : Keep h0 h_49 [g] := K_45.wr W_49 (Or.inl (List.mem_of_getElem? (i := 0) rfl))
  have f_57 : Fld Z h_49 g "com/example/subjectline/subjectline/server/Progress" "callingSince" "Ljava/util/Optional;" (.ref cs) := f_40.same W_49
  have N_58 := Fr.snoc X_49 N_47 gg
  obtain ⟨fs, hr, hrun, hended, hW, hsame⟩ := X_49.leave (v := none) (fun _ => rfl)
  refine ⟨_, _, pre_49 _ ?_, hrun, hended, _, _, rfl, ?_, ⟨_, rfl⟩, hW, hsame.mono (by decide) (by decide)⟩
  · show Steps p.tables e below (T_49.setTop (mkF m 31 #[.val (.ref g), .val (.ref st), .val (.ref da), .val (.int n), .val (.ref la), .val (.ref cs)] [])) _
    exact X_49.returnOut hx Bd.returns (hb hby d10_31) hr
  · show Q10 Z g st da n la cs h0 n0 _ T_49.heap _
    rw [e_49]
    exact ⟨rfl, N_58, K_56, ⟨⟨f_50, f_53, f_57⟩, f_51, f_52, f_54⟩⟩
theorem d13_0 : decode jdk_32_method_6_code 0 = .ok (.aload_n 0, 1) := by decide +kernel
theorem d13_1 : decode jdk_32_method_6_code 1 = .ok (.getfield 13, 3) := by decide +kernel
theorem d13_4 : decode jdk_32_method_6_code 4 = .ok (.ifnull 7, 3) := by decide +kernel
theorem d13_11 : decode jdk_32_method_6_code 11 = .ok (.iconst 0, 1) := by decide +kernel
theorem d13_12 : decode jdk_32_method_6_code 12 = .ok (.ireturn, 1) := by decide +kernel
theorem d13_7 : decode jdk_32_method_6_code 7 = .ok (.iconst 1, 1) := by decide +kernel
theorem d13_8 : decode jdk_32_method_6_code 8 = .ok (.goto 4, 3) := by decide +kernel
theorem ef_13 (m : MethodId) (x0 : Addr) : entryFrame m #[(.ref x0)] 1 = mkF m 0 #[.val (.ref x0)] [] := by first | (simp [entryFrame, mkF, argsToLocals, Value.category]; done) | rfl
def Q13 (Z : State) (o : Addr) (pr : Int32) (h0 : Heap) (n0 : Nat) (v : Option Value) (h : Heap) (L : List Loc) : Prop := v = some (.int pr) ∧ Fr n0 L ∧ h = h0
set_option maxRecDepth 65536 in
set_option maxHeartbeats 40000000 in
theorem rm13 (l : Launch) (Z : State) (a0 : Array Value) (hw : ∀ d ∈ tables_1, d.before a0 Z = true) (ws : List Jvm.Cond) (o : Addr) (pr : Int32) (h0 : Heap) (n0 : Nat) (Z0 : n0 ≤ h0.size) (O1 : OptS Z h0 o pr) :
    MetFree l (⟨"java/util/Optional", "isPresent", "()Z"⟩ : MethodName) (head1 (Jvm.Cond.code (⟨"java/util/Optional", "isPresent", "()Z"⟩ : MethodName) jdk_32_method_6_code 1 (some .boolean) :: ws) ({ frames := 0, cells := 0, slots := 0, locals := 0 } : Room)) (fun aA U => aA = #[(.ref o)] ∧ Z.Warmed39 U.vm ∧ U.heap = h0) (fun _ _ _ _ _ => True) (fun _ U oO U' => ∃ vV LL, oO = .returned vV ∧ Q13 Z o pr h0 n0 vV U'.heap LL ∧ FrameEnd U oO U' LL ({ frames := 0, cells := 0, slots := 0, locals := 0 } : Room).cells ({ frames := 0, cells := 0, slots := 0, locals := 0 } : Room).slots) := by
  refine MetFree.of_bodySF (plainFor_of_name pn_1) hisR ?_
  intro p e s m args below meth c s₁ Bd hml0 hP hK
  obtain ⟨rfl, hZ, hh⟩ := hP
  have hx := Bd.exec
  have hby := Bd.bytes
  have hml : c.maxLocals = 1 := hml0
  have hown : s.vm.findClass "java/util/Optional" = some m.cls := findClass_of_methodNamed Bd.named
  have hnm := (name_of_methodNamed Bd.named Bd.method).1
  have X0 : Stand p l e ({ frames := 0, cells := 0, slots := 0, locals := 0 } : Room) s m #[(.ref o)] below meth c s₁ [] 0 0 := Stand.of_body Bd
  have e0 : s₁.heap = h0 := by rw [← hh, Bd.state]; rfl
  have N0 := Fr.nil n0
  have K0 : Keep h0 h0 [] := Keep.refl _ _
  have pre0 : Rch p.tables e below (s₁.setTop (entryFrame m #[(.ref o)] 1)) (s₁.setTop (mkF m 0 #[.val (.ref o)] [])) := fun tgt ktg => castTop (ef_13 m o) ktg
  have pre_1 : Rch p.tables e below (s₁.setTop (entryFrame m #[(.ref o)] 1)) (s₁.setTop (mkF m 1 #[.val (.ref o)] [(.ref o)])) := fun tgt ktg => pre0 tgt (by
    show Steps p.tables e below (s₁.setTop (mkF m 0 #[.val (.ref o)] [])) _
    refine XS.aloadN X0.here hx rfl (hb hby d13_0) rfl rfl ?_
    exact ktg)
  obtain ⟨E1, ⟨hpr, F1⟩ | ⟨hpr, b, F1⟩⟩ := O1
  · skip
    obtain ⟨T_2, X_2, e_2, st_2⟩ := getF X0 hx hZ hown (host := "") (Or.inl (hw _ (List.mem_of_getElem? (i := 50) rfl))) Via.refl e0 F1 (g := (mkF m 1 #[.val (.ref o)] [(.ref o)])) rfl rfl (hb hby d13_1)
    have pre_2 : Rch p.tables e below (s₁.setTop (entryFrame m #[(.ref o)] 1)) (T_2.setTop (mkF m 4 #[.val (.ref o)] [.null])) := fun tgt ktg => pre_1 tgt (st_2 tgt ktg)
    have pre_3 : Rch p.tables e below (s₁.setTop (entryFrame m #[(.ref o)] 1)) (T_2.setTop (mkF m 12 #[.val (.ref o)] [(.int (0 : Int32))])) := fun tgt ktg => pre_2 tgt (by
      show Steps p.tables e below (T_2.setTop (mkF m 4 #[.val (.ref o)] [.null])) _
      refine XS.ifnullYes X_2.here hx rfl (pc0 := 4) (pc' := 11) rfl (hb hby d13_4) rfl (by decide) (by decide) ?_
      show Steps p.tables e below (T_2.setTop (mkF m 11 #[.val (.ref o)] [])) _
      refine XS.iconst X_2.here hx rfl (hb hby d13_11) ?_
      exact ktg)
    obtain ⟨fs, hr, hrun, hended, hW, hsame⟩ := X_2.leave (v := some (.int (0 : Int32))) (fun h => by rw [Bd.returns] at h; cases h)
    refine ⟨_, _, pre_3 _ ?_, hrun, hended, _, _, rfl, ?_, ⟨_, rfl⟩, hW, hsame.mono (by decide) (by decide)⟩
    · show Steps p.tables e below (T_2.setTop (mkF m 12 #[.val (.ref o)] [(.int (0 : Int32))])) _
      exact retN X_2 hx (t := .boolean) Bd.returns (by simp) (hb hby d13_12) hr
    · show Q13 Z o pr h0 n0 _ T_2.heap _
      rw [e_2]
      exact ⟨by rw [hpr], N0, rfl⟩
  · skip
    obtain ⟨T_4, X_4, e_4, st_4⟩ := getF X0 hx hZ hown (host := "") (Or.inl (hw _ (List.mem_of_getElem? (i := 50) rfl))) Via.refl e0 F1 (g := (mkF m 1 #[.val (.ref o)] [(.ref o)])) rfl rfl (hb hby d13_1)
    have pre_4 : Rch p.tables e below (s₁.setTop (entryFrame m #[(.ref o)] 1)) (T_4.setTop (mkF m 4 #[.val (.ref o)] [(.ref b)])) := fun tgt ktg => pre_1 tgt (st_4 tgt ktg)
    have pre_5 : Rch p.tables e below (s₁.setTop (entryFrame m #[(.ref o)] 1)) (T_4.setTop (mkF m 12 #[.val (.ref o)] [(.int (1 : Int32))])) := fun tgt ktg => pre_4 tgt (by
      show Steps p.tables e below (T_4.setTop (mkF m 4 #[.val (.ref o)] [(.ref b)])) _
      refine XS.ifnullNo X_4.here hx rfl (hb hby d13_4) rfl ?_
      show Steps p.tables e below (T_4.setTop (mkF m 7 #[.val (.ref o)] [])) _
      refine XS.iconst X_4.here hx rfl (hb hby d13_7) ?_
      show Steps p.tables e below (T_4.setTop (mkF m 8 #[.val (.ref o)] [(.int (1 : Int32))])) _
      refine XS.goto X_4.here hx rfl (pc0 := 8) (pc' := 12) rfl (hb hby d13_8) (by decide) (by decide) ?_
      exact ktg)
    obtain ⟨fs, hr, hrun, hended, hW, hsame⟩ := X_4.leave (v := some (.int (1 : Int32))) (fun h => by rw [Bd.returns] at h; cases h)
    refine ⟨_, _, pre_5 _ ?_, hrun, hended, _, _, rfl, ?_, ⟨_, rfl⟩, hW, hsame.mono (by decide) (by decide)⟩
    · show Steps p.tables e below (T_4.setTop (mkF m 12 #[.val (.ref o)] [(.int (1 : Int32))])) _
      exact retN X_4 hx (t := .boolean) Bd.returns (by simp) (hb hby d13_12) hr
    · show Q13 Z o pr h0 n0 _ T_4.heap _
      rw [e_4]
      exact ⟨by rw [hpr], N0, rfl⟩
theorem d16_0 : decode jdk_32_method_7_code 0 = .ok (.aload_n 0, 1) := by decide +kernel
theorem d16_1 : decode jdk_32_method_7_code 1 = .ok (.getfield 13, 3) := by decide +kernel
theorem d16_4 : decode jdk_32_method_7_code 4 = .ok (.ifnonnull 7, 3) := by decide +kernel
theorem d16_7 : decode jdk_32_method_7_code 7 = .ok (.iconst 1, 1) := by decide +kernel
theorem d16_8 : decode jdk_32_method_7_code 8 = .ok (.goto 4, 3) := by decide +kernel
theorem d16_12 : decode jdk_32_method_7_code 12 = .ok (.ireturn, 1) := by decide +kernel
theorem d16_11 : decode jdk_32_method_7_code 11 = .ok (.iconst 0, 1) := by decide +kernel
theorem ef_16 (m : MethodId) (x0 : Addr) : entryFrame m #[(.ref x0)] 1 = mkF m 0 #[.val (.ref x0)] [] := by first | (simp [entryFrame, mkF, argsToLocals, Value.category]; done) | rfl
def Q16 (Z : State) (o : Addr) (pr : Int32) (h0 : Heap) (n0 : Nat) (v : Option Value) (h : Heap) (L : List Loc) : Prop := v = some (.int (if pr = 0 then 1 else 0)) ∧ Fr n0 L ∧ h = h0
set_option maxRecDepth 65536 in
set_option maxHeartbeats 40000000 in
theorem rm16 (l : Launch) (Z : State) (a0 : Array Value) (hw : ∀ d ∈ tables_1, d.before a0 Z = true) (ws : List Jvm.Cond) (o : Addr) (pr : Int32) (h0 : Heap) (n0 : Nat) (Z0 : n0 ≤ h0.size) (O1 : OptS Z h0 o pr) :
    MetFree l (⟨"java/util/Optional", "isEmpty", "()Z"⟩ : MethodName) (head1 (Jvm.Cond.code (⟨"java/util/Optional", "isEmpty", "()Z"⟩ : MethodName) jdk_32_method_7_code 1 (some .boolean) :: ws) ({ frames := 0, cells := 0, slots := 0, locals := 0 } : Room)) (fun aA U => aA = #[(.ref o)] ∧ Z.Warmed39 U.vm ∧ U.heap = h0) (fun _ _ _ _ _ => True) (fun _ U oO U' => ∃ vV LL, oO = .returned vV ∧ Q16 Z o pr h0 n0 vV U'.heap LL ∧ FrameEnd U oO U' LL ({ frames := 0, cells := 0, slots := 0, locals := 0 } : Room).cells ({ frames := 0, cells := 0, slots := 0, locals := 0 } : Room).slots) := by
  refine MetFree.of_bodySF (plainFor_of_name pn_1) hisR ?_
  intro p e s m args below meth c s₁ Bd hml0 hP hK
  obtain ⟨rfl, hZ, hh⟩ := hP
  have hx := Bd.exec
  have hby := Bd.bytes
  have hml : c.maxLocals = 1 := hml0
  have hown : s.vm.findClass "java/util/Optional" = some m.cls := findClass_of_methodNamed Bd.named
  have hnm := (name_of_methodNamed Bd.named Bd.method).1
  have X0 : Stand p l e ({ frames := 0, cells := 0, slots := 0, locals := 0 } : Room) s m #[(.ref o)] below meth c s₁ [] 0 0 := Stand.of_body Bd
  have e0 : s₁.heap = h0 := by rw [← hh, Bd.state]; rfl
  have N0 := Fr.nil n0
  have K0 : Keep h0 h0 [] := Keep.refl _ _
  have pre0 : Rch p.tables e below (s₁.setTop (entryFrame m #[(.ref o)] 1)) (s₁.setTop (mkF m 0 #[.val (.ref o)] [])) := fun tgt ktg => castTop (ef_16 m o) ktg
  have pre_1 : Rch p.tables e below (s₁.setTop (entryFrame m #[(.ref o)] 1)) (s₁.setTop (mkF m 1 #[.val (.ref o)] [(.ref o)])) := fun tgt ktg => pre0 tgt (by
    show Steps p.tables e below (s₁.setTop (mkF m 0 #[.val (.ref o)] [])) _
    refine XS.aloadN X0.here hx rfl (hb hby d16_0) rfl rfl ?_
    exact ktg)
  obtain ⟨E1, ⟨hpr, F1⟩ | ⟨hpr, b, F1⟩⟩ := O1
  · skip
    obtain ⟨T_2, X_2, e_2, st_2⟩ := getF X0 hx hZ hown (host := "") (Or.inl (hw _ (List.mem_of_getElem? (i := 50) rfl))) Via.refl e0 F1 (g := (mkF m 1 #[.val (.ref o)] [(.ref o)])) rfl rfl (hb hby d16_1)
    have pre_2 : Rch p.tables e below (s₁.setTop (entryFrame m #[(.ref o)] 1)) (T_2.setTop (mkF m 4 #[.val (.ref o)] [.null])) := fun tgt ktg => pre_1 tgt (st_2 tgt ktg)
    have pre_3 : Rch p.tables e below (s₁.setTop (entryFrame m #[(.ref o)] 1)) (T_2.setTop (mkF m 12 #[.val (.ref o)] [(.int (1 : Int32))])) := fun tgt ktg => pre_2 tgt (by
      show Steps p.tables e below (T_2.setTop (mkF m 4 #[.val (.ref o)] [.null])) _
      refine XT.ifnonnullNo X_2.here hx rfl (hb hby d16_4) rfl ?_
      show Steps p.tables e below (T_2.setTop (mkF m 7 #[.val (.ref o)] [])) _
      refine XS.iconst X_2.here hx rfl (hb hby d16_7) ?_
      show Steps p.tables e below (T_2.setTop (mkF m 8 #[.val (.ref o)] [(.int (1 : Int32))])) _
      refine XS.goto X_2.here hx rfl (pc0 := 8) (pc' := 12) rfl (hb hby d16_8) (by decide) (by decide) ?_
      exact ktg)
    obtain ⟨fs, hr, hrun, hended, hW, hsame⟩ := X_2.leave (v := some (.int (1 : Int32))) (fun h => by rw [Bd.returns] at h; cases h)
    refine ⟨_, _, pre_3 _ ?_, hrun, hended, _, _, rfl, ?_, ⟨_, rfl⟩, hW, hsame.mono (by decide) (by decide)⟩
    · show Steps p.tables e below (T_2.setTop (mkF m 12 #[.val (.ref o)] [(.int (1 : Int32))])) _
      exact retN X_2 hx (t := .boolean) Bd.returns (by simp) (hb hby d16_12) hr
    · show Q16 Z o pr h0 n0 _ T_2.heap _
      rw [e_2]
      exact ⟨by rw [hpr]; rfl, N0, rfl⟩
  · skip
    obtain ⟨T_4, X_4, e_4, st_4⟩ := getF X0 hx hZ hown (host := "") (Or.inl (hw _ (List.mem_of_getElem? (i := 50) rfl))) Via.refl e0 F1 (g := (mkF m 1 #[.val (.ref o)] [(.ref o)])) rfl rfl (hb hby d16_1)
    have pre_4 : Rch p.tables e below (s₁.setTop (entryFrame m #[(.ref o)] 1)) (T_4.setTop (mkF m 4 #[.val (.ref o)] [(.ref b)])) := fun tgt ktg => pre_1 tgt (st_4 tgt ktg)
    have pre_5 : Rch p.tables e below (s₁.setTop (entryFrame m #[(.ref o)] 1)) (T_4.setTop (mkF m 12 #[.val (.ref o)] [(.int (0 : Int32))])) := fun tgt ktg => pre_4 tgt (by
      show Steps p.tables e below (T_4.setTop (mkF m 4 #[.val (.ref o)] [(.ref b)])) _
      refine XT.ifnonnullYes X_4.here hx rfl (pc0 := 4) (pc' := 11) rfl (hb hby d16_4) rfl (by decide) (by decide) ?_
      show Steps p.tables e below (T_4.setTop (mkF m 11 #[.val (.ref o)] [])) _
      refine XS.iconst X_4.here hx rfl (hb hby d16_11) ?_
      exact ktg)
    obtain ⟨fs, hr, hrun, hended, hW, hsame⟩ := X_4.leave (v := some (.int (0 : Int32))) (fun h => by rw [Bd.returns] at h; cases h)
    refine ⟨_, _, pre_5 _ ?_, hrun, hended, _, _, rfl, ?_, ⟨_, rfl⟩, hW, hsame.mono (by decide) (by decide)⟩
    · show Steps p.tables e below (T_4.setTop (mkF m 12 #[.val (.ref o)] [(.int (0 : Int32))])) _
      exact retN X_4 hx (t := .boolean) Bd.returns (by simp) (hb hby d16_12) hr
    · show Q16 Z o pr h0 n0 _ T_4.heap _
      rw [e_4]
      exact ⟨by rw [hpr]; rfl, N0, rfl⟩
theorem d12_0 : decode prog_50_method_7_code 0 = .ok (.aload_n 0, 1) := by decide +kernel
theorem d12_1 : decode prog_50_method_7_code 1 = .ok (.getfield 17, 3) := by decide +kernel
theorem d12_4 : decode prog_50_method_7_code 4 = .ok (.aload_n 0, 1) := by decide +kernel
theorem d12_5 : decode prog_50_method_7_code 5 = .ok (.getfield 24, 3) := by decide +kernel
theorem d12_8 : decode prog_50_method_7_code 8 = .ok (.invokevirtual 41, 3) := by decide +kernel
theorem pd_5 : parseMethodDescriptor "()Z" = some ⟨[], some .boolean⟩ := by decide +kernel
theorem d12_11 : decode prog_50_method_7_code 11 = .ok (.ifCond .eq 7, 3) := by decide +kernel
theorem d12_18 : decode prog_50_method_7_code 18 = .ok (.iconst 0, 1) := by decide +kernel
theorem d12_19 : decode prog_50_method_7_code 19 = .ok (.iadd, 1) := by decide +kernel
theorem d12_20 : decode prog_50_method_7_code 20 = .ok (.ireturn, 1) := by decide +kernel
theorem d12_14 : decode prog_50_method_7_code 14 = .ok (.iconst 1, 1) := by decide +kernel
theorem d12_15 : decode prog_50_method_7_code 15 = .ok (.goto 4, 3) := by decide +kernel
theorem ef_12 (m : MethodId) (x0 : Addr) : entryFrame m #[(.ref x0)] 1 = mkF m 0 #[.val (.ref x0)] [] := by first | (simp [entryFrame, mkF, argsToLocals, Value.category]; done) | rfl
def Q12 (Z : State) (g : Addr) (n : Int32) (cs : Addr) (pr : Int32) (h0 : Heap) (n0 : Nat) (v : Option Value) (h : Heap) (L : List Loc) : Prop := v = some (.int (n + pr)) ∧ Fr n0 L ∧ h = h0
set_option maxRecDepth 65536 in
set_option maxHeartbeats 40000000 in
theorem rm12 (l : Launch) (Z : State) (a0 : Array Value) (hw : ∀ d ∈ tables_1, d.before a0 Z = true) (ws : List Jvm.Cond) (g : Addr) (n : Int32) (cs : Addr) (pr : Int32) (h0 : Heap) (n0 : Nat) (Z0 : n0 ≤ h0.size) (P1 : PrW Z h0 g n cs) (O1 : OptS Z h0 cs pr) :
    MetFree l (⟨"com/example/subjectline/subjectline/server/Progress", "callbacksSent", "()I"⟩ : MethodName) (head1 (Jvm.Cond.code (⟨"com/example/subjectline/subjectline/server/Progress", "callbacksSent", "()I"⟩ : MethodName) prog_50_method_7_code 1 (some .int) :: ws) ({ frames := 1, cells := 0, slots := 0, locals := 13 } : Room)) (fun aA U => aA = #[(.ref g)] ∧ Z.Warmed39 U.vm ∧ U.heap = h0) (fun _ _ _ _ _ => True) (fun _ U oO U' => ∃ vV LL, oO = .returned vV ∧ Q12 Z g n cs pr h0 n0 vV U'.heap LL ∧ FrameEnd U oO U' LL ({ frames := 1, cells := 0, slots := 0, locals := 13 } : Room).cells ({ frames := 1, cells := 0, slots := 0, locals := 13 } : Room).slots) := by
  refine MetFree.of_bodySF (plainFor_of_name pn_5) hisR ?_
  intro p e s m args below meth c s₁ Bd hml0 hP hK
  obtain ⟨rfl, hZ, hh⟩ := hP
  have hx := Bd.exec
  have hby := Bd.bytes
  have hml : c.maxLocals = 1 := hml0
  have hown : s.vm.findClass "com/example/subjectline/subjectline/server/Progress" = some m.cls := findClass_of_methodNamed Bd.named
  have hnm := (name_of_methodNamed Bd.named Bd.method).1
  have X0 : Stand p l e ({ frames := 1, cells := 0, slots := 0, locals := 13 } : Room) s m #[(.ref g)] below meth c s₁ [] 0 0 := Stand.of_body Bd
  have e0 : s₁.heap = h0 := by rw [← hh, Bd.state]; rfl
  have N0 := Fr.nil n0
  have K0 : Keep h0 h0 [] := Keep.refl _ _
  have pre0 : Rch p.tables e below (s₁.setTop (entryFrame m #[(.ref g)] 1)) (s₁.setTop (mkF m 0 #[.val (.ref g)] [])) := fun tgt ktg => castTop (ef_12 m g) ktg
  obtain ⟨E1, F1, F2⟩ := P1
  have pre_1 : Rch p.tables e below (s₁.setTop (entryFrame m #[(.ref g)] 1)) (s₁.setTop (mkF m 1 #[.val (.ref g)] [(.ref g)])) := fun tgt ktg => pre0 tgt (by
    show Steps p.tables e below (s₁.setTop (mkF m 0 #[.val (.ref g)] [])) _
    refine XS.aloadN X0.here hx rfl (hb hby d12_0) rfl rfl ?_
    exact ktg)
  obtain ⟨T_2, X_2, e_2, st_2⟩ := getF X0 hx hZ hown (host := "") (Or.inl (hw _ (List.mem_of_getElem? (i := 68) rfl))) Via.refl e0 F1 (g := (mkF m 1 #[.val (.ref g)] [(.ref g)])) rfl rfl (hb hby d12_1)
  have pre_2 : Rch p.tables e below (s₁.setTop (entryFrame m #[(.ref g)] 1)) (T_2.setTop (mkF m 4 #[.val (.ref g)] [(.int n)])) := fun tgt ktg => pre_1 tgt (st_2 tgt ktg)
  have pre_3 : Rch p.tables e below (s₁.setTop (entryFrame m #[(.ref g)] 1)) (T_2.setTop (mkF m 5 #[.val (.ref g)] [(.ref g), (.int n)])) := fun tgt ktg => pre_2 tgt (by
    show Steps p.tables e below (T_2.setTop (mkF m 4 #[.val (.ref g)] [(.int n)])) _
    refine XS.aloadN X_2.here hx rfl (hb hby d12_4) rfl rfl ?_
    exact ktg)
  obtain ⟨T_4, X_4, e_4, st_4⟩ := getF X_2 hx hZ hown (host := "") (Or.inl (hw _ (List.mem_of_getElem? (i := 72) rfl))) Via.refl e_2 F2 (g := (mkF m 5 #[.val (.ref g)] [(.ref g), (.int n)])) rfl rfl (hb hby d12_5)
  have pre_4 : Rch p.tables e below (s₁.setTop (entryFrame m #[(.ref g)] 1)) (T_4.setTop (mkF m 8 #[.val (.ref g)] [(.ref cs), (.int n)])) := fun tgt ktg => pre_3 tgt (st_4 tgt ktg)
  obtain ⟨cq_5, kq_5, q_5a, q_5b, q_5c⟩ := isOf hZ e_4 O1.1
  obtain ⟨_, _, ⟨T_5, L_5, k_5, n_5⟩, -, X_5, ⟨Lc_5, hQ_5, l_5, y_5, z_5⟩, st_5⟩ := X_4.virtualBack hx (y := (⟨"java/util/Optional", "isPresent", "()Z"⟩ : MethodName)) (z := (⟨"java/util/Optional", "isPresent", "()Z"⟩ : MethodName)) hown (mvT hZ (hw _ (List.mem_of_getElem? (i := 79) rfl))) (mvT hZ (hw _ (List.mem_of_getElem? (i := 80) rfl))) (notFace_of_selects (args := #[]) (mvT hZ (hw _ (List.mem_of_getElem? (i := 82) rfl)))) (mvT hZ (hw _ (List.mem_of_getElem? (i := 82) rfl))) (mvT hZ (hw _ (List.mem_of_getElem? (i := 81) rfl))) (by decide) (backOf (W := 1) (rm13 l Z a0 hw [] cs pr h0 n0 Z0 O1) hZ (hw _ (List.mem_of_getElem? (i := 83) rfl)) (hw _ (List.mem_of_getElem? (i := 10) rfl)) (by decide) (by decide)) q_5a q_5c (g := (mkF m 8 #[.val (.ref g)] [(.ref cs), (.int n)])) rfl (by rw [hml]; rfl) (Steps.refl _) (argsL := []) (rest := [(.int n)]) (lenOf pd_5 rfl) rfl (by show 2 * 0 + _ ≤ _; exact Nat.le_of_eq rfl) (hb hby d12_8) (fun _ _ => ⟨rfl, e_4, (by decide : 0 + 0 ≤ _), (by decide : 0 + 0 ≤ _)⟩)
  dsimp only [Pt.U, Pt.locs, Pt.cells, Pt.slots] at X_5 l_5 y_5 z_5 st_5 hQ_5
  subst l_5 y_5 z_5
  obtain ⟨rfl, Nq_5, eh_5⟩ := hQ_5
  have N_6 := Fr.app N0 Nq_5
  have pre_5 : Rch p.tables e below (s₁.setTop (entryFrame m #[(.ref g)] 1)) (T_5.setTop (mkF m 11 #[.val (.ref g)] [(.int pr), (.int n)])) := fun tgt ktg => pre_4 tgt (st_5.trans ktg)
  by_cases c_7 : pr = (0 : Int32)
  · skip
    have pre_8 : Rch p.tables e below (s₁.setTop (entryFrame m #[(.ref g)] 1)) (T_5.setTop (mkF m 18 #[.val (.ref g)] [(.int n)])) := fun tgt ktg => pre_5 tgt (by
      show Steps p.tables e below (T_5.setTop (mkF m 11 #[.val (.ref g)] [(.int pr), (.int n)])) _
      refine XS.ifYes X_5.here hx rfl (pc0 := 11) (pc' := 18) rfl (hb hby d12_11) rfl ((if0 _ _).trans (teq c_7).1) (by decide) (by decide) ?_
      exact ktg)
    have pre_9 : Rch p.tables e below (s₁.setTop (entryFrame m #[(.ref g)] 1)) (T_5.setTop (mkF m 20 #[.val (.ref g)] [(.int (n + (0 : Int32)))])) := fun tgt ktg => pre_8 tgt (by
      show Steps p.tables e below (T_5.setTop (mkF m 18 #[.val (.ref g)] [(.int n)])) _
      refine XS.iconst X_5.here hx rfl (hb hby d12_18) ?_
      show Steps p.tables e below (T_5.setTop (mkF m 19 #[.val (.ref g)] [(.int (0 : Int32)), (.int n)])) _
      refine XS.iadd X_5.here hx rfl (hb hby d12_19) rfl ?_
      exact ktg)
    obtain ⟨fs, hr, hrun, hended, hW, hsame⟩ := X_5.leave (v := some (.int (n + (0 : Int32)))) (fun h => by rw [Bd.returns] at h; cases h)
    refine ⟨_, _, pre_9 _ ?_, hrun, hended, _, _, rfl, ?_, ⟨_, rfl⟩, hW, hsame.mono (by decide) (by decide)⟩
    · show Steps p.tables e below (T_5.setTop (mkF m 20 #[.val (.ref g)] [(.int (n + (0 : Int32)))])) _
      exact retI X_5 hx Bd.returns (hb hby d12_20) hr
    · show Q12 Z g n cs pr h0 n0 _ T_5.heap _
      rw [eh_5]
      exact ⟨by rw [c_7], N_6, rfl⟩
  · skip
    have pre_10 : Rch p.tables e below (s₁.setTop (entryFrame m #[(.ref g)] 1)) (T_5.setTop (mkF m 14 #[.val (.ref g)] [(.int n)])) := fun tgt ktg => pre_5 tgt (by
      show Steps p.tables e below (T_5.setTop (mkF m 11 #[.val (.ref g)] [(.int pr), (.int n)])) _
      refine XS.ifNo X_5.here hx rfl (hb hby d12_11) rfl ((if0 _ _).trans (feq c_7).1) ?_
      exact ktg)
    have pre_11 : Rch p.tables e below (s₁.setTop (entryFrame m #[(.ref g)] 1)) (T_5.setTop (mkF m 20 #[.val (.ref g)] [(.int (n + (1 : Int32)))])) := fun tgt ktg => pre_10 tgt (by
      show Steps p.tables e below (T_5.setTop (mkF m 14 #[.val (.ref g)] [(.int n)])) _
      refine XS.iconst X_5.here hx rfl (hb hby d12_14) ?_
      show Steps p.tables e below (T_5.setTop (mkF m 15 #[.val (.ref g)] [(.int (1 : Int32)), (.int n)])) _
      refine XS.goto X_5.here hx rfl (pc0 := 15) (pc' := 19) rfl (hb hby d12_15) (by decide) (by decide) ?_
      show Steps p.tables e below (T_5.setTop (mkF m 19 #[.val (.ref g)] [(.int (1 : Int32)), (.int n)])) _
      refine XS.iadd X_5.here hx rfl (hb hby d12_19) rfl ?_
      exact ktg)
    obtain ⟨fs, hr, hrun, hended, hW, hsame⟩ := X_5.leave (v := some (.int (n + (1 : Int32)))) (fun h => by rw [Bd.returns] at h; cases h)
    refine ⟨_, _, pre_11 _ ?_, hrun, hended, _, _, rfl, ?_, ⟨_, rfl⟩, hW, hsame.mono (by decide) (by decide)⟩
    · show Steps p.tables e below (T_5.setTop (mkF m 20 #[.val (.ref g)] [(.int (n + (1 : Int32)))])) _
      exact retI X_5 hx Bd.returns (hb hby d12_20) hr
    · show Q12 Z g n cs pr h0 n0 _ T_5.heap _
      rw [eh_5]
      exact ⟨by rw [O1.pr.resolve_left c_7], N_6, rfl⟩
theorem d23_0 : decode jdk_37_method_2_code 0 = .ok (.aload_n 0, 1) := by decide +kernel
theorem d23_1 : decode jdk_37_method_2_code 1 = .ok (.getfield 7, 3) := by decide +kernel
theorem d23_4 : decode jdk_37_method_2_code 4 = .ok (.ireturn, 1) := by decide +kernel
theorem pn_6 : plainName "java/lang/Enum" = true := by first | (simp [plainName, overriddenIn]; done) | decide +kernel
theorem ef_23 (m : MethodId) (x0 : Addr) : entryFrame m #[(.ref x0)] 1 = mkF m 0 #[.val (.ref x0)] [] := by first | (simp [entryFrame, mkF, argsToLocals, Value.category]; done) | rfl
def Q23 (Z : State) (a : Addr) (od : Int32) (h0 : Heap) (n0 : Nat) (v : Option Value) (h : Heap) (L : List Loc) : Prop := v = some (.int od) ∧ Fr n0 L ∧ h = h0
set_option maxRecDepth 65536 in
set_option maxHeartbeats 40000000 in
theorem rm23 (l : Launch) (Z : State) (a0 : Array Value) (hw : ∀ d ∈ tables_1, d.before a0 Z = true) (ws : List Jvm.Cond) (a : Addr) (od : Int32) (h0 : Heap) (n0 : Nat) (Z0 : n0 ≤ h0.size) (F1 : Fld Z h0 a "java/lang/Enum" "ordinal" "I" (.int od)) :
    MetFree l (⟨"java/lang/Enum", "ordinal", "()I"⟩ : MethodName) (head1 (Jvm.Cond.code (⟨"java/lang/Enum", "ordinal", "()I"⟩ : MethodName) jdk_37_method_2_code 1 (some .int) :: ws) ({ frames := 0, cells := 0, slots := 0, locals := 0 } : Room)) (fun aA U => aA = #[(.ref a)] ∧ Z.Warmed39 U.vm ∧ U.heap = h0) (fun _ _ _ _ _ => True) (fun _ U oO U' => ∃ vV LL, oO = .returned vV ∧ Q23 Z a od h0 n0 vV U'.heap LL ∧ FrameEnd U oO U' LL ({ frames := 0, cells := 0, slots := 0, locals := 0 } : Room).cells ({ frames := 0, cells := 0, slots := 0, locals := 0 } : Room).slots) := by
  refine MetFree.of_bodySF (plainFor_of_name pn_6) hisR ?_
  intro p e s m args below meth c s₁ Bd hml0 hP hK
  obtain ⟨rfl, hZ, hh⟩ := hP
  have hx := Bd.exec
  have hby := Bd.bytes
  have hml : c.maxLocals = 1 := hml0
  have hown : s.vm.findClass "java/lang/Enum" = some m.cls := findClass_of_methodNamed Bd.named
  have hnm := (name_of_methodNamed Bd.named Bd.method).1
  have X0 : Stand p l e ({ frames := 0, cells := 0, slots := 0, locals := 0 } : Room) s m #[(.ref a)] below meth c s₁ [] 0 0 := Stand.of_body Bd
  have e0 : s₁.heap = h0 := by rw [← hh, Bd.state]; rfl
  have N0 := Fr.nil n0
  have K0 : Keep h0 h0 [] := Keep.refl _ _
  have pre0 : Rch p.tables e below (s₁.setTop (entryFrame m #[(.ref a)] 1)) (s₁.setTop (mkF m 0 #[.val (.ref a)] [])) := fun tgt ktg => castTop (ef_23 m a) ktg
  have pre_1 : Rch p.tables e below (s₁.setTop (entryFrame m #[(.ref a)] 1)) (s₁.setTop (mkF m 1 #[.val (.ref a)] [(.ref a)])) := fun tgt ktg => pre0 tgt (by
    show Steps p.tables e below (s₁.setTop (mkF m 0 #[.val (.ref a)] [])) _
    refine XS.aloadN X0.here hx rfl (hb hby d23_0) rfl rfl ?_
    exact ktg)
  obtain ⟨T_2, X_2, e_2, st_2⟩ := getF X0 hx hZ hown (host := "") (Or.inl (hw _ (List.mem_of_getElem? (i := 150) rfl))) Via.refl e0 F1 (g := (mkF m 1 #[.val (.ref a)] [(.ref a)])) rfl rfl (hb hby d23_1)
  have pre_2 : Rch p.tables e below (s₁.setTop (entryFrame m #[(.ref a)] 1)) (T_2.setTop (mkF m 4 #[.val (.ref a)] [(.int od)])) := fun tgt ktg => pre_1 tgt (st_2 tgt ktg)
  obtain ⟨fs, hr, hrun, hended, hW, hsame⟩ := X_2.leave (v := some (.int od)) (fun h => by rw [Bd.returns] at h; cases h)
  refine ⟨_, _, pre_2 _ ?_, hrun, hended, _, _, rfl, ?_, ⟨_, rfl⟩, hW, hsame.mono (by decide) (by decide)⟩
  · show Steps p.tables e below (T_2.setTop (mkF m 4 #[.val (.ref a)] [(.int od)])) _
    exact retI X_2 hx Bd.returns (hb hby d23_4) hr
  · show Q23 Z a od h0 n0 _ T_2.heap _
    rw [e_2]
    exact ⟨rfl, N0, rfl⟩
theorem d22_0 : decode prog_50_method_2_code 0 = .ok (.getstatic 27, 3) := by decide +kernel
theorem d22_3 : decode prog_50_method_2_code 3 = .ok (.aload_n 0, 1) := by decide +kernel
theorem d22_4 : decode prog_50_method_2_code 4 = .ok (.invokevirtual 31, 3) := by decide +kernel
theorem pd_6 : parseMethodDescriptor "()I" = some ⟨[], some .int⟩ := by decide +kernel
theorem d22_7 : decode prog_50_method_2_code 7 = .ok (.aaload, 1) := by decide +kernel
theorem d22_8 : decode prog_50_method_2_code 8 = .ok (.areturn, 1) := by decide +kernel
theorem ef_22 (m : MethodId) (x0 : Addr) : entryFrame m #[(.ref x0)] 1 = mkF m 0 #[.val (.ref x0)] [] := by first | (simp [entryFrame, mkF, argsToLocals, Value.category]; done) | rfl
def Q22 (Z : State) (st : Addr) (pa em : Addr) (h0 : Heap) (n0 : Nat) (v : Option Value) (h : Heap) (L : List Loc) : Prop := ∃ (g cs1 : Addr), v = some (.ref g) ∧ Fr n0 L ∧ Keep h0 h [] ∧ PrW Z h g 0 cs1 ∧ OptS Z h cs1 0
set_option maxRecDepth 65536 in
set_option maxHeartbeats 40000000 in
theorem rm22 (l : Launch) (Z : State) (a0 : Array Value) (hw : ∀ d ∈ tables_1, d.before a0 Z = true) (ws : List Jvm.Cond) (st : Addr) (pa em : Addr) (h0 : Heap) (n0 : Nat) (Z0 : n0 ≤ h0.size) (S1 : StS Z h0 st pa em) :
    MetFree l (⟨"com/example/subjectline/subjectline/server/Progress", "plain", "(Lcom/example/subjectline/subjectline/server/Status;)Lcom/example/subjectline/subjectline/server/Progress;"⟩ : MethodName) (head1 (Jvm.Cond.code (⟨"com/example/subjectline/subjectline/server/Progress", "plain", "(Lcom/example/subjectline/subjectline/server/Status;)Lcom/example/subjectline/subjectline/server/Progress;"⟩ : MethodName) prog_50_method_2_code 1 (some (.object "com/example/subjectline/subjectline/server/Progress")) :: ws) ({ frames := 1, cells := 0, slots := 0, locals := 13 } : Room)) (fun aA U => aA = #[(.ref st)] ∧ Z.Warmed39 U.vm ∧ U.heap = h0) (fun _ _ _ _ _ => True) (fun _ U oO U' => ∃ vV LL, oO = .returned vV ∧ Q22 Z st pa em h0 n0 vV U'.heap LL ∧ FrameEnd U oO U' LL ({ frames := 1, cells := 0, slots := 0, locals := 13 } : Room).cells ({ frames := 1, cells := 0, slots := 0, locals := 13 } : Room).slots) := by
  refine MetFree.of_bodySF (plainFor_of_name pn_5) hisR ?_
  intro p e s m args below meth c s₁ Bd hml0 hP hK
  obtain ⟨rfl, hZ, hh⟩ := hP
  have hx := Bd.exec
  have hby := Bd.bytes
  have hml : c.maxLocals = 1 := hml0
  have hown : s.vm.findClass "com/example/subjectline/subjectline/server/Progress" = some m.cls := findClass_of_methodNamed Bd.named
  have hnm := (name_of_methodNamed Bd.named Bd.method).1
  have X0 : Stand p l e ({ frames := 1, cells := 0, slots := 0, locals := 13 } : Room) s m #[(.ref st)] below meth c s₁ [] 0 0 := Stand.of_body Bd
  have e0 : s₁.heap = h0 := by rw [← hh, Bd.state]; rfl
  have N0 := Fr.nil n0
  have K0 : Keep h0 h0 [] := Keep.refl _ _
  have pre0 : Rch p.tables e below (s₁.setTop (entryFrame m #[(.ref st)] 1)) (s₁.setTop (mkF m 0 #[.val (.ref st)] [])) := fun tgt ktg => castTop (ef_22 m st) ktg
  obtain ⟨E1, od, pl, cl, F1, T1, A1, hin, hat, P1, O1⟩ := S1
  obtain ⟨T_1, X_1, e_1, st_1⟩ := getS2 X0 hx hZ hown (host := "") (Or.inl (hw _ (List.mem_of_getElem? (i := 141) rfl))) Via.refl e0 T1 (g := (mkF m 0 #[.val (.ref st)] [])) rfl (hb hby d22_0)
  have pre_1 : Rch p.tables e below (s₁.setTop (entryFrame m #[(.ref st)] 1)) (T_1.setTop (mkF m 3 #[.val (.ref st)] [(.ref pa)])) := fun tgt ktg => pre0 tgt (st_1 tgt ktg)
  have pre_2 : Rch p.tables e below (s₁.setTop (entryFrame m #[(.ref st)] 1)) (T_1.setTop (mkF m 4 #[.val (.ref st)] [(.ref st), (.ref pa)])) := fun tgt ktg => pre_1 tgt (by
    show Steps p.tables e below (T_1.setTop (mkF m 3 #[.val (.ref st)] [(.ref pa)])) _
    refine XS.aloadN X_1.here hx rfl (hb hby d22_3) rfl rfl ?_
    exact ktg)
  obtain ⟨cq_3, kq_3, q_3a, q_3b, q_3c⟩ := isOf hZ e_1 E1
  obtain ⟨_, _, ⟨T_3, L_3, k_3, n_3⟩, -, X_3, ⟨Lc_3, hQ_3, l_3, y_3, z_3⟩, st_3⟩ := X_1.virtualBackUp hx (x := (⟨"com/example/subjectline/subjectline/server/Status", "ordinal", "()I"⟩ : MethodName)) (y := (⟨"java/lang/Enum", "ordinal", "()I"⟩ : MethodName)) hown (mvT hZ (hw _ (List.mem_of_getElem? (i := 143) rfl))) (mvT hZ (hw _ (List.mem_of_getElem? (i := 144) rfl))) (mvT hZ (hw _ (List.mem_of_getElem? (i := 145) rfl))) (by decide) (mvT hZ (hw _ (List.mem_of_getElem? (i := 147) rfl))) (mvT hZ (hw _ (List.mem_of_getElem? (i := 146) rfl))) (backOf (W := 1) (rm23 l Z a0 hw [] st od h0 n0 Z0 F1) hZ (hw _ (List.mem_of_getElem? (i := 149) rfl)) (hw _ (List.mem_of_getElem? (i := 148) rfl)) (by decide) (by decide)) q_3a q_3c (g := (mkF m 4 #[.val (.ref st)] [(.ref st), (.ref pa)])) rfl (by rw [hml]; rfl) (Steps.refl _) (argsL := []) (rest := [(.ref pa)]) (lenOf pd_6 rfl) rfl (by show 2 * 0 + _ ≤ _; exact Nat.le_of_eq rfl) (hb hby d22_4) (fun _ _ => ⟨rfl, e_1, (by decide : 0 + 0 ≤ _), (by decide : 0 + 0 ≤ _)⟩)
  dsimp only [Pt.U, Pt.locs, Pt.cells, Pt.slots] at X_3 l_3 y_3 z_3 st_3 hQ_3
  subst l_3 y_3 z_3
  obtain ⟨rfl, Nq_3, eh_3⟩ := hQ_3
  have N_4 := Fr.app N0 Nq_3
  have pre_3 : Rch p.tables e below (s₁.setTop (entryFrame m #[(.ref st)] 1)) (T_3.setTop (mkF m 7 #[.val (.ref st)] [(.int od), (.ref pa)])) := fun tgt ktg => pre_2 tgt (st_3.trans ktg)
  have pre_5 : Rch p.tables e below (s₁.setTop (entryFrame m #[(.ref st)] 1)) (T_3.setTop (mkF m 8 #[.val (.ref st)] [(.ref pl)])) := fun tgt ktg => pre_3 tgt (X_3.aaload hx (j := od) (v := (.ref pl)) (by rw [eh_3]; exact A1.1) (State.isArrayOf_alike hZ.alike A1.2.1) rfl A1.2.2 hin hat (g := (mkF m 7 #[.val (.ref st)] [(.int od), (.ref pa)])) rfl rfl (hb hby d22_7) _ ktg)
  obtain ⟨fs, hr, hrun, hended, hW, hsame⟩ := X_3.leave (v := some (.ref pl)) (fun h => by rw [Bd.returns] at h; cases h)
  refine ⟨_, _, pre_5 _ ?_, hrun, hended, _, _, rfl, ?_, ⟨_, rfl⟩, hW, hsame.mono (by decide) (by decide)⟩
  · show Steps p.tables e below (T_3.setTop (mkF m 8 #[.val (.ref st)] [(.ref pl)])) _
    jvm_step X_3.here [X_3.here.top, hx, (hb hby d22_8), X_3.method', Bd.returns, Value.isRef, FieldType.isReference]
    first | (intro acts; rw [hr _ acts rfl rfl rfl]) | rw [hr _ _ rfl rfl rfl]
    exact Steps.refl _
  · show Q22 Z st pa em h0 n0 _ T_3.heap _
    rw [eh_3]
    exact ⟨pl, em, rfl, N_4, K0, P1, O1⟩
theorem d15_0 : decode prog_50_method_9_code 0 = .ok (.aload_n 1, 1) := by decide +kernel
theorem d15_1 : decode prog_50_method_9_code 1 = .ok (.invokevirtual 64, 3) := by decide +kernel
theorem d15_4 : decode prog_50_method_9_code 4 = .ok (.ifCond .eq 22, 3) := by decide +kernel
theorem d15_26 : decode prog_50_method_9_code 26 = .ok (.new 8, 3) := by decide +kernel
theorem d15_29 : decode prog_50_method_9_code 29 = .ok (.dup, 1) := by decide +kernel
theorem d15_30 : decode prog_50_method_9_code 30 = .ok (.aload_n 0, 1) := by decide +kernel
theorem d15_31 : decode prog_50_method_9_code 31 = .ok (.aload_n 1, 1) := by decide +kernel
theorem d15_32 : decode prog_50_method_9_code 32 = .ok (.iload_n 2, 1) := by decide +kernel
theorem d15_33 : decode prog_50_method_9_code 33 = .ok (.aload_n 3, 1) := by decide +kernel
theorem d15_34 : decode prog_50_method_9_code 34 = .ok (.aload 4, 2) := by decide +kernel
theorem d15_36 : decode prog_50_method_9_code 36 = .ok (.invokespecial 71, 3) := by decide +kernel
theorem pd_7 : parseMethodDescriptor "(Lcom/example/subjectline/subjectline/server/Status;Ljava/util/Optional;ILjava/util/Optional;Ljava/util/Optional;)V" = some ⟨[(.object "com/example/subjectline/subjectline/server/Status"), (.object "java/util/Optional"), .int, (.object "java/util/Optional"), (.object "java/util/Optional")], none⟩ := by decide +kernel
theorem d15_39 : decode prog_50_method_9_code 39 = .ok (.areturn, 1) := by decide +kernel
theorem d15_7 : decode prog_50_method_9_code 7 = .ok (.iload_n 2, 1) := by decide +kernel
theorem d15_8 : decode prog_50_method_9_code 8 = .ok (.ifCond .ne 18, 3) := by decide +kernel
theorem d15_11 : decode prog_50_method_9_code 11 = .ok (.aload 4, 2) := by decide +kernel
theorem d15_13 : decode prog_50_method_9_code 13 = .ok (.invokevirtual 64, 3) := by decide +kernel
theorem d15_16 : decode prog_50_method_9_code 16 = .ok (.ifCond .eq 10, 3) := by decide +kernel
theorem d15_19 : decode prog_50_method_9_code 19 = .ok (.aload_n 0, 1) := by decide +kernel
theorem d15_20 : decode prog_50_method_9_code 20 = .ok (.invokestatic 67, 3) := by decide +kernel
theorem pd_8 : parseMethodDescriptor "(Lcom/example/subjectline/subjectline/server/Status;)Lcom/example/subjectline/subjectline/server/Progress;" = some ⟨[(.object "com/example/subjectline/subjectline/server/Status")], some (.object "com/example/subjectline/subjectline/server/Progress")⟩ := by decide +kernel
theorem d15_23 : decode prog_50_method_9_code 23 = .ok (.goto 16, 3) := by decide +kernel
theorem ef_15 (m : MethodId) (x0 : Addr) (x1 : Addr) (x2 : Int32) (x3 : Addr) (x4 : Addr) : entryFrame m #[(.ref x0), (.ref x1), (.int x2), (.ref x3), (.ref x4)] 5 = mkF m 0 #[.val (.ref x0), .val (.ref x1), .val (.int x2), .val (.ref x3), .val (.ref x4)] [] := by first | (simp [entryFrame, mkF, argsToLocals, Value.category]; done) | rfl
def Q15 (Z : State) (st : Addr) (da : Addr) (n : Int32) (la : Addr) (cs : Addr) (pa em : Addr) (pd pc : Int32) (h0 : Heap) (n0 : Nat) (v : Option Value) (h : Heap) (L : List Loc) : Prop := ∃ (g cs1 : Addr), v = some (.ref g) ∧ Fr n0 L ∧ Keep h0 h [] ∧ PrW Z h g n cs1 ∧ OptS Z h cs1 pc
set_option maxRecDepth 65536 in
set_option maxHeartbeats 40000000 in
theorem rm15 (l : Launch) (Z : State) (a0 : Array Value) (hw : ∀ d ∈ tables_1, d.before a0 Z = true) (ws : List Jvm.Cond) (st : Addr) (da : Addr) (n : Int32) (la : Addr) (cs : Addr) (pa em : Addr) (pd pc : Int32) (h0 : Heap) (n0 : Nat) (Z0 : n0 ≤ h0.size) (S1 : StS Z h0 st pa em) (O1 : OptS Z h0 da pd) (O2 : OptS Z h0 cs pc) :
    MetFree l (⟨"com/example/subjectline/subjectline/server/Progress", "of", "(Lcom/example/subjectline/subjectline/server/Status;Ljava/util/Optional;ILjava/util/Optional;Ljava/util/Optional;)Lcom/example/subjectline/subjectline/server/Progress;"⟩ : MethodName) (head1 (Jvm.Cond.code (⟨"com/example/subjectline/subjectline/server/Progress", "of", "(Lcom/example/subjectline/subjectline/server/Status;Ljava/util/Optional;ILjava/util/Optional;Ljava/util/Optional;)Lcom/example/subjectline/subjectline/server/Progress;"⟩ : MethodName) prog_50_method_9_code 5 (some (.object "com/example/subjectline/subjectline/server/Progress")) :: ws) ({ frames := 3, cells := 1, slots := 5, locals := 44 } : Room)) (fun aA U => aA = #[(.ref st), (.ref da), (.int n), (.ref la), (.ref cs)] ∧ Z.Warmed39 U.vm ∧ U.heap = h0) (fun _ _ _ _ _ => True) (fun _ U oO U' => ∃ vV LL, oO = .returned vV ∧ Q15 Z st da n la cs pa em pd pc h0 n0 vV U'.heap LL ∧ FrameEnd U oO U' LL ({ frames := 3, cells := 1, slots := 5, locals := 44 } : Room).cells ({ frames := 3, cells := 1, slots := 5, locals := 44 } : Room).slots) := by
  refine MetFree.of_bodySF (plainFor_of_name pn_5) hisR ?_
  intro p e s m args below meth c s₁ Bd hml0 hP hK
  obtain ⟨rfl, hZ, hh⟩ := hP
  have hx := Bd.exec
  have hby := Bd.bytes
  have hml : c.maxLocals = 5 := hml0
  have hown : s.vm.findClass "com/example/subjectline/subjectline/server/Progress" = some m.cls := findClass_of_methodNamed Bd.named
  have hnm := (name_of_methodNamed Bd.named Bd.method).1
  have X0 : Stand p l e ({ frames := 3, cells := 1, slots := 5, locals := 44 } : Room) s m #[(.ref st), (.ref da), (.int n), (.ref la), (.ref cs)] below meth c s₁ [] 0 0 := Stand.of_body Bd
  have e0 : s₁.heap = h0 := by rw [← hh, Bd.state]; rfl
  have N0 := Fr.nil n0
  have K0 : Keep h0 h0 [] := Keep.refl _ _
  have pre0 : Rch p.tables e below (s₁.setTop (entryFrame m #[(.ref st), (.ref da), (.int n), (.ref la), (.ref cs)] 5)) (s₁.setTop (mkF m 0 #[.val (.ref st), .val (.ref da), .val (.int n), .val (.ref la), .val (.ref cs)] [])) := fun tgt ktg => castTop (ef_15 m st da n la cs) ktg
  have pre_1 : Rch p.tables e below (s₁.setTop (entryFrame m #[(.ref st), (.ref da), (.int n), (.ref la), (.ref cs)] 5)) (s₁.setTop (mkF m 1 #[.val (.ref st), .val (.ref da), .val (.int n), .val (.ref la), .val (.ref cs)] [(.ref da)])) := fun tgt ktg => pre0 tgt (by
    show Steps p.tables e below (s₁.setTop (mkF m 0 #[.val (.ref st), .val (.ref da), .val (.int n), .val (.ref la), .val (.ref cs)] [])) _
    refine XS.aloadN X0.here hx rfl (hb hby d15_0) rfl rfl ?_
    exact ktg)
  obtain ⟨cq_2, kq_2, q_2a, q_2b, q_2c⟩ := isOf hZ e0 O1.1
  obtain ⟨_, _, ⟨T_2, L_2, k_2, n_2⟩, -, X_2, ⟨Lc_2, hQ_2, l_2, y_2, z_2⟩, st_2⟩ := X0.virtualBack hx (y := (⟨"java/util/Optional", "isEmpty", "()Z"⟩ : MethodName)) (z := (⟨"java/util/Optional", "isEmpty", "()Z"⟩ : MethodName)) hown (mvT hZ (hw _ (List.mem_of_getElem? (i := 92) rfl))) (mvT hZ (hw _ (List.mem_of_getElem? (i := 93) rfl))) (notFace_of_selects (args := #[]) (mvT hZ (hw _ (List.mem_of_getElem? (i := 95) rfl)))) (mvT hZ (hw _ (List.mem_of_getElem? (i := 95) rfl))) (mvT hZ (hw _ (List.mem_of_getElem? (i := 94) rfl))) (by decide) (backOf (W := 0) (rm16 l Z a0 hw [] da pd h0 n0 Z0 O1) hZ (hw _ (List.mem_of_getElem? (i := 96) rfl)) (hw _ (List.mem_of_getElem? (i := 10) rfl)) (by decide) (by decide)) q_2a q_2c (g := (mkF m 1 #[.val (.ref st), .val (.ref da), .val (.int n), .val (.ref la), .val (.ref cs)] [(.ref da)])) rfl (by rw [hml]; rfl) (Steps.refl _) (argsL := []) (rest := []) (lenOf pd_5 rfl) rfl (by show 2 * 0 + _ ≤ _; exact Nat.le_of_eq rfl) (hb hby d15_1) (fun _ _ => ⟨rfl, e0, (by decide : 0 + 0 ≤ _), (by decide : 0 + 0 ≤ _)⟩)
  dsimp only [Pt.U, Pt.locs, Pt.cells, Pt.slots] at X_2 l_2 y_2 z_2 st_2 hQ_2
  subst l_2 y_2 z_2
  obtain ⟨rfl, Nq_2, eh_2⟩ := hQ_2
  have N_3 := Fr.app N0 Nq_2
  have pre_2 : Rch p.tables e below (s₁.setTop (entryFrame m #[(.ref st), (.ref da), (.int n), (.ref la), (.ref cs)] 5)) (T_2.setTop (mkF m 4 #[.val (.ref st), .val (.ref da), .val (.int n), .val (.ref la), .val (.ref cs)] [(.int (if pd = 0 then 1 else 0))])) := fun tgt ktg => pre_1 tgt (st_2.trans ktg)
  obtain ⟨de, hv_de⟩ : ∃ nm_ : Int32, nm_ = (if pd = 0 then 1 else 0) := ⟨_, rfl⟩
  have pre_4 : Rch p.tables e below (s₁.setTop (entryFrame m #[(.ref st), (.ref da), (.int n), (.ref la), (.ref cs)] 5)) (T_2.setTop (mkF m 4 #[.val (.ref st), .val (.ref da), .val (.int n), .val (.ref la), .val (.ref cs)] [(.int de)])) := fun tgt ktg => pre_2 tgt (by rw [hv_de] at ktg; exact ktg)
  by_cases c_5 : de = (0 : Int32)
  · skip
    have pre_6 : Rch p.tables e below (s₁.setTop (entryFrame m #[(.ref st), (.ref da), (.int n), (.ref la), (.ref cs)] 5)) (T_2.setTop (mkF m 26 #[.val (.ref st), .val (.ref da), .val (.int n), .val (.ref la), .val (.ref cs)] [])) := fun tgt ktg => pre_4 tgt (by
      show Steps p.tables e below (T_2.setTop (mkF m 4 #[.val (.ref st), .val (.ref da), .val (.int n), .val (.ref la), .val (.ref cs)] [(.int de)])) _
      refine XS.ifYes X_2.here hx rfl (pc0 := 4) (pc' := 26) rfl (hb hby d15_4) rfl ((if0 _ _).trans (teq c_5).1) (by decide) (by decide) ?_
      exact ktg)
    obtain ⟨T_7, h_7, X_7, e_7, E_7, A_7, D_7, U_7, st_7⟩ := newO X_2 hx hZ hown (hw _ (List.mem_of_getElem? (i := 97) rfl)) (hw _ (List.mem_of_getElem? (i := 53) rfl)) (hw _ (List.mem_of_getElem? (i := 54) rfl)) eh_2 (g := (mkF m 26 #[.val (.ref st), .val (.ref da), .val (.int n), .val (.ref la), .val (.ref cs)] [])) rfl (hb hby d15_26) (by decide) (by decide)
    obtain ⟨g, g_7⟩ : ∃ nm_, nm_ = h0.size := ⟨_, rfl⟩
    rw [← g_7] at A_7 D_7 U_7 st_7
    have g_g : n0 ≤ g := Nat.le_trans Z0 (Nat.le_of_eq g_7.symm)
    have sz_g : h0.size ≤ g := Nat.le_trans K0.1 (Nat.le_of_eq g_7.symm)
    have pre_7 : Rch p.tables e below (s₁.setTop (entryFrame m #[(.ref st), (.ref da), (.int n), (.ref la), (.ref cs)] 5)) (T_7.setTop (mkF m 29 #[.val (.ref st), .val (.ref da), .val (.int n), .val (.ref la), .val (.ref cs)] [(.ref g)])) := fun tgt ktg => pre_6 tgt (st_7 tgt ktg)
    have z_8 : n0 ≤ h_7.size := Nat.le_trans Z0 E_7.1
    have K_9 : Keep h0 h_7 [] := K0.ext E_7
    have f_10 : Exa Z h_7 g "com/example/subjectline/subjectline/server/Progress" := A_7
    have f_11 : Fld Z h_7 g "com/example/subjectline/subjectline/server/Progress" "status" "Lcom/example/subjectline/subjectline/server/Status;" .null := D_7 (Or.inr (hw _ (List.mem_of_getElem? (i := 65) rfl))) (ty := (.object "com/example/subjectline/subjectline/server/Status")) (by decide)
    have f_12 : Fld Z h_7 g "com/example/subjectline/subjectline/server/Progress" "data" "Ljava/util/Optional;" .null := D_7 (Or.inr (hw _ (List.mem_of_getElem? (i := 67) rfl))) (ty := (.object "java/util/Optional")) (by decide)
    have f_13 : Fld Z h_7 g "com/example/subjectline/subjectline/server/Progress" "undeliveredCallbacks" "I" (.int (0 : Int32)) := D_7 (Or.inr (hw _ (List.mem_of_getElem? (i := 69) rfl))) (ty := .int) (by decide)
    have f_14 : Fld Z h_7 g "com/example/subjectline/subjectline/server/Progress" "lastUndeliveredAt" "Ljava/util/Optional;" .null := D_7 (Or.inr (hw _ (List.mem_of_getElem? (i := 71) rfl))) (ty := (.object "java/util/Optional")) (by decide)
    have f_15 : Fld Z h_7 g "com/example/subjectline/subjectline/server/Progress" "callingSince" "Ljava/util/Optional;" .null := D_7 (Or.inr (hw _ (List.mem_of_getElem? (i := 73) rfl))) (ty := (.object "java/util/Optional")) (by decide)
    have pre_16 : Rch p.tables e below (s₁.setTop (entryFrame m #[(.ref st), (.ref da), (.int n), (.ref la), (.ref cs)] 5)) (T_7.setTop (mkF m 36 #[.val (.ref st), .val (.ref da), .val (.int n), .val (.ref la), .val (.ref cs)] [(.ref cs), (.ref la), (.int n), (.ref da), (.ref st), (.ref g), (.ref g)])) := fun tgt ktg => pre_7 tgt (by
      show Steps p.tables e below (T_7.setTop (mkF m 29 #[.val (.ref st), .val (.ref da), .val (.int n), .val (.ref la), .val (.ref cs)] [(.ref g)])) _
      refine XS.dup X_7.here hx rfl (hb hby d15_29) rfl rfl ?_
      show Steps p.tables e below (T_7.setTop (mkF m 30 #[.val (.ref st), .val (.ref da), .val (.int n), .val (.ref la), .val (.ref cs)] [(.ref g), (.ref g)])) _
      refine XS.aloadN X_7.here hx rfl (hb hby d15_30) rfl rfl ?_
      show Steps p.tables e below (T_7.setTop (mkF m 31 #[.val (.ref st), .val (.ref da), .val (.int n), .val (.ref la), .val (.ref cs)] [(.ref st), (.ref g), (.ref g)])) _
      refine XS.aloadN X_7.here hx rfl (hb hby d15_31) rfl rfl ?_
      show Steps p.tables e below (T_7.setTop (mkF m 32 #[.val (.ref st), .val (.ref da), .val (.int n), .val (.ref la), .val (.ref cs)] [(.ref da), (.ref st), (.ref g), (.ref g)])) _
      refine XS.iloadN X_7.here hx rfl (hb hby d15_32) rfl ?_
      show Steps p.tables e below (T_7.setTop (mkF m 33 #[.val (.ref st), .val (.ref da), .val (.int n), .val (.ref la), .val (.ref cs)] [(.int n), (.ref da), (.ref st), (.ref g), (.ref g)])) _
      refine XS.aloadN X_7.here hx rfl (hb hby d15_33) rfl rfl ?_
      show Steps p.tables e below (T_7.setTop (mkF m 34 #[.val (.ref st), .val (.ref da), .val (.int n), .val (.ref la), .val (.ref cs)] [(.ref la), (.int n), (.ref da), (.ref st), (.ref g), (.ref g)])) _
      refine XS.aload X_7.here hx rfl (hb hby d15_34) rfl rfl ?_
      exact ktg)
    obtain ⟨_, _, ⟨T_17, L_17, k_17, n_17⟩, -, X_17, ⟨Lc_17, hQ_17, l_17, y_17, z_17⟩, st_17⟩ := X_7.specialBack hx (y := (⟨"com/example/subjectline/subjectline/server/Progress", "<init>", "(Lcom/example/subjectline/subjectline/server/Status;Ljava/util/Optional;ILjava/util/Optional;Ljava/util/Optional;)V"⟩ : MethodName)) rfl hown (mvT hZ (hw _ (List.mem_of_getElem? (i := 98) rfl))) (mvT hZ (hw _ (List.mem_of_getElem? (i := 56) rfl))) (mvT hZ (hw _ (List.mem_of_getElem? (i := 57) rfl))) (by decide) (backOf (W := 1) (rm10 l Z a0 hw [] g st da n la cs h_7 n0 z_8 f_10 f_11 f_12 f_13 f_14 f_15 g_g) hZ (hw _ (List.mem_of_getElem? (i := 57) rfl)) (hw _ (List.mem_of_getElem? (i := 54) rfl)) (by decide) (by decide)) (g := (mkF m 36 #[.val (.ref st), .val (.ref da), .val (.int n), .val (.ref la), .val (.ref cs)] [(.ref cs), (.ref la), (.int n), (.ref da), (.ref st), (.ref g), (.ref g)])) rfl (by rw [hml]; rfl) (Steps.refl _) (a := g) (argsL := [(.ref st), (.ref da), (.int n), (.ref la), (.ref cs)]) (rest := [(.ref g)]) (lenOf pd_7 rfl) rfl (by show 2 * 0 + _ ≤ _; exact Nat.le_of_eq rfl) (hb hby d15_36) (fun _ _ => ⟨rfl, e_7, (by decide : 1 + 0 ≤ _), (by decide : 5 + 0 ≤ _)⟩)
    dsimp only [Pt.U, Pt.locs, Pt.cells, Pt.slots] at X_17 l_17 y_17 z_17 st_17 hQ_17
    subst l_17 y_17 z_17
    obtain ⟨rfl, Nq_17, Kq_17, b0⟩ := hQ_17
    have N_18 := Fr.app N_3 Nq_17
    have pre_17 : Rch p.tables e below (s₁.setTop (entryFrame m #[(.ref st), (.ref da), (.int n), (.ref la), (.ref cs)] 5)) (T_17.setTop (mkF m 39 #[.val (.ref st), .val (.ref da), .val (.int n), .val (.ref la), .val (.ref cs)] [(.ref g)])) := fun tgt ktg => pre_16 tgt (st_17.trans ktg)
    have z_19 : n0 ≤ T_17.heap.size := Nat.le_trans z_8 Kq_17.1
    have K_20 : Keep h0 T_17.heap [] := K_9.trans Kq_17 (allS (P := fun x => x ∈ ([] : List Addr) ∨ h0.size ≤ x) (Or.inr sz_g) (all0 (P := fun x => x ∈ ([] : List Addr) ∨ h0.size ≤ x)))
    obtain ⟨fs, hr, hrun, hended, hW, hsame⟩ := X_17.leave (v := some (.ref g)) (fun h => by rw [Bd.returns] at h; cases h)
    refine ⟨_, _, pre_17 _ ?_, hrun, hended, _, _, rfl, ?_, ⟨_, rfl⟩, hW, hsame.mono (by decide) (by decide)⟩
    · show Steps p.tables e below (T_17.setTop (mkF m 39 #[.val (.ref st), .val (.ref da), .val (.int n), .val (.ref la), .val (.ref cs)] [(.ref g)])) _
      jvm_step X_17.here [X_17.here.top, hx, (hb hby d15_39), X_17.method', Bd.returns, Value.isRef, FieldType.isReference]
      first | (intro acts; rw [hr _ acts rfl rfl rfl]) | rw [hr _ _ rfl rfl rfl]
      exact Steps.refl _
    · show Q15 Z st da n la cs pa em pd pc h0 n0 _ T_17.heap _
      exact ⟨g, cs, rfl, N_18, K_20, b0.1, O2.keep K_20 nin0⟩
  · skip
    have pre_21 : Rch p.tables e below (s₁.setTop (entryFrame m #[(.ref st), (.ref da), (.int n), (.ref la), (.ref cs)] 5)) (T_2.setTop (mkF m 7 #[.val (.ref st), .val (.ref da), .val (.int n), .val (.ref la), .val (.ref cs)] [])) := fun tgt ktg => pre_4 tgt (by
      show Steps p.tables e below (T_2.setTop (mkF m 4 #[.val (.ref st), .val (.ref da), .val (.int n), .val (.ref la), .val (.ref cs)] [(.int de)])) _
      refine XS.ifNo X_2.here hx rfl (hb hby d15_4) rfl ((if0 _ _).trans (feq c_5).1) ?_
      exact ktg)
    have pre_22 : Rch p.tables e below (s₁.setTop (entryFrame m #[(.ref st), (.ref da), (.int n), (.ref la), (.ref cs)] 5)) (T_2.setTop (mkF m 8 #[.val (.ref st), .val (.ref da), .val (.int n), .val (.ref la), .val (.ref cs)] [(.int n)])) := fun tgt ktg => pre_21 tgt (by
      show Steps p.tables e below (T_2.setTop (mkF m 7 #[.val (.ref st), .val (.ref da), .val (.int n), .val (.ref la), .val (.ref cs)] [])) _
      refine XS.iloadN X_2.here hx rfl (hb hby d15_7) rfl ?_
      exact ktg)
    by_cases c_23 : n = (0 : Int32)
    · skip
      have pre_24 : Rch p.tables e below (s₁.setTop (entryFrame m #[(.ref st), (.ref da), (.int n), (.ref la), (.ref cs)] 5)) (T_2.setTop (mkF m 11 #[.val (.ref st), .val (.ref da), .val (.int n), .val (.ref la), .val (.ref cs)] [])) := fun tgt ktg => pre_22 tgt (by
        show Steps p.tables e below (T_2.setTop (mkF m 8 #[.val (.ref st), .val (.ref da), .val (.int n), .val (.ref la), .val (.ref cs)] [(.int n)])) _
        refine XS.ifNo X_2.here hx rfl (hb hby d15_8) rfl ((if0 _ _).trans (teq c_23).2) ?_
        exact ktg)
      have pre_25 : Rch p.tables e below (s₁.setTop (entryFrame m #[(.ref st), (.ref da), (.int n), (.ref la), (.ref cs)] 5)) (T_2.setTop (mkF m 13 #[.val (.ref st), .val (.ref da), .val (.int n), .val (.ref la), .val (.ref cs)] [(.ref cs)])) := fun tgt ktg => pre_24 tgt (by
        show Steps p.tables e below (T_2.setTop (mkF m 11 #[.val (.ref st), .val (.ref da), .val (.int n), .val (.ref la), .val (.ref cs)] [])) _
        refine XS.aload X_2.here hx rfl (hb hby d15_11) rfl rfl ?_
        exact ktg)
      obtain ⟨cq_26, kq_26, q_26a, q_26b, q_26c⟩ := isOf hZ eh_2 O2.1
      obtain ⟨_, _, ⟨T_26, L_26, k_26, n_26⟩, -, X_26, ⟨Lc_26, hQ_26, l_26, y_26, z_26⟩, st_26⟩ := X_2.virtualBack hx (y := (⟨"java/util/Optional", "isEmpty", "()Z"⟩ : MethodName)) (z := (⟨"java/util/Optional", "isEmpty", "()Z"⟩ : MethodName)) hown (mvT hZ (hw _ (List.mem_of_getElem? (i := 92) rfl))) (mvT hZ (hw _ (List.mem_of_getElem? (i := 93) rfl))) (notFace_of_selects (args := #[]) (mvT hZ (hw _ (List.mem_of_getElem? (i := 95) rfl)))) (mvT hZ (hw _ (List.mem_of_getElem? (i := 95) rfl))) (mvT hZ (hw _ (List.mem_of_getElem? (i := 94) rfl))) (by decide) (backOf (W := 0) (rm16 l Z a0 hw [] cs pc h0 n0 Z0 O2) hZ (hw _ (List.mem_of_getElem? (i := 96) rfl)) (hw _ (List.mem_of_getElem? (i := 10) rfl)) (by decide) (by decide)) q_26a q_26c (g := (mkF m 13 #[.val (.ref st), .val (.ref da), .val (.int n), .val (.ref la), .val (.ref cs)] [(.ref cs)])) rfl (by rw [hml]; rfl) (Steps.refl _) (argsL := []) (rest := []) (lenOf pd_5 rfl) rfl (by show 2 * 0 + _ ≤ _; exact Nat.le_of_eq rfl) (hb hby d15_13) (fun _ _ => ⟨rfl, eh_2, (by decide : 0 + 0 ≤ _), (by decide : 0 + 0 ≤ _)⟩)
      dsimp only [Pt.U, Pt.locs, Pt.cells, Pt.slots] at X_26 l_26 y_26 z_26 st_26 hQ_26
      subst l_26 y_26 z_26
      obtain ⟨rfl, Nq_26, eh_26⟩ := hQ_26
      have N_27 := Fr.app N_3 Nq_26
      have pre_26 : Rch p.tables e below (s₁.setTop (entryFrame m #[(.ref st), (.ref da), (.int n), (.ref la), (.ref cs)] 5)) (T_26.setTop (mkF m 16 #[.val (.ref st), .val (.ref da), .val (.int n), .val (.ref la), .val (.ref cs)] [(.int (if pc = 0 then 1 else 0))])) := fun tgt ktg => pre_25 tgt (st_26.trans ktg)
      obtain ⟨ce, hv_ce⟩ : ∃ nm_ : Int32, nm_ = (if pc = 0 then 1 else 0) := ⟨_, rfl⟩
      have pre_28 : Rch p.tables e below (s₁.setTop (entryFrame m #[(.ref st), (.ref da), (.int n), (.ref la), (.ref cs)] 5)) (T_26.setTop (mkF m 16 #[.val (.ref st), .val (.ref da), .val (.int n), .val (.ref la), .val (.ref cs)] [(.int ce)])) := fun tgt ktg => pre_26 tgt (by rw [hv_ce] at ktg; exact ktg)
      by_cases c_29 : ce = (0 : Int32)
      · skip
        have pre_30 : Rch p.tables e below (s₁.setTop (entryFrame m #[(.ref st), (.ref da), (.int n), (.ref la), (.ref cs)] 5)) (T_26.setTop (mkF m 26 #[.val (.ref st), .val (.ref da), .val (.int n), .val (.ref la), .val (.ref cs)] [])) := fun tgt ktg => pre_28 tgt (by
          show Steps p.tables e below (T_26.setTop (mkF m 16 #[.val (.ref st), .val (.ref da), .val (.int n), .val (.ref la), .val (.ref cs)] [(.int ce)])) _
          refine XS.ifYes X_26.here hx rfl (pc0 := 16) (pc' := 26) rfl (hb hby d15_16) rfl ((if0 _ _).trans (teq c_29).1) (by decide) (by decide) ?_
          exact ktg)
        obtain ⟨T_31, h_31, X_31, e_31, E_31, A_31, D_31, U_31, st_31⟩ := newO X_26 hx hZ hown (hw _ (List.mem_of_getElem? (i := 97) rfl)) (hw _ (List.mem_of_getElem? (i := 53) rfl)) (hw _ (List.mem_of_getElem? (i := 54) rfl)) eh_26 (g := (mkF m 26 #[.val (.ref st), .val (.ref da), .val (.int n), .val (.ref la), .val (.ref cs)] [])) rfl (hb hby d15_26) (by decide) (by decide)
        obtain ⟨g, g_31⟩ : ∃ nm_, nm_ = h0.size := ⟨_, rfl⟩
        rw [← g_31] at A_31 D_31 U_31 st_31
        have g_g : n0 ≤ g := Nat.le_trans Z0 (Nat.le_of_eq g_31.symm)
        have sz_g : h0.size ≤ g := Nat.le_trans K0.1 (Nat.le_of_eq g_31.symm)
        have pre_31 : Rch p.tables e below (s₁.setTop (entryFrame m #[(.ref st), (.ref da), (.int n), (.ref la), (.ref cs)] 5)) (T_31.setTop (mkF m 29 #[.val (.ref st), .val (.ref da), .val (.int n), .val (.ref la), .val (.ref cs)] [(.ref g)])) := fun tgt ktg => pre_30 tgt (st_31 tgt ktg)
        have z_32 : n0 ≤ h_31.size := Nat.le_trans Z0 E_31.1
        have K_33 : Keep h0 h_31 [] := K0.ext E_31
        have f_34 : Exa Z h_31 g "com/example/subjectline/subjectline/server/Progress" := A_31
        have f_35 : Fld Z h_31 g "com/example/subjectline/subjectline/server/Progress" "status" "Lcom/example/subjectline/subjectline/server/Status;" .null := D_31 (Or.inr (hw _ (List.mem_of_getElem? (i := 65) rfl))) (ty := (.object "com/example/subjectline/subjectline/server/Status")) (by decide)
        have f_36 : Fld Z h_31 g "com/example/subjectline/subjectline/server/Progress" "data" "Ljava/util/Optional;" .null := D_31 (Or.inr (hw _ (List.mem_of_getElem? (i := 67) rfl))) (ty := (.object "java/util/Optional")) (by decide)
        have f_37 : Fld Z h_31 g "com/example/subjectline/subjectline/server/Progress" "undeliveredCallbacks" "I" (.int (0 : Int32)) := D_31 (Or.inr (hw _ (List.mem_of_getElem? (i := 69) rfl))) (ty := .int) (by decide)
        have f_38 : Fld Z h_31 g "com/example/subjectline/subjectline/server/Progress" "lastUndeliveredAt" "Ljava/util/Optional;" .null := D_31 (Or.inr (hw _ (List.mem_of_getElem? (i := 71) rfl))) (ty := (.object "java/util/Optional")) (by decide)
        have f_39 : Fld Z h_31 g "com/example/subjectline/subjectline/server/Progress" "callingSince" "Ljava/util/Optional;" .null := D_31 (Or.inr (hw _ (List.mem_of_getElem? (i := 73) rfl))) (ty := (.object "java/util/Optional")) (by decide)
        have pre_40 : Rch p.tables e below (s₁.setTop (entryFrame m #[(.ref st), (.ref da), (.int n), (.ref la), (.ref cs)] 5)) (T_31.setTop (mkF m 36 #[.val (.ref st), .val (.ref da), .val (.int n), .val (.ref la), .val (.ref cs)] [(.ref cs), (.ref la), (.int n), (.ref da), (.ref st), (.ref g), (.ref g)])) := fun tgt ktg => pre_31 tgt (by
          show Steps p.tables e below (T_31.setTop (mkF m 29 #[.val (.ref st), .val (.ref da), .val (.int n), .val (.ref la), .val (.ref cs)] [(.ref g)])) _
          refine XS.dup X_31.here hx rfl (hb hby d15_29) rfl rfl ?_
          show Steps p.tables e below (T_31.setTop (mkF m 30 #[.val (.ref st), .val (.ref da), .val (.int n), .val (.ref la), .val (.ref cs)] [(.ref g), (.ref g)])) _
          refine XS.aloadN X_31.here hx rfl (hb hby d15_30) rfl rfl ?_
          show Steps p.tables e below (T_31.setTop (mkF m 31 #[.val (.ref st), .val (.ref da), .val (.int n), .val (.ref la), .val (.ref cs)] [(.ref st), (.ref g), (.ref g)])) _
          refine XS.aloadN X_31.here hx rfl (hb hby d15_31) rfl rfl ?_
          show Steps p.tables e below (T_31.setTop (mkF m 32 #[.val (.ref st), .val (.ref da), .val (.int n), .val (.ref la), .val (.ref cs)] [(.ref da), (.ref st), (.ref g), (.ref g)])) _
          refine XS.iloadN X_31.here hx rfl (hb hby d15_32) rfl ?_
          show Steps p.tables e below (T_31.setTop (mkF m 33 #[.val (.ref st), .val (.ref da), .val (.int n), .val (.ref la), .val (.ref cs)] [(.int n), (.ref da), (.ref st), (.ref g), (.ref g)])) _
          refine XS.aloadN X_31.here hx rfl (hb hby d15_33) rfl rfl ?_
          show Steps p.tables e below (T_31.setTop (mkF m 34 #[.val (.ref st), .val (.ref da), .val (.int n), .val (.ref la), .val (.ref cs)] [(.ref la), (.int n), (.ref da), (.ref st), (.ref g), (.ref g)])) _
          refine XS.aload X_31.here hx rfl (hb hby d15_34) rfl rfl ?_
          exact ktg)
        obtain ⟨_, _, ⟨T_41, L_41, k_41, n_41⟩, -, X_41, ⟨Lc_41, hQ_41, l_41, y_41, z_41⟩, st_41⟩ := X_31.specialBack hx (y := (⟨"com/example/subjectline/subjectline/server/Progress", "<init>", "(Lcom/example/subjectline/subjectline/server/Status;Ljava/util/Optional;ILjava/util/Optional;Ljava/util/Optional;)V"⟩ : MethodName)) rfl hown (mvT hZ (hw _ (List.mem_of_getElem? (i := 98) rfl))) (mvT hZ (hw _ (List.mem_of_getElem? (i := 56) rfl))) (mvT hZ (hw _ (List.mem_of_getElem? (i := 57) rfl))) (by decide) (backOf (W := 1) (rm10 l Z a0 hw [] g st da n la cs h_31 n0 z_32 f_34 f_35 f_36 f_37 f_38 f_39 g_g) hZ (hw _ (List.mem_of_getElem? (i := 57) rfl)) (hw _ (List.mem_of_getElem? (i := 54) rfl)) (by decide) (by decide)) (g := (mkF m 36 #[.val (.ref st), .val (.ref da), .val (.int n), .val (.ref la), .val (.ref cs)] [(.ref cs), (.ref la), (.int n), (.ref da), (.ref st), (.ref g), (.ref g)])) rfl (by rw [hml]; rfl) (Steps.refl _) (a := g) (argsL := [(.ref st), (.ref da), (.int n), (.ref la), (.ref cs)]) (rest := [(.ref g)]) (lenOf pd_7 rfl) rfl (by show 2 * 0 + _ ≤ _; exact Nat.le_of_eq rfl) (hb hby d15_36) (fun _ _ => ⟨rfl, e_31, (by decide : 1 + 0 ≤ _), (by decide : 5 + 0 ≤ _)⟩)
        dsimp only [Pt.U, Pt.locs, Pt.cells, Pt.slots] at X_41 l_41 y_41 z_41 st_41 hQ_41
        subst l_41 y_41 z_41
        obtain ⟨rfl, Nq_41, Kq_41, b0⟩ := hQ_41
        have N_42 := Fr.app N_27 Nq_41
        have pre_41 : Rch p.tables e below (s₁.setTop (entryFrame m #[(.ref st), (.ref da), (.int n), (.ref la), (.ref cs)] 5)) (T_41.setTop (mkF m 39 #[.val (.ref st), .val (.ref da), .val (.int n), .val (.ref la), .val (.ref cs)] [(.ref g)])) := fun tgt ktg => pre_40 tgt (st_41.trans ktg)
        have z_43 : n0 ≤ T_41.heap.size := Nat.le_trans z_32 Kq_41.1
        have K_44 : Keep h0 T_41.heap [] := K_33.trans Kq_41 (allS (P := fun x => x ∈ ([] : List Addr) ∨ h0.size ≤ x) (Or.inr sz_g) (all0 (P := fun x => x ∈ ([] : List Addr) ∨ h0.size ≤ x)))
        obtain ⟨fs, hr, hrun, hended, hW, hsame⟩ := X_41.leave (v := some (.ref g)) (fun h => by rw [Bd.returns] at h; cases h)
        refine ⟨_, _, pre_41 _ ?_, hrun, hended, _, _, rfl, ?_, ⟨_, rfl⟩, hW, hsame.mono (by decide) (by decide)⟩
        · show Steps p.tables e below (T_41.setTop (mkF m 39 #[.val (.ref st), .val (.ref da), .val (.int n), .val (.ref la), .val (.ref cs)] [(.ref g)])) _
          jvm_step X_41.here [X_41.here.top, hx, (hb hby d15_39), X_41.method', Bd.returns, Value.isRef, FieldType.isReference]
          first | (intro acts; rw [hr _ acts rfl rfl rfl]) | rw [hr _ _ rfl rfl rfl]
          exact Steps.refl _
        · show Q15 Z st da n la cs pa em pd pc h0 n0 _ T_41.heap _
          exact ⟨g, cs, rfl, N_42, K_44, b0.1, O2.keep K_44 nin0⟩
      · skip
        have pre_45 : Rch p.tables e below (s₁.setTop (entryFrame m #[(.ref st), (.ref da), (.int n), (.ref la), (.ref cs)] 5)) (T_26.setTop (mkF m 19 #[.val (.ref st), .val (.ref da), .val (.int n), .val (.ref la), .val (.ref cs)] [])) := fun tgt ktg => pre_28 tgt (by
          show Steps p.tables e below (T_26.setTop (mkF m 16 #[.val (.ref st), .val (.ref da), .val (.int n), .val (.ref la), .val (.ref cs)] [(.int ce)])) _
          refine XS.ifNo X_26.here hx rfl (hb hby d15_16) rfl ((if0 _ _).trans (feq c_29).1) ?_
          exact ktg)
        have pre_46 : Rch p.tables e below (s₁.setTop (entryFrame m #[(.ref st), (.ref da), (.int n), (.ref la), (.ref cs)] 5)) (T_26.setTop (mkF m 20 #[.val (.ref st), .val (.ref da), .val (.int n), .val (.ref la), .val (.ref cs)] [(.ref st)])) := fun tgt ktg => pre_45 tgt (by
          show Steps p.tables e below (T_26.setTop (mkF m 19 #[.val (.ref st), .val (.ref da), .val (.int n), .val (.ref la), .val (.ref cs)] [])) _
          refine XS.aloadN X_26.here hx rfl (hb hby d15_19) rfl rfl ?_
          exact ktg)
        have pz : pc = 0 := O2.pr.resolve_right (fun q => c_29 (by rw [hv_ce, q]; rfl))
        obtain ⟨_, _, ⟨T_47, L_47, k_47, n_47⟩, -, X_47, ⟨Lc_47, hQ_47, l_47, y_47, z_47⟩, st_47⟩ := Jvm.LawKit.callS X_26 hx (y := (⟨"com/example/subjectline/subjectline/server/Progress", "plain", "(Lcom/example/subjectline/subjectline/server/Status;)Lcom/example/subjectline/subjectline/server/Progress;"⟩ : MethodName)) hown (mvT hZ (hw _ (List.mem_of_getElem? (i := 138) rfl))) (mvT hZ (hw _ (List.mem_of_getElem? (i := 139) rfl))) (mvT hZ (hw _ (List.mem_of_getElem? (i := 54) rfl))) (mvT hZ (hw _ (List.mem_of_getElem? (i := 140) rfl))) (by decide) (backOf (W := 0) (rm22 l Z a0 hw [] st pa em h0 n0 Z0 S1) hZ (hw _ (List.mem_of_getElem? (i := 140) rfl)) (hw _ (List.mem_of_getElem? (i := 54) rfl)) (by decide) (by decide)) (g := (mkF m 20 #[.val (.ref st), .val (.ref da), .val (.int n), .val (.ref la), .val (.ref cs)] [(.ref st)])) rfl (by rw [hml]; rfl) (argsL := [(.ref st)]) (rest := []) (lenOf pd_8 rfl) rfl (by show 2 * 0 + _ ≤ _; exact Nat.le_of_eq rfl) (hb hby d15_20) (fun _ _ => ⟨rfl, eh_26, (by decide : 0 + 0 ≤ _), (by decide : 0 + 0 ≤ _)⟩)
        dsimp only [Pt.U, Pt.locs, Pt.cells, Pt.slots] at X_47 l_47 y_47 z_47 st_47 hQ_47
        subst l_47 y_47 z_47
        obtain ⟨g, cs1, rfl, Nq_47, Kq_47, b0, b1⟩ := hQ_47
        have N_48 := Fr.app N_27 Nq_47
        have pre_47 : Rch p.tables e below (s₁.setTop (entryFrame m #[(.ref st), (.ref da), (.int n), (.ref la), (.ref cs)] 5)) (T_47.setTop (mkF m 23 #[.val (.ref st), .val (.ref da), .val (.int n), .val (.ref la), .val (.ref cs)] [(.ref g)])) := fun tgt ktg => pre_46 tgt (st_47 tgt ktg)
        have f_49 : Exa Z T_47.heap da "java/util/Optional" := O1.1.keep Kq_47
        have f_50 : Exa Z T_47.heap cs "java/util/Optional" := O2.1.keep Kq_47
        have z_51 : n0 ≤ T_47.heap.size := Nat.le_trans Z0 Kq_47.1
        have K_52 : Keep h0 T_47.heap [] := K0.trans Kq_47 (all0 (P := fun x => x ∈ ([] : List Addr) ∨ h0.size ≤ x))
        have pre_53 : Rch p.tables e below (s₁.setTop (entryFrame m #[(.ref st), (.ref da), (.int n), (.ref la), (.ref cs)] 5)) (T_47.setTop (mkF m 39 #[.val (.ref st), .val (.ref da), .val (.int n), .val (.ref la), .val (.ref cs)] [(.ref g)])) := fun tgt ktg => pre_47 tgt (by
          show Steps p.tables e below (T_47.setTop (mkF m 23 #[.val (.ref st), .val (.ref da), .val (.int n), .val (.ref la), .val (.ref cs)] [(.ref g)])) _
          refine XS.goto X_47.here hx rfl (pc0 := 23) (pc' := 39) rfl (hb hby d15_23) (by decide) (by decide) ?_
          exact ktg)
        obtain ⟨fs, hr, hrun, hended, hW, hsame⟩ := X_47.leave (v := some (.ref g)) (fun h => by rw [Bd.returns] at h; cases h)
        refine ⟨_, _, pre_53 _ ?_, hrun, hended, _, _, rfl, ?_, ⟨_, rfl⟩, hW, hsame.mono (by decide) (by decide)⟩
        · show Steps p.tables e below (T_47.setTop (mkF m 39 #[.val (.ref st), .val (.ref da), .val (.int n), .val (.ref la), .val (.ref cs)] [(.ref g)])) _
          jvm_step X_47.here [X_47.here.top, hx, (hb hby d15_39), X_47.method', Bd.returns, Value.isRef, FieldType.isReference]
          first | (intro acts; rw [hr _ acts rfl rfl rfl]) | rw [hr _ _ rfl rfl rfl]
          exact Steps.refl _
        · show Q15 Z st da n la cs pa em pd pc h0 n0 _ T_47.heap _
          exact ⟨g, cs1, rfl, N_48, K_52, by rw [c_23]; exact b0, by rw [pz]; exact b1⟩
    · skip
      have pre_54 : Rch p.tables e below (s₁.setTop (entryFrame m #[(.ref st), (.ref da), (.int n), (.ref la), (.ref cs)] 5)) (T_2.setTop (mkF m 26 #[.val (.ref st), .val (.ref da), .val (.int n), .val (.ref la), .val (.ref cs)] [])) := fun tgt ktg => pre_22 tgt (by
        show Steps p.tables e below (T_2.setTop (mkF m 8 #[.val (.ref st), .val (.ref da), .val (.int n), .val (.ref la), .val (.ref cs)] [(.int n)])) _
        refine XS.ifYes X_2.here hx rfl (pc0 := 8) (pc' := 26) rfl (hb hby d15_8) rfl ((if0 _ _).trans (feq c_23).2) (by decide) (by decide) ?_
        exact ktg)
      obtain ⟨T_55, h_55, X_55, e_55, E_55, A_55, D_55, U_55, st_55⟩ := newO X_2 hx hZ hown (hw _ (List.mem_of_getElem? (i := 97) rfl)) (hw _ (List.mem_of_getElem? (i := 53) rfl)) (hw _ (List.mem_of_getElem? (i := 54) rfl)) eh_2 (g := (mkF m 26 #[.val (.ref st), .val (.ref da), .val (.int n), .val (.ref la), .val (.ref cs)] [])) rfl (hb hby d15_26) (by decide) (by decide)
      obtain ⟨g, g_55⟩ : ∃ nm_, nm_ = h0.size := ⟨_, rfl⟩
      rw [← g_55] at A_55 D_55 U_55 st_55
      have g_g : n0 ≤ g := Nat.le_trans Z0 (Nat.le_of_eq g_55.symm)
      have sz_g : h0.size ≤ g := Nat.le_trans K0.1 (Nat.le_of_eq g_55.symm)
      have pre_55 : Rch p.tables e below (s₁.setTop (entryFrame m #[(.ref st), (.ref da), (.int n), (.ref la), (.ref cs)] 5)) (T_55.setTop (mkF m 29 #[.val (.ref st), .val (.ref da), .val (.int n), .val (.ref la), .val (.ref cs)] [(.ref g)])) := fun tgt ktg => pre_54 tgt (st_55 tgt ktg)
      have z_56 : n0 ≤ h_55.size := Nat.le_trans Z0 E_55.1
      have K_57 : Keep h0 h_55 [] := K0.ext E_55
      have f_58 : Exa Z h_55 g "com/example/subjectline/subjectline/server/Progress" := A_55
      have f_59 : Fld Z h_55 g "com/example/subjectline/subjectline/server/Progress" "status" "Lcom/example/subjectline/subjectline/server/Status;" .null := D_55 (Or.inr (hw _ (List.mem_of_getElem? (i := 65) rfl))) (ty := (.object "com/example/subjectline/subjectline/server/Status")) (by decide)
      have f_60 : Fld Z h_55 g "com/example/subjectline/subjectline/server/Progress" "data" "Ljava/util/Optional;" .null := D_55 (Or.inr (hw _ (List.mem_of_getElem? (i := 67) rfl))) (ty := (.object "java/util/Optional")) (by decide)
      have f_61 : Fld Z h_55 g "com/example/subjectline/subjectline/server/Progress" "undeliveredCallbacks" "I" (.int (0 : Int32)) := D_55 (Or.inr (hw _ (List.mem_of_getElem? (i := 69) rfl))) (ty := .int) (by decide)
      have f_62 : Fld Z h_55 g "com/example/subjectline/subjectline/server/Progress" "lastUndeliveredAt" "Ljava/util/Optional;" .null := D_55 (Or.inr (hw _ (List.mem_of_getElem? (i := 71) rfl))) (ty := (.object "java/util/Optional")) (by decide)
      have f_63 : Fld Z h_55 g "com/example/subjectline/subjectline/server/Progress" "callingSince" "Ljava/util/Optional;" .null := D_55 (Or.inr (hw _ (List.mem_of_getElem? (i := 73) rfl))) (ty := (.object "java/util/Optional")) (by decide)
      have pre_64 : Rch p.tables e below (s₁.setTop (entryFrame m #[(.ref st), (.ref da), (.int n), (.ref la), (.ref cs)] 5)) (T_55.setTop (mkF m 36 #[.val (.ref st), .val (.ref da), .val (.int n), .val (.ref la), .val (.ref cs)] [(.ref cs), (.ref la), (.int n), (.ref da), (.ref st), (.ref g), (.ref g)])) := fun tgt ktg => pre_55 tgt (by
        show Steps p.tables e below (T_55.setTop (mkF m 29 #[.val (.ref st), .val (.ref da), .val (.int n), .val (.ref la), .val (.ref cs)] [(.ref g)])) _
        refine XS.dup X_55.here hx rfl (hb hby d15_29) rfl rfl ?_
        show Steps p.tables e below (T_55.setTop (mkF m 30 #[.val (.ref st), .val (.ref da), .val (.int n), .val (.ref la), .val (.ref cs)] [(.ref g), (.ref g)])) _
        refine XS.aloadN X_55.here hx rfl (hb hby d15_30) rfl rfl ?_
        show Steps p.tables e below (T_55.setTop (mkF m 31 #[.val (.ref st), .val (.ref da), .val (.int n), .val (.ref la), .val (.ref cs)] [(.ref st), (.ref g), (.ref g)])) _
        refine XS.aloadN X_55.here hx rfl (hb hby d15_31) rfl rfl ?_
        show Steps p.tables e below (T_55.setTop (mkF m 32 #[.val (.ref st), .val (.ref da), .val (.int n), .val (.ref la), .val (.ref cs)] [(.ref da), (.ref st), (.ref g), (.ref g)])) _
        refine XS.iloadN X_55.here hx rfl (hb hby d15_32) rfl ?_
        show Steps p.tables e below (T_55.setTop (mkF m 33 #[.val (.ref st), .val (.ref da), .val (.int n), .val (.ref la), .val (.ref cs)] [(.int n), (.ref da), (.ref st), (.ref g), (.ref g)])) _
        refine XS.aloadN X_55.here hx rfl (hb hby d15_33) rfl rfl ?_
        show Steps p.tables e below (T_55.setTop (mkF m 34 #[.val (.ref st), .val (.ref da), .val (.int n), .val (.ref la), .val (.ref cs)] [(.ref la), (.int n), (.ref da), (.ref st), (.ref g), (.ref g)])) _
        refine XS.aload X_55.here hx rfl (hb hby d15_34) rfl rfl ?_
        exact ktg)
      obtain ⟨_, _, ⟨T_65, L_65, k_65, n_65⟩, -, X_65, ⟨Lc_65, hQ_65, l_65, y_65, z_65⟩, st_65⟩ := X_55.specialBack hx (y := (⟨"com/example/subjectline/subjectline/server/Progress", "<init>", "(Lcom/example/subjectline/subjectline/server/Status;Ljava/util/Optional;ILjava/util/Optional;Ljava/util/Optional;)V"⟩ : MethodName)) rfl hown (mvT hZ (hw _ (List.mem_of_getElem? (i := 98) rfl))) (mvT hZ (hw _ (List.mem_of_getElem? (i := 56) rfl))) (mvT hZ (hw _ (List.mem_of_getElem? (i := 57) rfl))) (by decide) (backOf (W := 1) (rm10 l Z a0 hw [] g st da n la cs h_55 n0 z_56 f_58 f_59 f_60 f_61 f_62 f_63 g_g) hZ (hw _ (List.mem_of_getElem? (i := 57) rfl)) (hw _ (List.mem_of_getElem? (i := 54) rfl)) (by decide) (by decide)) (g := (mkF m 36 #[.val (.ref st), .val (.ref da), .val (.int n), .val (.ref la), .val (.ref cs)] [(.ref cs), (.ref la), (.int n), (.ref da), (.ref st), (.ref g), (.ref g)])) rfl (by rw [hml]; rfl) (Steps.refl _) (a := g) (argsL := [(.ref st), (.ref da), (.int n), (.ref la), (.ref cs)]) (rest := [(.ref g)]) (lenOf pd_7 rfl) rfl (by show 2 * 0 + _ ≤ _; exact Nat.le_of_eq rfl) (hb hby d15_36) (fun _ _ => ⟨rfl, e_55, (by decide : 1 + 0 ≤ _), (by decide : 5 + 0 ≤ _)⟩)
      dsimp only [Pt.U, Pt.locs, Pt.cells, Pt.slots] at X_65 l_65 y_65 z_65 st_65 hQ_65
      subst l_65 y_65 z_65
      obtain ⟨rfl, Nq_65, Kq_65, b0⟩ := hQ_65
      have N_66 := Fr.app N_3 Nq_65
      have pre_65 : Rch p.tables e below (s₁.setTop (entryFrame m #[(.ref st), (.ref da), (.int n), (.ref la), (.ref cs)] 5)) (T_65.setTop (mkF m 39 #[.val (.ref st), .val (.ref da), .val (.int n), .val (.ref la), .val (.ref cs)] [(.ref g)])) := fun tgt ktg => pre_64 tgt (st_65.trans ktg)
      have z_67 : n0 ≤ T_65.heap.size := Nat.le_trans z_56 Kq_65.1
      have K_68 : Keep h0 T_65.heap [] := K_57.trans Kq_65 (allS (P := fun x => x ∈ ([] : List Addr) ∨ h0.size ≤ x) (Or.inr sz_g) (all0 (P := fun x => x ∈ ([] : List Addr) ∨ h0.size ≤ x)))
      obtain ⟨fs, hr, hrun, hended, hW, hsame⟩ := X_65.leave (v := some (.ref g)) (fun h => by rw [Bd.returns] at h; cases h)
      refine ⟨_, _, pre_65 _ ?_, hrun, hended, _, _, rfl, ?_, ⟨_, rfl⟩, hW, hsame.mono (by decide) (by decide)⟩
      · show Steps p.tables e below (T_65.setTop (mkF m 39 #[.val (.ref st), .val (.ref da), .val (.int n), .val (.ref la), .val (.ref cs)] [(.ref g)])) _
        jvm_step X_65.here [X_65.here.top, hx, (hb hby d15_39), X_65.method', Bd.returns, Value.isRef, FieldType.isReference]
        first | (intro acts; rw [hr _ acts rfl rfl rfl]) | rw [hr _ _ rfl rfl rfl]
        exact Steps.refl _
      · show Q15 Z st da n la cs pa em pd pc h0 n0 _ T_65.heap _
        exact ⟨g, cs, rfl, N_66, K_68, b0.1, O2.keep K_68 nin0⟩
theorem d14_0 : decode prog_50_method_5_code 0 = .ok (.aload_n 0, 1) := by decide +kernel
theorem d14_1 : decode prog_50_method_5_code 1 = .ok (.getfield 24, 3) := by decide +kernel
theorem d14_4 : decode prog_50_method_5_code 4 = .ok (.invokevirtual 41, 3) := by decide +kernel
theorem d14_7 : decode prog_50_method_5_code 7 = .ok (.ifCond .eq 28, 3) := by decide +kernel
theorem d14_35 : decode prog_50_method_5_code 35 = .ok (.aload_n 0, 1) := by decide +kernel
theorem d14_36 : decode prog_50_method_5_code 36 = .ok (.getfield 7, 3) := by decide +kernel
theorem d14_39 : decode prog_50_method_5_code 39 = .ok (.aload_n 0, 1) := by decide +kernel
theorem d14_40 : decode prog_50_method_5_code 40 = .ok (.getfield 13, 3) := by decide +kernel
theorem d14_43 : decode prog_50_method_5_code 43 = .ok (.aload_n 0, 1) := by decide +kernel
theorem d14_44 : decode prog_50_method_5_code 44 = .ok (.getfield 17, 3) := by decide +kernel
theorem d14_47 : decode prog_50_method_5_code 47 = .ok (.aload_n 0, 1) := by decide +kernel
theorem d14_48 : decode prog_50_method_5_code 48 = .ok (.getfield 21, 3) := by decide +kernel
theorem d14_51 : decode prog_50_method_5_code 51 = .ok (.aload_n 1, 1) := by decide +kernel
theorem d14_52 : decode prog_50_method_5_code 52 = .ok (.invokestatic 37, 3) := by decide +kernel
theorem pd_9 : parseMethodDescriptor "(Lcom/example/subjectline/subjectline/server/Status;Ljava/util/Optional;ILjava/util/Optional;Ljava/util/Optional;)Lcom/example/subjectline/subjectline/server/Progress;" = some ⟨[(.object "com/example/subjectline/subjectline/server/Status"), (.object "java/util/Optional"), .int, (.object "java/util/Optional"), (.object "java/util/Optional")], some (.object "com/example/subjectline/subjectline/server/Progress")⟩ := by decide +kernel
theorem d14_55 : decode prog_50_method_5_code 55 = .ok (.areturn, 1) := by decide +kernel
theorem d14_10 : decode prog_50_method_5_code 10 = .ok (.aload_n 0, 1) := by decide +kernel
theorem d14_11 : decode prog_50_method_5_code 11 = .ok (.getfield 7, 3) := by decide +kernel
theorem d14_14 : decode prog_50_method_5_code 14 = .ok (.aload_n 0, 1) := by decide +kernel
theorem d14_15 : decode prog_50_method_5_code 15 = .ok (.getfield 13, 3) := by decide +kernel
theorem d14_18 : decode prog_50_method_5_code 18 = .ok (.aload_n 0, 1) := by decide +kernel
theorem d14_19 : decode prog_50_method_5_code 19 = .ok (.getfield 17, 3) := by decide +kernel
theorem d14_22 : decode prog_50_method_5_code 22 = .ok (.iconst 1, 1) := by decide +kernel
theorem d14_23 : decode prog_50_method_5_code 23 = .ok (.iadd, 1) := by decide +kernel
theorem d14_24 : decode prog_50_method_5_code 24 = .ok (.aload_n 0, 1) := by decide +kernel
theorem d14_25 : decode prog_50_method_5_code 25 = .ok (.getfield 24, 3) := by decide +kernel
theorem d14_28 : decode prog_50_method_5_code 28 = .ok (.aload_n 1, 1) := by decide +kernel
theorem d14_29 : decode prog_50_method_5_code 29 = .ok (.invokestatic 37, 3) := by decide +kernel
theorem d14_32 : decode prog_50_method_5_code 32 = .ok (.goto 23, 3) := by decide +kernel
theorem ef_14 (m : MethodId) (x0 : Addr) (x1 : Addr) : entryFrame m #[(.ref x0), (.ref x1)] 2 = mkF m 0 #[.val (.ref x0), .val (.ref x1)] [] := by first | (simp [entryFrame, mkF, argsToLocals, Value.category]; done) | rfl
def Q14 (Z : State) (g : Addr) (ar : Addr) (st da la cs pa em : Addr) (n pd pc : Int32) (pz : Int32) (h0 : Heap) (n0 : Nat) (v : Option Value) (h : Heap) (L : List Loc) : Prop := ∃ (g1 cs1 : Addr), v = some (.ref g1) ∧ Fr n0 L ∧ Keep h0 h [] ∧ PrW Z h g1 (n + pc) cs1 ∧ OptS Z h cs1 pz
set_option maxRecDepth 65536 in
set_option maxHeartbeats 40000000 in
theorem rm14 (l : Launch) (Z : State) (a0 : Array Value) (hw : ∀ d ∈ tables_1, d.before a0 Z = true) (ws : List Jvm.Cond) (g : Addr) (ar : Addr) (st da la cs pa em : Addr) (n pd pc : Int32) (pz : Int32) (h0 : Heap) (n0 : Nat) (Z0 : n0 ≤ h0.size) (P1 : PrS Z h0 g st da n la cs) (S1 : StS Z h0 st pa em) (O1 : OptS Z h0 da pd) (O2 : OptS Z h0 cs pc) (O3 : OptS Z h0 ar pz) :
    MetFree l (⟨"com/example/subjectline/subjectline/server/Progress", "calling", "(Ljava/util/Optional;)Lcom/example/subjectline/subjectline/server/Progress;"⟩ : MethodName) (head1 (Jvm.Cond.code (⟨"com/example/subjectline/subjectline/server/Progress", "calling", "(Ljava/util/Optional;)Lcom/example/subjectline/subjectline/server/Progress;"⟩ : MethodName) prog_50_method_5_code 2 (some (.object "com/example/subjectline/subjectline/server/Progress")) :: ws) ({ frames := 4, cells := 1, slots := 5, locals := 60 } : Room)) (fun aA U => aA = #[(.ref g), (.ref ar)] ∧ Z.Warmed39 U.vm ∧ U.heap = h0) (fun _ _ _ _ _ => True) (fun _ U oO U' => ∃ vV LL, oO = .returned vV ∧ Q14 Z g ar st da la cs pa em n pd pc pz h0 n0 vV U'.heap LL ∧ FrameEnd U oO U' LL ({ frames := 4, cells := 1, slots := 5, locals := 60 } : Room).cells ({ frames := 4, cells := 1, slots := 5, locals := 60 } : Room).slots) := by
  refine MetFree.of_bodySF (plainFor_of_name pn_5) hisR ?_
  intro p e s m args below meth c s₁ Bd hml0 hP hK
  obtain ⟨rfl, hZ, hh⟩ := hP
  have hx := Bd.exec
  have hby := Bd.bytes
  have hml : c.maxLocals = 2 := hml0
  have hown : s.vm.findClass "com/example/subjectline/subjectline/server/Progress" = some m.cls := findClass_of_methodNamed Bd.named
  have hnm := (name_of_methodNamed Bd.named Bd.method).1
  have X0 : Stand p l e ({ frames := 4, cells := 1, slots := 5, locals := 60 } : Room) s m #[(.ref g), (.ref ar)] below meth c s₁ [] 0 0 := Stand.of_body Bd
  have e0 : s₁.heap = h0 := by rw [← hh, Bd.state]; rfl
  have N0 := Fr.nil n0
  have K0 : Keep h0 h0 [] := Keep.refl _ _
  have pre0 : Rch p.tables e below (s₁.setTop (entryFrame m #[(.ref g), (.ref ar)] 2)) (s₁.setTop (mkF m 0 #[.val (.ref g), .val (.ref ar)] [])) := fun tgt ktg => castTop (ef_14 m g ar) ktg
  obtain ⟨⟨E1, F1, F2⟩, F3, F4, F5⟩ := P1
  have pre_1 : Rch p.tables e below (s₁.setTop (entryFrame m #[(.ref g), (.ref ar)] 2)) (s₁.setTop (mkF m 1 #[.val (.ref g), .val (.ref ar)] [(.ref g)])) := fun tgt ktg => pre0 tgt (by
    show Steps p.tables e below (s₁.setTop (mkF m 0 #[.val (.ref g), .val (.ref ar)] [])) _
    refine XS.aloadN X0.here hx rfl (hb hby d14_0) rfl rfl ?_
    exact ktg)
  obtain ⟨T_2, X_2, e_2, st_2⟩ := getF X0 hx hZ hown (host := "") (Or.inl (hw _ (List.mem_of_getElem? (i := 72) rfl))) Via.refl e0 F2 (g := (mkF m 1 #[.val (.ref g), .val (.ref ar)] [(.ref g)])) rfl rfl (hb hby d14_1)
  have pre_2 : Rch p.tables e below (s₁.setTop (entryFrame m #[(.ref g), (.ref ar)] 2)) (T_2.setTop (mkF m 4 #[.val (.ref g), .val (.ref ar)] [(.ref cs)])) := fun tgt ktg => pre_1 tgt (st_2 tgt ktg)
  obtain ⟨cq_3, kq_3, q_3a, q_3b, q_3c⟩ := isOf hZ e_2 O2.1
  obtain ⟨_, _, ⟨T_3, L_3, k_3, n_3⟩, -, X_3, ⟨Lc_3, hQ_3, l_3, y_3, z_3⟩, st_3⟩ := X_2.virtualBack hx (y := (⟨"java/util/Optional", "isPresent", "()Z"⟩ : MethodName)) (z := (⟨"java/util/Optional", "isPresent", "()Z"⟩ : MethodName)) hown (mvT hZ (hw _ (List.mem_of_getElem? (i := 79) rfl))) (mvT hZ (hw _ (List.mem_of_getElem? (i := 80) rfl))) (notFace_of_selects (args := #[]) (mvT hZ (hw _ (List.mem_of_getElem? (i := 82) rfl)))) (mvT hZ (hw _ (List.mem_of_getElem? (i := 82) rfl))) (mvT hZ (hw _ (List.mem_of_getElem? (i := 81) rfl))) (by decide) (backOf (W := 0) (rm13 l Z a0 hw [] cs pc h0 n0 Z0 O2) hZ (hw _ (List.mem_of_getElem? (i := 83) rfl)) (hw _ (List.mem_of_getElem? (i := 10) rfl)) (by decide) (by decide)) q_3a q_3c (g := (mkF m 4 #[.val (.ref g), .val (.ref ar)] [(.ref cs)])) rfl (by rw [hml]; rfl) (Steps.refl _) (argsL := []) (rest := []) (lenOf pd_5 rfl) rfl (by show 2 * 0 + _ ≤ _; exact Nat.le_of_eq rfl) (hb hby d14_4) (fun _ _ => ⟨rfl, e_2, (by decide : 0 + 0 ≤ _), (by decide : 0 + 0 ≤ _)⟩)
  dsimp only [Pt.U, Pt.locs, Pt.cells, Pt.slots] at X_3 l_3 y_3 z_3 st_3 hQ_3
  subst l_3 y_3 z_3
  obtain ⟨rfl, Nq_3, eh_3⟩ := hQ_3
  have N_4 := Fr.app N0 Nq_3
  have pre_3 : Rch p.tables e below (s₁.setTop (entryFrame m #[(.ref g), (.ref ar)] 2)) (T_3.setTop (mkF m 7 #[.val (.ref g), .val (.ref ar)] [(.int pc)])) := fun tgt ktg => pre_2 tgt (st_3.trans ktg)
  by_cases c_5 : pc = (0 : Int32)
  · skip
    have pre_6 : Rch p.tables e below (s₁.setTop (entryFrame m #[(.ref g), (.ref ar)] 2)) (T_3.setTop (mkF m 35 #[.val (.ref g), .val (.ref ar)] [])) := fun tgt ktg => pre_3 tgt (by
      show Steps p.tables e below (T_3.setTop (mkF m 7 #[.val (.ref g), .val (.ref ar)] [(.int pc)])) _
      refine XS.ifYes X_3.here hx rfl (pc0 := 7) (pc' := 35) rfl (hb hby d14_7) rfl ((if0 _ _).trans (teq c_5).1) (by decide) (by decide) ?_
      exact ktg)
    have pre_7 : Rch p.tables e below (s₁.setTop (entryFrame m #[(.ref g), (.ref ar)] 2)) (T_3.setTop (mkF m 36 #[.val (.ref g), .val (.ref ar)] [(.ref g)])) := fun tgt ktg => pre_6 tgt (by
      show Steps p.tables e below (T_3.setTop (mkF m 35 #[.val (.ref g), .val (.ref ar)] [])) _
      refine XS.aloadN X_3.here hx rfl (hb hby d14_35) rfl rfl ?_
      exact ktg)
    obtain ⟨T_8, X_8, e_8, st_8⟩ := getF X_3 hx hZ hown (host := "") (Or.inl (hw _ (List.mem_of_getElem? (i := 64) rfl))) Via.refl eh_3 F3 (g := (mkF m 36 #[.val (.ref g), .val (.ref ar)] [(.ref g)])) rfl rfl (hb hby d14_36)
    have pre_8 : Rch p.tables e below (s₁.setTop (entryFrame m #[(.ref g), (.ref ar)] 2)) (T_8.setTop (mkF m 39 #[.val (.ref g), .val (.ref ar)] [(.ref st)])) := fun tgt ktg => pre_7 tgt (st_8 tgt ktg)
    have pre_9 : Rch p.tables e below (s₁.setTop (entryFrame m #[(.ref g), (.ref ar)] 2)) (T_8.setTop (mkF m 40 #[.val (.ref g), .val (.ref ar)] [(.ref g), (.ref st)])) := fun tgt ktg => pre_8 tgt (by
      show Steps p.tables e below (T_8.setTop (mkF m 39 #[.val (.ref g), .val (.ref ar)] [(.ref st)])) _
      refine XS.aloadN X_8.here hx rfl (hb hby d14_39) rfl rfl ?_
      exact ktg)
    obtain ⟨T_10, X_10, e_10, st_10⟩ := getF X_8 hx hZ hown (host := "") (Or.inl (hw _ (List.mem_of_getElem? (i := 66) rfl))) Via.refl e_8 F4 (g := (mkF m 40 #[.val (.ref g), .val (.ref ar)] [(.ref g), (.ref st)])) rfl rfl (hb hby d14_40)
    have pre_10 : Rch p.tables e below (s₁.setTop (entryFrame m #[(.ref g), (.ref ar)] 2)) (T_10.setTop (mkF m 43 #[.val (.ref g), .val (.ref ar)] [(.ref da), (.ref st)])) := fun tgt ktg => pre_9 tgt (st_10 tgt ktg)
    have pre_11 : Rch p.tables e below (s₁.setTop (entryFrame m #[(.ref g), (.ref ar)] 2)) (T_10.setTop (mkF m 44 #[.val (.ref g), .val (.ref ar)] [(.ref g), (.ref da), (.ref st)])) := fun tgt ktg => pre_10 tgt (by
      show Steps p.tables e below (T_10.setTop (mkF m 43 #[.val (.ref g), .val (.ref ar)] [(.ref da), (.ref st)])) _
      refine XS.aloadN X_10.here hx rfl (hb hby d14_43) rfl rfl ?_
      exact ktg)
    obtain ⟨T_12, X_12, e_12, st_12⟩ := getF X_10 hx hZ hown (host := "") (Or.inl (hw _ (List.mem_of_getElem? (i := 68) rfl))) Via.refl e_10 F1 (g := (mkF m 44 #[.val (.ref g), .val (.ref ar)] [(.ref g), (.ref da), (.ref st)])) rfl rfl (hb hby d14_44)
    have pre_12 : Rch p.tables e below (s₁.setTop (entryFrame m #[(.ref g), (.ref ar)] 2)) (T_12.setTop (mkF m 47 #[.val (.ref g), .val (.ref ar)] [(.int n), (.ref da), (.ref st)])) := fun tgt ktg => pre_11 tgt (st_12 tgt ktg)
    have pre_13 : Rch p.tables e below (s₁.setTop (entryFrame m #[(.ref g), (.ref ar)] 2)) (T_12.setTop (mkF m 48 #[.val (.ref g), .val (.ref ar)] [(.ref g), (.int n), (.ref da), (.ref st)])) := fun tgt ktg => pre_12 tgt (by
      show Steps p.tables e below (T_12.setTop (mkF m 47 #[.val (.ref g), .val (.ref ar)] [(.int n), (.ref da), (.ref st)])) _
      refine XS.aloadN X_12.here hx rfl (hb hby d14_47) rfl rfl ?_
      exact ktg)
    obtain ⟨T_14, X_14, e_14, st_14⟩ := getF X_12 hx hZ hown (host := "") (Or.inl (hw _ (List.mem_of_getElem? (i := 70) rfl))) Via.refl e_12 F5 (g := (mkF m 48 #[.val (.ref g), .val (.ref ar)] [(.ref g), (.int n), (.ref da), (.ref st)])) rfl rfl (hb hby d14_48)
    have pre_14 : Rch p.tables e below (s₁.setTop (entryFrame m #[(.ref g), (.ref ar)] 2)) (T_14.setTop (mkF m 51 #[.val (.ref g), .val (.ref ar)] [(.ref la), (.int n), (.ref da), (.ref st)])) := fun tgt ktg => pre_13 tgt (st_14 tgt ktg)
    have pre_15 : Rch p.tables e below (s₁.setTop (entryFrame m #[(.ref g), (.ref ar)] 2)) (T_14.setTop (mkF m 52 #[.val (.ref g), .val (.ref ar)] [(.ref ar), (.ref la), (.int n), (.ref da), (.ref st)])) := fun tgt ktg => pre_14 tgt (by
      show Steps p.tables e below (T_14.setTop (mkF m 51 #[.val (.ref g), .val (.ref ar)] [(.ref la), (.int n), (.ref da), (.ref st)])) _
      refine XS.aloadN X_14.here hx rfl (hb hby d14_51) rfl rfl ?_
      exact ktg)
    obtain ⟨_, _, ⟨T_16, L_16, k_16, n_16⟩, -, X_16, ⟨Lc_16, hQ_16, l_16, y_16, z_16⟩, st_16⟩ := Jvm.LawKit.callS X_14 hx (y := (⟨"com/example/subjectline/subjectline/server/Progress", "of", "(Lcom/example/subjectline/subjectline/server/Status;Ljava/util/Optional;ILjava/util/Optional;Ljava/util/Optional;)Lcom/example/subjectline/subjectline/server/Progress;"⟩ : MethodName)) hown (mvT hZ (hw _ (List.mem_of_getElem? (i := 89) rfl))) (mvT hZ (hw _ (List.mem_of_getElem? (i := 90) rfl))) (mvT hZ (hw _ (List.mem_of_getElem? (i := 54) rfl))) (mvT hZ (hw _ (List.mem_of_getElem? (i := 91) rfl))) (by decide) (backOf (W := 0) (rm15 l Z a0 hw [] st da n la ar pa em pd pz h0 n0 Z0 S1 O1 O3) hZ (hw _ (List.mem_of_getElem? (i := 91) rfl)) (hw _ (List.mem_of_getElem? (i := 54) rfl)) (by decide) (by decide)) (g := (mkF m 52 #[.val (.ref g), .val (.ref ar)] [(.ref ar), (.ref la), (.int n), (.ref da), (.ref st)])) rfl (by rw [hml]; rfl) (argsL := [(.ref st), (.ref da), (.int n), (.ref la), (.ref ar)]) (rest := []) (lenOf pd_9 rfl) rfl (by show 2 * 0 + _ ≤ _; exact Nat.le_of_eq rfl) (hb hby d14_52) (fun _ _ => ⟨rfl, e_14, (by decide : 0 + 1 ≤ _), (by decide : 0 + 5 ≤ _)⟩)
    dsimp only [Pt.U, Pt.locs, Pt.cells, Pt.slots] at X_16 l_16 y_16 z_16 st_16 hQ_16
    subst l_16 y_16 z_16
    obtain ⟨g1, cs1, rfl, Nq_16, Kq_16, b0, b1⟩ := hQ_16
    have N_17 := Fr.app N_4 Nq_16
    have pre_16 : Rch p.tables e below (s₁.setTop (entryFrame m #[(.ref g), (.ref ar)] 2)) (T_16.setTop (mkF m 55 #[.val (.ref g), .val (.ref ar)] [(.ref g1)])) := fun tgt ktg => pre_15 tgt (st_16 tgt ktg)
    have z_18 : n0 ≤ T_16.heap.size := Nat.le_trans Z0 Kq_16.1
    have K_19 : Keep h0 T_16.heap [] := K0.trans Kq_16 (all0 (P := fun x => x ∈ ([] : List Addr) ∨ h0.size ≤ x))
    have en : n = n + pc := by rw [c_5, Int32.add_zero]
    obtain ⟨fs, hr, hrun, hended, hW, hsame⟩ := X_16.leave (v := some (.ref g1)) (fun h => by rw [Bd.returns] at h; cases h)
    refine ⟨_, _, pre_16 _ ?_, hrun, hended, _, _, rfl, ?_, ⟨_, rfl⟩, hW, hsame.mono (by decide) (by decide)⟩
    · show Steps p.tables e below (T_16.setTop (mkF m 55 #[.val (.ref g), .val (.ref ar)] [(.ref g1)])) _
      jvm_step X_16.here [X_16.here.top, hx, (hb hby d14_55), X_16.method', Bd.returns, Value.isRef, FieldType.isReference]
      first | (intro acts; rw [hr _ acts rfl rfl rfl]) | rw [hr _ _ rfl rfl rfl]
      exact Steps.refl _
    · show Q14 Z g ar st da la cs pa em n pd pc pz h0 n0 _ T_16.heap _
      exact ⟨g1, cs1, rfl, N_17, K_19, en ▸ b0, b1⟩
  · skip
    have pre_20 : Rch p.tables e below (s₁.setTop (entryFrame m #[(.ref g), (.ref ar)] 2)) (T_3.setTop (mkF m 10 #[.val (.ref g), .val (.ref ar)] [])) := fun tgt ktg => pre_3 tgt (by
      show Steps p.tables e below (T_3.setTop (mkF m 7 #[.val (.ref g), .val (.ref ar)] [(.int pc)])) _
      refine XS.ifNo X_3.here hx rfl (hb hby d14_7) rfl ((if0 _ _).trans (feq c_5).1) ?_
      exact ktg)
    have pre_21 : Rch p.tables e below (s₁.setTop (entryFrame m #[(.ref g), (.ref ar)] 2)) (T_3.setTop (mkF m 11 #[.val (.ref g), .val (.ref ar)] [(.ref g)])) := fun tgt ktg => pre_20 tgt (by
      show Steps p.tables e below (T_3.setTop (mkF m 10 #[.val (.ref g), .val (.ref ar)] [])) _
      refine XS.aloadN X_3.here hx rfl (hb hby d14_10) rfl rfl ?_
      exact ktg)
    obtain ⟨T_22, X_22, e_22, st_22⟩ := getF X_3 hx hZ hown (host := "") (Or.inl (hw _ (List.mem_of_getElem? (i := 64) rfl))) Via.refl eh_3 F3 (g := (mkF m 11 #[.val (.ref g), .val (.ref ar)] [(.ref g)])) rfl rfl (hb hby d14_11)
    have pre_22 : Rch p.tables e below (s₁.setTop (entryFrame m #[(.ref g), (.ref ar)] 2)) (T_22.setTop (mkF m 14 #[.val (.ref g), .val (.ref ar)] [(.ref st)])) := fun tgt ktg => pre_21 tgt (st_22 tgt ktg)
    have pre_23 : Rch p.tables e below (s₁.setTop (entryFrame m #[(.ref g), (.ref ar)] 2)) (T_22.setTop (mkF m 15 #[.val (.ref g), .val (.ref ar)] [(.ref g), (.ref st)])) := fun tgt ktg => pre_22 tgt (by
      show Steps p.tables e below (T_22.setTop (mkF m 14 #[.val (.ref g), .val (.ref ar)] [(.ref st)])) _
      refine XS.aloadN X_22.here hx rfl (hb hby d14_14) rfl rfl ?_
      exact ktg)
    obtain ⟨T_24, X_24, e_24, st_24⟩ := getF X_22 hx hZ hown (host := "") (Or.inl (hw _ (List.mem_of_getElem? (i := 66) rfl))) Via.refl e_22 F4 (g := (mkF m 15 #[.val (.ref g), .val (.ref ar)] [(.ref g), (.ref st)])) rfl rfl (hb hby d14_15)
    have pre_24 : Rch p.tables e below (s₁.setTop (entryFrame m #[(.ref g), (.ref ar)] 2)) (T_24.setTop (mkF m 18 #[.val (.ref g), .val (.ref ar)] [(.ref da), (.ref st)])) := fun tgt ktg => pre_23 tgt (st_24 tgt ktg)
    have pre_25 : Rch p.tables e below (s₁.setTop (entryFrame m #[(.ref g), (.ref ar)] 2)) (T_24.setTop (mkF m 19 #[.val (.ref g), .val (.ref ar)] [(.ref g), (.ref da), (.ref st)])) := fun tgt ktg => pre_24 tgt (by
      show Steps p.tables e below (T_24.setTop (mkF m 18 #[.val (.ref g), .val (.ref ar)] [(.ref da), (.ref st)])) _
      refine XS.aloadN X_24.here hx rfl (hb hby d14_18) rfl rfl ?_
      exact ktg)
    obtain ⟨T_26, X_26, e_26, st_26⟩ := getF X_24 hx hZ hown (host := "") (Or.inl (hw _ (List.mem_of_getElem? (i := 68) rfl))) Via.refl e_24 F1 (g := (mkF m 19 #[.val (.ref g), .val (.ref ar)] [(.ref g), (.ref da), (.ref st)])) rfl rfl (hb hby d14_19)
    have pre_26 : Rch p.tables e below (s₁.setTop (entryFrame m #[(.ref g), (.ref ar)] 2)) (T_26.setTop (mkF m 22 #[.val (.ref g), .val (.ref ar)] [(.int n), (.ref da), (.ref st)])) := fun tgt ktg => pre_25 tgt (st_26 tgt ktg)
    have pre_27 : Rch p.tables e below (s₁.setTop (entryFrame m #[(.ref g), (.ref ar)] 2)) (T_26.setTop (mkF m 25 #[.val (.ref g), .val (.ref ar)] [(.ref g), (.int (n + (1 : Int32))), (.ref da), (.ref st)])) := fun tgt ktg => pre_26 tgt (by
      show Steps p.tables e below (T_26.setTop (mkF m 22 #[.val (.ref g), .val (.ref ar)] [(.int n), (.ref da), (.ref st)])) _
      refine XS.iconst X_26.here hx rfl (hb hby d14_22) ?_
      show Steps p.tables e below (T_26.setTop (mkF m 23 #[.val (.ref g), .val (.ref ar)] [(.int (1 : Int32)), (.int n), (.ref da), (.ref st)])) _
      refine XS.iadd X_26.here hx rfl (hb hby d14_23) rfl ?_
      show Steps p.tables e below (T_26.setTop (mkF m 24 #[.val (.ref g), .val (.ref ar)] [(.int (n + (1 : Int32))), (.ref da), (.ref st)])) _
      refine XS.aloadN X_26.here hx rfl (hb hby d14_24) rfl rfl ?_
      exact ktg)
    obtain ⟨T_28, X_28, e_28, st_28⟩ := getF X_26 hx hZ hown (host := "") (Or.inl (hw _ (List.mem_of_getElem? (i := 72) rfl))) Via.refl e_26 F2 (g := (mkF m 25 #[.val (.ref g), .val (.ref ar)] [(.ref g), (.int (n + (1 : Int32))), (.ref da), (.ref st)])) rfl rfl (hb hby d14_25)
    have pre_28 : Rch p.tables e below (s₁.setTop (entryFrame m #[(.ref g), (.ref ar)] 2)) (T_28.setTop (mkF m 28 #[.val (.ref g), .val (.ref ar)] [(.ref cs), (.int (n + (1 : Int32))), (.ref da), (.ref st)])) := fun tgt ktg => pre_27 tgt (st_28 tgt ktg)
    have pre_29 : Rch p.tables e below (s₁.setTop (entryFrame m #[(.ref g), (.ref ar)] 2)) (T_28.setTop (mkF m 29 #[.val (.ref g), .val (.ref ar)] [(.ref ar), (.ref cs), (.int (n + (1 : Int32))), (.ref da), (.ref st)])) := fun tgt ktg => pre_28 tgt (by
      show Steps p.tables e below (T_28.setTop (mkF m 28 #[.val (.ref g), .val (.ref ar)] [(.ref cs), (.int (n + (1 : Int32))), (.ref da), (.ref st)])) _
      refine XS.aloadN X_28.here hx rfl (hb hby d14_28) rfl rfl ?_
      exact ktg)
    obtain ⟨_, _, ⟨T_30, L_30, k_30, n_30⟩, -, X_30, ⟨Lc_30, hQ_30, l_30, y_30, z_30⟩, st_30⟩ := Jvm.LawKit.callS X_28 hx (y := (⟨"com/example/subjectline/subjectline/server/Progress", "of", "(Lcom/example/subjectline/subjectline/server/Status;Ljava/util/Optional;ILjava/util/Optional;Ljava/util/Optional;)Lcom/example/subjectline/subjectline/server/Progress;"⟩ : MethodName)) hown (mvT hZ (hw _ (List.mem_of_getElem? (i := 89) rfl))) (mvT hZ (hw _ (List.mem_of_getElem? (i := 90) rfl))) (mvT hZ (hw _ (List.mem_of_getElem? (i := 54) rfl))) (mvT hZ (hw _ (List.mem_of_getElem? (i := 91) rfl))) (by decide) (backOf (W := 0) (rm15 l Z a0 hw [] st da (n + (1 : Int32)) cs ar pa em pd pz h0 n0 Z0 S1 O1 O3) hZ (hw _ (List.mem_of_getElem? (i := 91) rfl)) (hw _ (List.mem_of_getElem? (i := 54) rfl)) (by decide) (by decide)) (g := (mkF m 29 #[.val (.ref g), .val (.ref ar)] [(.ref ar), (.ref cs), (.int (n + (1 : Int32))), (.ref da), (.ref st)])) rfl (by rw [hml]; rfl) (argsL := [(.ref st), (.ref da), (.int (n + (1 : Int32))), (.ref cs), (.ref ar)]) (rest := []) (lenOf pd_9 rfl) rfl (by show 2 * 0 + _ ≤ _; exact Nat.le_of_eq rfl) (hb hby d14_29) (fun _ _ => ⟨rfl, e_28, (by decide : 0 + 1 ≤ _), (by decide : 0 + 5 ≤ _)⟩)
    dsimp only [Pt.U, Pt.locs, Pt.cells, Pt.slots] at X_30 l_30 y_30 z_30 st_30 hQ_30
    subst l_30 y_30 z_30
    obtain ⟨g1, cs1, rfl, Nq_30, Kq_30, b0, b1⟩ := hQ_30
    have N_31 := Fr.app N_4 Nq_30
    have pre_30 : Rch p.tables e below (s₁.setTop (entryFrame m #[(.ref g), (.ref ar)] 2)) (T_30.setTop (mkF m 32 #[.val (.ref g), .val (.ref ar)] [(.ref g1)])) := fun tgt ktg => pre_29 tgt (st_30 tgt ktg)
    have z_32 : n0 ≤ T_30.heap.size := Nat.le_trans Z0 Kq_30.1
    have K_33 : Keep h0 T_30.heap [] := K0.trans Kq_30 (all0 (P := fun x => x ∈ ([] : List Addr) ∨ h0.size ≤ x))
    have pre_34 : Rch p.tables e below (s₁.setTop (entryFrame m #[(.ref g), (.ref ar)] 2)) (T_30.setTop (mkF m 55 #[.val (.ref g), .val (.ref ar)] [(.ref g1)])) := fun tgt ktg => pre_30 tgt (by
      show Steps p.tables e below (T_30.setTop (mkF m 32 #[.val (.ref g), .val (.ref ar)] [(.ref g1)])) _
      refine XS.goto X_30.here hx rfl (pc0 := 32) (pc' := 55) rfl (hb hby d14_32) (by decide) (by decide) ?_
      exact ktg)
    have en : (n + (1 : Int32)) = n + pc := by rw [O2.pr.resolve_left c_5]
    obtain ⟨fs, hr, hrun, hended, hW, hsame⟩ := X_30.leave (v := some (.ref g1)) (fun h => by rw [Bd.returns] at h; cases h)
    refine ⟨_, _, pre_34 _ ?_, hrun, hended, _, _, rfl, ?_, ⟨_, rfl⟩, hW, hsame.mono (by decide) (by decide)⟩
    · show Steps p.tables e below (T_30.setTop (mkF m 55 #[.val (.ref g), .val (.ref ar)] [(.ref g1)])) _
      jvm_step X_30.here [X_30.here.top, hx, (hb hby d14_55), X_30.method', Bd.returns, Value.isRef, FieldType.isReference]
      first | (intro acts; rw [hr _ acts rfl rfl rfl]) | rw [hr _ _ rfl rfl rfl]
      exact Steps.refl _
    · show Q14 Z g ar st da la cs pa em n pd pc pz h0 n0 _ T_30.heap _
      exact ⟨g1, cs1, rfl, N_31, K_33, en ▸ b0, b1⟩
theorem d17_0 : decode prog_50_method_6_code 0 = .ok (.aload_n 0, 1) := by decide +kernel
theorem d17_1 : decode prog_50_method_6_code 1 = .ok (.getfield 7, 3) := by decide +kernel
theorem d17_4 : decode prog_50_method_6_code 4 = .ok (.aload_n 0, 1) := by decide +kernel
theorem d17_5 : decode prog_50_method_6_code 5 = .ok (.getfield 13, 3) := by decide +kernel
theorem d17_8 : decode prog_50_method_6_code 8 = .ok (.aload_n 0, 1) := by decide +kernel
theorem d17_9 : decode prog_50_method_6_code 9 = .ok (.getfield 17, 3) := by decide +kernel
theorem d17_12 : decode prog_50_method_6_code 12 = .ok (.iconst 1, 1) := by decide +kernel
theorem d17_13 : decode prog_50_method_6_code 13 = .ok (.iadd, 1) := by decide +kernel
theorem d17_14 : decode prog_50_method_6_code 14 = .ok (.aload_n 1, 1) := by decide +kernel
theorem d17_15 : decode prog_50_method_6_code 15 = .ok (.invokestatic 47, 3) := by decide +kernel
theorem pd_10 : parseMethodDescriptor "()Ljava/util/Optional;" = some ⟨[], some (.object "java/util/Optional")⟩ := by decide +kernel
theorem d17_18 : decode prog_50_method_6_code 18 = .ok (.invokestatic 37, 3) := by decide +kernel
theorem d17_21 : decode prog_50_method_6_code 21 = .ok (.areturn, 1) := by decide +kernel
theorem ef_17 (m : MethodId) (x0 : Addr) (x1 : Addr) : entryFrame m #[(.ref x0), (.ref x1)] 2 = mkF m 0 #[.val (.ref x0), .val (.ref x1)] [] := by first | (simp [entryFrame, mkF, argsToLocals, Value.category]; done) | rfl
def Q17 (Z : State) (g : Addr) (ar : Addr) (st da la cs pa em : Addr) (n pd pc : Int32) (h0 : Heap) (n0 : Nat) (v : Option Value) (h : Heap) (L : List Loc) : Prop := ∃ (g1 cs1 : Addr), v = some (.ref g1) ∧ Fr n0 L ∧ Keep h0 h [] ∧ PrW Z h g1 (n + 1) cs1 ∧ OptS Z h cs1 0
set_option maxRecDepth 65536 in
set_option maxHeartbeats 40000000 in
theorem rm17 (l : Launch) (Z : State) (a0 : Array Value) (hw : ∀ d ∈ tables_1, d.before a0 Z = true) (ws : List Jvm.Cond) (g : Addr) (ar : Addr) (st da la cs pa em : Addr) (n pd pc : Int32) (h0 : Heap) (n0 : Nat) (Z0 : n0 ≤ h0.size) (P1 : PrS Z h0 g st da n la cs) (S1 : StS Z h0 st pa em) (O1 : OptS Z h0 da pd) (O2 : OptS Z h0 cs pc) (TE : Sta Z h0 "java/util/Optional" "EMPTY" "Ljava/util/Optional;" (.ref em)) (O3 : OptS Z h0 em 0) :
    MetFree l (⟨"com/example/subjectline/subjectline/server/Progress", "undelivered", "(Ljava/util/Optional;)Lcom/example/subjectline/subjectline/server/Progress;"⟩ : MethodName) (head1 (Jvm.Cond.code (⟨"com/example/subjectline/subjectline/server/Progress", "undelivered", "(Ljava/util/Optional;)Lcom/example/subjectline/subjectline/server/Progress;"⟩ : MethodName) prog_50_method_6_code 2 (some (.object "com/example/subjectline/subjectline/server/Progress")) :: ws) ({ frames := 4, cells := 1, slots := 5, locals := 60 } : Room)) (fun aA U => aA = #[(.ref g), (.ref ar)] ∧ Z.Warmed39 U.vm ∧ U.heap = h0) (fun _ _ _ _ _ => True) (fun _ U oO U' => ∃ vV LL, oO = .returned vV ∧ Q17 Z g ar st da la cs pa em n pd pc h0 n0 vV U'.heap LL ∧ FrameEnd U oO U' LL ({ frames := 4, cells := 1, slots := 5, locals := 60 } : Room).cells ({ frames := 4, cells := 1, slots := 5, locals := 60 } : Room).slots) := by
  refine MetFree.of_bodySF (plainFor_of_name pn_5) hisR ?_
  intro p e s m args below meth c s₁ Bd hml0 hP hK
  obtain ⟨rfl, hZ, hh⟩ := hP
  have hx := Bd.exec
  have hby := Bd.bytes
  have hml : c.maxLocals = 2 := hml0
  have hown : s.vm.findClass "com/example/subjectline/subjectline/server/Progress" = some m.cls := findClass_of_methodNamed Bd.named
  have hnm := (name_of_methodNamed Bd.named Bd.method).1
  have X0 : Stand p l e ({ frames := 4, cells := 1, slots := 5, locals := 60 } : Room) s m #[(.ref g), (.ref ar)] below meth c s₁ [] 0 0 := Stand.of_body Bd
  have e0 : s₁.heap = h0 := by rw [← hh, Bd.state]; rfl
  have N0 := Fr.nil n0
  have K0 : Keep h0 h0 [] := Keep.refl _ _
  have pre0 : Rch p.tables e below (s₁.setTop (entryFrame m #[(.ref g), (.ref ar)] 2)) (s₁.setTop (mkF m 0 #[.val (.ref g), .val (.ref ar)] [])) := fun tgt ktg => castTop (ef_17 m g ar) ktg
  obtain ⟨⟨E1, F1, F2⟩, F3, F4, F5⟩ := P1
  have pre_1 : Rch p.tables e below (s₁.setTop (entryFrame m #[(.ref g), (.ref ar)] 2)) (s₁.setTop (mkF m 1 #[.val (.ref g), .val (.ref ar)] [(.ref g)])) := fun tgt ktg => pre0 tgt (by
    show Steps p.tables e below (s₁.setTop (mkF m 0 #[.val (.ref g), .val (.ref ar)] [])) _
    refine XS.aloadN X0.here hx rfl (hb hby d17_0) rfl rfl ?_
    exact ktg)
  obtain ⟨T_2, X_2, e_2, st_2⟩ := getF X0 hx hZ hown (host := "") (Or.inl (hw _ (List.mem_of_getElem? (i := 64) rfl))) Via.refl e0 F3 (g := (mkF m 1 #[.val (.ref g), .val (.ref ar)] [(.ref g)])) rfl rfl (hb hby d17_1)
  have pre_2 : Rch p.tables e below (s₁.setTop (entryFrame m #[(.ref g), (.ref ar)] 2)) (T_2.setTop (mkF m 4 #[.val (.ref g), .val (.ref ar)] [(.ref st)])) := fun tgt ktg => pre_1 tgt (st_2 tgt ktg)
  have pre_3 : Rch p.tables e below (s₁.setTop (entryFrame m #[(.ref g), (.ref ar)] 2)) (T_2.setTop (mkF m 5 #[.val (.ref g), .val (.ref ar)] [(.ref g), (.ref st)])) := fun tgt ktg => pre_2 tgt (by
    show Steps p.tables e below (T_2.setTop (mkF m 4 #[.val (.ref g), .val (.ref ar)] [(.ref st)])) _
    refine XS.aloadN X_2.here hx rfl (hb hby d17_4) rfl rfl ?_
    exact ktg)
  obtain ⟨T_4, X_4, e_4, st_4⟩ := getF X_2 hx hZ hown (host := "") (Or.inl (hw _ (List.mem_of_getElem? (i := 66) rfl))) Via.refl e_2 F4 (g := (mkF m 5 #[.val (.ref g), .val (.ref ar)] [(.ref g), (.ref st)])) rfl rfl (hb hby d17_5)
  have pre_4 : Rch p.tables e below (s₁.setTop (entryFrame m #[(.ref g), (.ref ar)] 2)) (T_4.setTop (mkF m 8 #[.val (.ref g), .val (.ref ar)] [(.ref da), (.ref st)])) := fun tgt ktg => pre_3 tgt (st_4 tgt ktg)
  have pre_5 : Rch p.tables e below (s₁.setTop (entryFrame m #[(.ref g), (.ref ar)] 2)) (T_4.setTop (mkF m 9 #[.val (.ref g), .val (.ref ar)] [(.ref g), (.ref da), (.ref st)])) := fun tgt ktg => pre_4 tgt (by
    show Steps p.tables e below (T_4.setTop (mkF m 8 #[.val (.ref g), .val (.ref ar)] [(.ref da), (.ref st)])) _
    refine XS.aloadN X_4.here hx rfl (hb hby d17_8) rfl rfl ?_
    exact ktg)
  obtain ⟨T_6, X_6, e_6, st_6⟩ := getF X_4 hx hZ hown (host := "") (Or.inl (hw _ (List.mem_of_getElem? (i := 68) rfl))) Via.refl e_4 F1 (g := (mkF m 9 #[.val (.ref g), .val (.ref ar)] [(.ref g), (.ref da), (.ref st)])) rfl rfl (hb hby d17_9)
  have pre_6 : Rch p.tables e below (s₁.setTop (entryFrame m #[(.ref g), (.ref ar)] 2)) (T_6.setTop (mkF m 12 #[.val (.ref g), .val (.ref ar)] [(.int n), (.ref da), (.ref st)])) := fun tgt ktg => pre_5 tgt (st_6 tgt ktg)
  have pre_7 : Rch p.tables e below (s₁.setTop (entryFrame m #[(.ref g), (.ref ar)] 2)) (T_6.setTop (mkF m 15 #[.val (.ref g), .val (.ref ar)] [(.ref ar), (.int (n + (1 : Int32))), (.ref da), (.ref st)])) := fun tgt ktg => pre_6 tgt (by
    show Steps p.tables e below (T_6.setTop (mkF m 12 #[.val (.ref g), .val (.ref ar)] [(.int n), (.ref da), (.ref st)])) _
    refine XS.iconst X_6.here hx rfl (hb hby d17_12) ?_
    show Steps p.tables e below (T_6.setTop (mkF m 13 #[.val (.ref g), .val (.ref ar)] [(.int (1 : Int32)), (.int n), (.ref da), (.ref st)])) _
    refine XS.iadd X_6.here hx rfl (hb hby d17_13) rfl ?_
    show Steps p.tables e below (T_6.setTop (mkF m 14 #[.val (.ref g), .val (.ref ar)] [(.int (n + (1 : Int32))), (.ref da), (.ref st)])) _
    refine XS.aloadN X_6.here hx rfl (hb hby d17_14) rfl rfl ?_
    exact ktg)
  obtain ⟨_, _, ⟨T_8, L_8, k_8, n_8⟩, -, X_8, ⟨Lc_8, hQ_8, l_8, y_8, z_8⟩, st_8⟩ := Jvm.LawKit.callS X_6 hx (y := (⟨"java/util/Optional", "empty", "()Ljava/util/Optional;"⟩ : MethodName)) hown (mvT hZ (hw _ (List.mem_of_getElem? (i := 104) rfl))) (mvT hZ (hw _ (List.mem_of_getElem? (i := 9) rfl))) (mvT hZ (hw _ (List.mem_of_getElem? (i := 10) rfl))) (mvT hZ (hw _ (List.mem_of_getElem? (i := 11) rfl))) (by decide) (backOf (W := 4) (rm2 l Z a0 hw [] em h0 n0 Z0 TE) hZ (hw _ (List.mem_of_getElem? (i := 11) rfl)) (hw _ (List.mem_of_getElem? (i := 10) rfl)) (by decide) (by decide)) (g := (mkF m 15 #[.val (.ref g), .val (.ref ar)] [(.ref ar), (.int (n + (1 : Int32))), (.ref da), (.ref st)])) rfl (by rw [hml]; rfl) (argsL := []) (rest := [(.ref ar), (.int (n + (1 : Int32))), (.ref da), (.ref st)]) (lenOf pd_10 rfl) rfl (by show 2 * 0 + _ ≤ _; exact Nat.le_of_eq rfl) (hb hby d17_15) (fun _ _ => ⟨rfl, e_6, (by decide : 0 + 0 ≤ _), (by decide : 0 + 0 ≤ _)⟩)
  dsimp only [Pt.U, Pt.locs, Pt.cells, Pt.slots] at X_8 l_8 y_8 z_8 st_8 hQ_8
  subst l_8 y_8 z_8
  obtain ⟨rfl, Nq_8, eh_8⟩ := hQ_8
  have N_9 := Fr.app N0 Nq_8
  have pre_8 : Rch p.tables e below (s₁.setTop (entryFrame m #[(.ref g), (.ref ar)] 2)) (T_8.setTop (mkF m 18 #[.val (.ref g), .val (.ref ar)] [(.ref em), (.ref ar), (.int (n + (1 : Int32))), (.ref da), (.ref st)])) := fun tgt ktg => pre_7 tgt (st_8 tgt ktg)
  obtain ⟨_, _, ⟨T_10, L_10, k_10, n_10⟩, -, X_10, ⟨Lc_10, hQ_10, l_10, y_10, z_10⟩, st_10⟩ := Jvm.LawKit.callS X_8 hx (y := (⟨"com/example/subjectline/subjectline/server/Progress", "of", "(Lcom/example/subjectline/subjectline/server/Status;Ljava/util/Optional;ILjava/util/Optional;Ljava/util/Optional;)Lcom/example/subjectline/subjectline/server/Progress;"⟩ : MethodName)) hown (mvT hZ (hw _ (List.mem_of_getElem? (i := 89) rfl))) (mvT hZ (hw _ (List.mem_of_getElem? (i := 90) rfl))) (mvT hZ (hw _ (List.mem_of_getElem? (i := 54) rfl))) (mvT hZ (hw _ (List.mem_of_getElem? (i := 91) rfl))) (by decide) (backOf (W := 0) (rm15 l Z a0 hw [] st da (n + (1 : Int32)) ar em pa em pd 0 h0 n0 Z0 S1 O1 O3) hZ (hw _ (List.mem_of_getElem? (i := 91) rfl)) (hw _ (List.mem_of_getElem? (i := 54) rfl)) (by decide) (by decide)) (g := (mkF m 18 #[.val (.ref g), .val (.ref ar)] [(.ref em), (.ref ar), (.int (n + (1 : Int32))), (.ref da), (.ref st)])) rfl (by rw [hml]; rfl) (argsL := [(.ref st), (.ref da), (.int (n + (1 : Int32))), (.ref ar), (.ref em)]) (rest := []) (lenOf pd_9 rfl) rfl (by show 2 * 0 + _ ≤ _; exact Nat.le_of_eq rfl) (hb hby d17_18) (fun _ _ => ⟨rfl, eh_8, (by decide : 0 + 1 ≤ _), (by decide : 0 + 5 ≤ _)⟩)
  dsimp only [Pt.U, Pt.locs, Pt.cells, Pt.slots] at X_10 l_10 y_10 z_10 st_10 hQ_10
  subst l_10 y_10 z_10
  obtain ⟨g1, cs1, rfl, Nq_10, Kq_10, b0, b1⟩ := hQ_10
  have N_11 := Fr.app N_9 Nq_10
  have pre_10 : Rch p.tables e below (s₁.setTop (entryFrame m #[(.ref g), (.ref ar)] 2)) (T_10.setTop (mkF m 21 #[.val (.ref g), .val (.ref ar)] [(.ref g1)])) := fun tgt ktg => pre_8 tgt (st_10 tgt ktg)
  have z_12 : n0 ≤ T_10.heap.size := Nat.le_trans Z0 Kq_10.1
  have K_13 : Keep h0 T_10.heap [] := K0.trans Kq_10 (all0 (P := fun x => x ∈ ([] : List Addr) ∨ h0.size ≤ x))
  obtain ⟨fs, hr, hrun, hended, hW, hsame⟩ := X_10.leave (v := some (.ref g1)) (fun h => by rw [Bd.returns] at h; cases h)
  refine ⟨_, _, pre_10 _ ?_, hrun, hended, _, _, rfl, ?_, ⟨_, rfl⟩, hW, hsame.mono (by decide) (by decide)⟩
  · show Steps p.tables e below (T_10.setTop (mkF m 21 #[.val (.ref g), .val (.ref ar)] [(.ref g1)])) _
    jvm_step X_10.here [X_10.here.top, hx, (hb hby d17_21), X_10.method', Bd.returns, Value.isRef, FieldType.isReference]
    first | (intro acts; rw [hr _ acts rfl rfl rfl]) | rw [hr _ _ rfl rfl rfl]
    exact Steps.refl _
  · show Q17 Z g ar st da la cs pa em n pd pc h0 n0 _ T_10.heap _
    exact ⟨g1, cs1, rfl, N_11, K_13, b0, b1⟩
theorem d19_0 : decode jdk_43_method_3_code 0 = .ok (.iload_n 0, 1) := by decide +kernel
theorem d19_1 : decode jdk_43_method_3_code 1 = .ok (.sipush 255, 3) := by decide +kernel
theorem d19_4 : decode jdk_43_method_3_code 4 = .ok (.if_icmp .gt 7, 3) := by decide +kernel
theorem d19_7 : decode jdk_43_method_3_code 7 = .ok (.iconst 1, 1) := by decide +kernel
theorem d19_8 : decode jdk_43_method_3_code 8 = .ok (.goto 4, 3) := by decide +kernel
theorem d19_12 : decode jdk_43_method_3_code 12 = .ok (.ireturn, 1) := by decide +kernel
theorem pn_7 : plainName "java/lang/StringLatin1" = true := by first | (simp [plainName, overriddenIn]; done) | decide +kernel
theorem ef_19 (m : MethodId) (x0 : Int32) : entryFrame m #[(.int x0)] 1 = mkF m 0 #[.val (.int x0)] [] := by first | (simp [entryFrame, mkF, argsToLocals, Value.category]; done) | rfl
def Q19 (Z : State) (q : Int32) (h0 : Heap) (n0 : Nat) (v : Option Value) (h : Heap) (L : List Loc) : Prop := v = some (.int 1) ∧ Fr n0 L ∧ h = h0
set_option maxRecDepth 65536 in
set_option maxHeartbeats 40000000 in
theorem rm19 (l : Launch) (Z : State) (a0 : Array Value) (hw : ∀ d ∈ tables_1, d.before a0 Z = true) (ws : List Jvm.Cond) (q : Int32) (h0 : Heap) (n0 : Nat) (Z0 : n0 ≤ h0.size) (hq : ¬ (255 : Int32) < q) :
    MetFree l (⟨"java/lang/StringLatin1", "canEncode", "(C)Z"⟩ : MethodName) (head1 (Jvm.Cond.code (⟨"java/lang/StringLatin1", "canEncode", "(C)Z"⟩ : MethodName) jdk_43_method_3_code 1 (some .boolean) :: ws) ({ frames := 0, cells := 0, slots := 0, locals := 0 } : Room)) (fun aA U => aA = #[(.int q)] ∧ Z.Warmed39 U.vm ∧ U.heap = h0) (fun _ _ _ _ _ => True) (fun _ U oO U' => ∃ vV LL, oO = .returned vV ∧ Q19 Z q h0 n0 vV U'.heap LL ∧ FrameEnd U oO U' LL ({ frames := 0, cells := 0, slots := 0, locals := 0 } : Room).cells ({ frames := 0, cells := 0, slots := 0, locals := 0 } : Room).slots) := by
  refine MetFree.of_bodySF (plainFor_of_name pn_7) hisR ?_
  intro p e s m args below meth c s₁ Bd hml0 hP hK
  obtain ⟨rfl, hZ, hh⟩ := hP
  have hx := Bd.exec
  have hby := Bd.bytes
  have hml : c.maxLocals = 1 := hml0
  have hown : s.vm.findClass "java/lang/StringLatin1" = some m.cls := findClass_of_methodNamed Bd.named
  have hnm := (name_of_methodNamed Bd.named Bd.method).1
  have X0 : Stand p l e ({ frames := 0, cells := 0, slots := 0, locals := 0 } : Room) s m #[(.int q)] below meth c s₁ [] 0 0 := Stand.of_body Bd
  have e0 : s₁.heap = h0 := by rw [← hh, Bd.state]; rfl
  have N0 := Fr.nil n0
  have K0 : Keep h0 h0 [] := Keep.refl _ _
  have pre0 : Rch p.tables e below (s₁.setTop (entryFrame m #[(.int q)] 1)) (s₁.setTop (mkF m 0 #[.val (.int q)] [])) := fun tgt ktg => castTop (ef_19 m q) ktg
  have pre_1 : Rch p.tables e below (s₁.setTop (entryFrame m #[(.int q)] 1)) (s₁.setTop (mkF m 12 #[.val (.int q)] [(.int (1 : Int32))])) := fun tgt ktg => pre0 tgt (by
    show Steps p.tables e below (s₁.setTop (mkF m 0 #[.val (.int q)] [])) _
    refine XS.iloadN X0.here hx rfl (hb hby d19_0) rfl ?_
    show Steps p.tables e below (s₁.setTop (mkF m 1 #[.val (.int q)] [(.int q)])) _
    refine XS.sipush X0.here hx rfl (hb hby d19_1) ?_
    show Steps p.tables e below (s₁.setTop (mkF m 4 #[.val (.int q)] [(.int (255 : Int32)), (.int q)])) _
    refine XS.icmpNo X0.here hx rfl (hb hby d19_4) rfl (flt hq).2.2.1 ?_
    show Steps p.tables e below (s₁.setTop (mkF m 7 #[.val (.int q)] [])) _
    refine XS.iconst X0.here hx rfl (hb hby d19_7) ?_
    show Steps p.tables e below (s₁.setTop (mkF m 8 #[.val (.int q)] [(.int (1 : Int32))])) _
    refine XS.goto X0.here hx rfl (pc0 := 8) (pc' := 12) rfl (hb hby d19_8) (by decide) (by decide) ?_
    exact ktg)
  obtain ⟨fs, hr, hrun, hended, hW, hsame⟩ := X0.leave (v := some (.int (1 : Int32))) (fun h => by rw [Bd.returns] at h; cases h)
  refine ⟨_, _, pre_1 _ ?_, hrun, hended, _, _, rfl, ?_, ⟨_, rfl⟩, hW, hsame.mono (by decide) (by decide)⟩
  · show Steps p.tables e below (s₁.setTop (mkF m 12 #[.val (.int q)] [(.int (1 : Int32))])) _
    exact retN X0 hx (t := .boolean) Bd.returns (by simp) (hb hby d19_12) hr
  · show Q19 Z q h0 n0 _ s₁.heap _
    rw [e0]
    exact ⟨rfl, N0, rfl⟩
theorem d20_0 : decode jdk_43_method_46_code 0 = .ok (.iconst 1, 1) := by decide +kernel
theorem d20_1 : decode jdk_43_method_46_code 1 = .ok (.newarray .byte, 2) := by decide +kernel
theorem d20_3 : decode jdk_43_method_46_code 3 = .ok (.dup, 1) := by decide +kernel
theorem d20_4 : decode jdk_43_method_46_code 4 = .ok (.iconst 0, 1) := by decide +kernel
theorem d20_5 : decode jdk_43_method_46_code 5 = .ok (.iload_n 0, 1) := by decide +kernel
theorem d20_6 : decode jdk_43_method_46_code 6 = .ok (.i2b, 1) := by decide +kernel
theorem d20_7 : decode jdk_43_method_46_code 7 = .ok (.bastore, 1) := by decide +kernel
theorem d20_8 : decode jdk_43_method_46_code 8 = .ok (.areturn, 1) := by decide +kernel
theorem ef_20 (m : MethodId) (x0 : Int32) : entryFrame m #[(.int x0)] 1 = mkF m 0 #[.val (.int x0)] [] := by first | (simp [entryFrame, mkF, argsToLocals, Value.category]; done) | rfl
def Q20 (Z : State) (q : Int32) (h0 : Heap) (n0 : Nat) (v : Option Value) (h : Heap) (L : List Loc) : Prop := ∃ b : Addr, v = some (.ref b) ∧ Fr n0 L ∧ Keep h0 h []
set_option maxRecDepth 65536 in
set_option maxHeartbeats 40000000 in
theorem rm20 (l : Launch) (Z : State) (a0 : Array Value) (hw : ∀ d ∈ tables_1, d.before a0 Z = true) (ws : List Jvm.Cond) (q : Int32) (h0 : Heap) (n0 : Nat) (Z0 : n0 ≤ h0.size)  :
    MetFree l (⟨"java/lang/StringLatin1", "toBytes", "(C)[B"⟩ : MethodName) (head1 (Jvm.Cond.code (⟨"java/lang/StringLatin1", "toBytes", "(C)[B"⟩ : MethodName) jdk_43_method_46_code 1 (some (.array .byte)) :: ws) ({ frames := 0, cells := 1, slots := 1, locals := 0 } : Room)) (fun aA U => aA = #[(.int q)] ∧ Z.Warmed39 U.vm ∧ U.heap = h0) (fun _ _ _ _ _ => True) (fun _ U oO U' => ∃ vV LL, oO = .returned vV ∧ Q20 Z q h0 n0 vV U'.heap LL ∧ FrameEnd U oO U' LL ({ frames := 0, cells := 1, slots := 1, locals := 0 } : Room).cells ({ frames := 0, cells := 1, slots := 1, locals := 0 } : Room).slots) := by
  refine MetFree.of_bodySF (plainFor_of_name pn_7) hisR ?_
  intro p e s m args below meth c s₁ Bd hml0 hP hK
  obtain ⟨rfl, hZ, hh⟩ := hP
  have hx := Bd.exec
  have hby := Bd.bytes
  have hml : c.maxLocals = 1 := hml0
  have hown : s.vm.findClass "java/lang/StringLatin1" = some m.cls := findClass_of_methodNamed Bd.named
  have hnm := (name_of_methodNamed Bd.named Bd.method).1
  have X0 : Stand p l e ({ frames := 0, cells := 1, slots := 1, locals := 0 } : Room) s m #[(.int q)] below meth c s₁ [] 0 0 := Stand.of_body Bd
  have e0 : s₁.heap = h0 := by rw [← hh, Bd.state]; rfl
  have N0 := Fr.nil n0
  have K0 : Keep h0 h0 [] := Keep.refl _ _
  have pre0 : Rch p.tables e below (s₁.setTop (entryFrame m #[(.int q)] 1)) (s₁.setTop (mkF m 0 #[.val (.int q)] [])) := fun tgt ktg => castTop (ef_20 m q) ktg
  have pre_1 : Rch p.tables e below (s₁.setTop (entryFrame m #[(.int q)] 1)) (s₁.setTop (mkF m 1 #[.val (.int q)] [(.int (1 : Int32))])) := fun tgt ktg => pre0 tgt (by
    show Steps p.tables e below (s₁.setTop (mkF m 0 #[.val (.int q)] [])) _
    refine XS.iconst X0.here hx rfl (hb hby d20_0) ?_
    exact ktg)
  obtain ⟨T_2, h_2, k_2, X_2, e_2, E_2, A_2, st_2⟩ := newP X0 hx hZ (hw _ (List.mem_of_getElem? (i := 121) rfl)) e0 (g := (mkF m 1 #[.val (.int q)] [(.int (1 : Int32))])) rfl (hb hby d20_1) rfl (by decide) (cap := 1) (by decide) (by decide) (by decide) (by decide)
  obtain ⟨b, g_2⟩ : ∃ nm_, nm_ = h0.size := ⟨_, rfl⟩
  rw [← g_2] at A_2 st_2
  have g_b : n0 ≤ b := Nat.le_trans Z0 (Nat.le_of_eq g_2.symm)
  have sz_b : h0.size ≤ b := Nat.le_trans K0.1 (Nat.le_of_eq g_2.symm)
  have pre_2 : Rch p.tables e below (s₁.setTop (entryFrame m #[(.int q)] 1)) (T_2.setTop (mkF m 3 #[.val (.int q)] [(.ref b)])) := fun tgt ktg => pre_1 tgt (st_2 tgt ktg)
  have z_3 : n0 ≤ h_2.size := Nat.le_trans Z0 E_2.1
  have K_4 : Keep h0 h_2 [] := K0.ext E_2
  have f_5 : Arv Z h_2 b k_2 .byte (1 : Int32) [(.int (0 : Int32))] (.int (0 : Int32)) := (Arv.new A_2 (by decide)).pad (pad_rep [] (.int (0 : Int32)) 1)
  have pre_6 : Rch p.tables e below (s₁.setTop (entryFrame m #[(.int q)] 1)) (T_2.setTop (mkF m 7 #[.val (.int q)] [(.int (q.toInt8.toInt32)), (.int (0 : Int32)), (.ref b), (.ref b)])) := fun tgt ktg => pre_2 tgt (by
    show Steps p.tables e below (T_2.setTop (mkF m 3 #[.val (.int q)] [(.ref b)])) _
    refine XS.dup X_2.here hx rfl (hb hby d20_3) rfl rfl ?_
    show Steps p.tables e below (T_2.setTop (mkF m 4 #[.val (.int q)] [(.ref b), (.ref b)])) _
    refine XS.iconst X_2.here hx rfl (hb hby d20_4) ?_
    show Steps p.tables e below (T_2.setTop (mkF m 5 #[.val (.int q)] [(.int (0 : Int32)), (.ref b), (.ref b)])) _
    refine XS.iloadN X_2.here hx rfl (hb hby d20_5) rfl ?_
    show Steps p.tables e below (T_2.setTop (mkF m 6 #[.val (.int q)] [(.int q), (.int (0 : Int32)), (.ref b), (.ref b)])) _
    refine XT.i2b X_2.here hx rfl (hb hby d20_6) rfl ?_
    exact ktg)
  obtain ⟨cl__7, Ar__7, q__7, S__7, N__7, H__7, G__7⟩ := id f_5
  have hin__7 : ¬ ((0 : Int32) < 0 ∨ cl__7.slots.size ≤ ((0 : Int32)).toNatClampNeg) := inb_of S__7 ⟨by decide, by decide⟩
  obtain ⟨T_8, h_8, X_8, e_8, W_8, st_8⟩ := stB X_2 hx hZ e_2 Ar__7 (j := (0 : Int32)) hin__7 (g := (mkF m 7 #[.val (.int q)] [(.int (q.toInt8.toInt32)), (.int (0 : Int32)), (.ref b), (.ref b)])) rfl rfl (hb hby d20_7)
  have pre_8 : Rch p.tables e below (s₁.setTop (entryFrame m #[(.int q)] 1)) (T_8.setTop (mkF m 8 #[.val (.int q)] [(.ref b)])) := fun tgt ktg => pre_6 tgt (st_8 tgt ktg)
  have z_9 : n0 ≤ h_8.size := Nat.le_trans z_3 (Keep.of_wr W_8).1
  have K_10 : Keep h0 h_8 [] := K_4.wr W_8 (Or.inr sz_b)
  have f_11 : Arv Z h_8 b k_2 .byte (1 : Int32) [(.int (nar .byte (q.toInt8.toInt32)))] (.int (0 : Int32)) := Arv.set Ar__7 q__7 S__7 N__7 H__7 G__7 (fits_nar_byte _) W_8 0 rfl (Nat.le_of_ble_eq_true rfl)
  have N_12 := Fr.snoc X_8 N0 g_b
  obtain ⟨fs, hr, hrun, hended, hW, hsame⟩ := X_8.leave (v := some (.ref b)) (fun h => by rw [Bd.returns] at h; cases h)
  refine ⟨_, _, pre_8 _ ?_, hrun, hended, _, _, rfl, ?_, ⟨_, rfl⟩, hW, hsame.mono (by decide) (by decide)⟩
  · show Steps p.tables e below (T_8.setTop (mkF m 8 #[.val (.int q)] [(.ref b)])) _
    jvm_step X_8.here [X_8.here.top, hx, (hb hby d20_8), X_8.method', Bd.returns, Value.isRef, FieldType.isReference]
    first | (intro acts; rw [hr _ acts rfl rfl rfl]) | rw [hr _ _ rfl rfl rfl]
    exact Steps.refl _
  · show Q20 Z q h0 n0 _ T_8.heap _
    rw [e_8]
    exact ⟨b, rfl, N_12, K_10⟩
theorem d21_0 : decode jdk_42_method_151_code 0 = .ok (.aload_n 0, 1) := by decide +kernel
theorem d21_1 : decode jdk_42_method_151_code 1 = .ok (.invokespecial 1, 3) := by decide +kernel
theorem d21_4 : decode jdk_42_method_151_code 4 = .ok (.aload_n 0, 1) := by decide +kernel
theorem d21_5 : decode jdk_42_method_151_code 5 = .ok (.aload_n 1, 1) := by decide +kernel
theorem d21_6 : decode jdk_42_method_151_code 6 = .ok (.putfield 9, 3) := by decide +kernel
theorem d21_9 : decode jdk_42_method_151_code 9 = .ok (.aload_n 0, 1) := by decide +kernel
theorem d21_10 : decode jdk_42_method_151_code 10 = .ok (.iload_n 2, 1) := by decide +kernel
theorem d21_11 : decode jdk_42_method_151_code 11 = .ok (.putfield 15, 3) := by decide +kernel
theorem d21_14 : decode jdk_42_method_151_code 14 = .ok (.return_, 1) := by decide +kernel
theorem pn_8 : plainName "java/lang/String" = true := by first | (simp [plainName, overriddenIn]; done) | decide +kernel
theorem ef_21 (m : MethodId) (x0 : Addr) (x1 : Addr) (x2 : Int32) : entryFrame m #[(.ref x0), (.ref x1), (.int x2)] 3 = mkF m 0 #[.val (.ref x0), .val (.ref x1), .val (.int x2)] [] := by first | (simp [entryFrame, mkF, argsToLocals, Value.category]; done) | rfl
def Q21 (Z : State) (a : Addr) (b : Addr) (h0 : Heap) (n0 : Nat) (v : Option Value) (h : Heap) (L : List Loc) : Prop := v = none ∧ Fr n0 L ∧ Keep h0 h [a]
set_option maxRecDepth 65536 in
set_option maxHeartbeats 40000000 in
theorem rm21 (l : Launch) (Z : State) (a0 : Array Value) (hw : ∀ d ∈ tables_1, d.before a0 Z = true) (ws : List Jvm.Cond) (a : Addr) (b : Addr) (h0 : Heap) (n0 : Nat) (Z0 : n0 ≤ h0.size) (E1 : Exa Z h0 a "java/lang/String") (F1 : Fld Z h0 a "java/lang/String" "value" "[B" .null) (F2 : Fld Z h0 a "java/lang/String" "coder" "B" (.int (0 : Int32))) (ga : n0 ≤ a) :
    MetFree l (⟨"java/lang/String", "<init>", "([BB)V"⟩ : MethodName) (head1 (Jvm.Cond.code (⟨"java/lang/String", "<init>", "([BB)V"⟩ : MethodName) jdk_42_method_151_code 3 none :: ws) ({ frames := 1, cells := 0, slots := 0, locals := 12 } : Room)) (fun aA U => aA = #[(.ref a), (.ref b), (.int (0 : Int32))] ∧ Z.Warmed39 U.vm ∧ U.heap = h0) (fun _ _ _ _ _ => True) (fun _ U oO U' => ∃ vV LL, oO = .returned vV ∧ Q21 Z a b h0 n0 vV U'.heap LL ∧ FrameEnd U oO U' LL ({ frames := 1, cells := 0, slots := 0, locals := 12 } : Room).cells ({ frames := 1, cells := 0, slots := 0, locals := 12 } : Room).slots) := by
  refine MetFree.of_bodySF (plainFor_of_name pn_8) hisR ?_
  intro p e s m args below meth c s₁ Bd hml0 hP hK
  obtain ⟨rfl, hZ, hh⟩ := hP
  have hx := Bd.exec
  have hby := Bd.bytes
  have hml : c.maxLocals = 3 := hml0
  have hown : s.vm.findClass "java/lang/String" = some m.cls := findClass_of_methodNamed Bd.named
  have hnm := (name_of_methodNamed Bd.named Bd.method).1
  have X0 : Stand p l e ({ frames := 1, cells := 0, slots := 0, locals := 12 } : Room) s m #[(.ref a), (.ref b), (.int (0 : Int32))] below meth c s₁ [] 0 0 := Stand.of_body Bd
  have e0 : s₁.heap = h0 := by rw [← hh, Bd.state]; rfl
  have N0 := Fr.nil n0
  have K0 : Keep h0 h0 [a] := Keep.refl _ _
  have pre0 : Rch p.tables e below (s₁.setTop (entryFrame m #[(.ref a), (.ref b), (.int (0 : Int32))] 3)) (s₁.setTop (mkF m 0 #[.val (.ref a), .val (.ref b), .val (.int (0 : Int32))] [])) := fun tgt ktg => castTop (ef_21 m a b (0 : Int32)) ktg
  have pre_1 : Rch p.tables e below (s₁.setTop (entryFrame m #[(.ref a), (.ref b), (.int (0 : Int32))] 3)) (s₁.setTop (mkF m 1 #[.val (.ref a), .val (.ref b), .val (.int (0 : Int32))] [(.ref a)])) := fun tgt ktg => pre0 tgt (by
    show Steps p.tables e below (s₁.setTop (mkF m 0 #[.val (.ref a), .val (.ref b), .val (.int (0 : Int32))] [])) _
    refine XS.aloadN X0.here hx rfl (hb hby d21_0) rfl rfl ?_
    exact ktg)
  obtain ⟨T_2, X_2, e_2, st_2⟩ := initO X0 hx hZ hown (hw _ (List.mem_of_getElem? (i := 126) rfl)) (hw _ (List.mem_of_getElem? (i := 30) rfl)) (hw _ (List.mem_of_getElem? (i := 31) rfl)) e0 (g := (mkF m 1 #[.val (.ref a), .val (.ref b), .val (.int (0 : Int32))] [(.ref a)])) rfl (by rw [hml]; rfl) rfl (hb hby d21_1) (by decide) (W := 0) (by show 2 * 0 + _ ≤ _; exact Nat.le_of_eq rfl) (by decide)
  have pre_2 : Rch p.tables e below (s₁.setTop (entryFrame m #[(.ref a), (.ref b), (.int (0 : Int32))] 3)) (T_2.setTop (mkF m 4 #[.val (.ref a), .val (.ref b), .val (.int (0 : Int32))] [])) := fun tgt ktg => pre_1 tgt (st_2 tgt ktg)
  have pre_3 : Rch p.tables e below (s₁.setTop (entryFrame m #[(.ref a), (.ref b), (.int (0 : Int32))] 3)) (T_2.setTop (mkF m 6 #[.val (.ref a), .val (.ref b), .val (.int (0 : Int32))] [(.ref b), (.ref a)])) := fun tgt ktg => pre_2 tgt (by
    show Steps p.tables e below (T_2.setTop (mkF m 4 #[.val (.ref a), .val (.ref b), .val (.int (0 : Int32))] [])) _
    refine XS.aloadN X_2.here hx rfl (hb hby d21_4) rfl rfl ?_
    show Steps p.tables e below (T_2.setTop (mkF m 5 #[.val (.ref a), .val (.ref b), .val (.int (0 : Int32))] [(.ref a)])) _
    refine XS.aloadN X_2.here hx rfl (hb hby d21_5) rfl rfl ?_
    exact ktg)
  obtain ⟨T_4, h_4, X_4, e_4, W_4, st_4⟩ := putF X_2 hx hZ hown (host := "") (Or.inl (hw _ (List.mem_of_getElem? (i := 127) rfl))) Via.refl e_2 F1 E1 (Or.inr ⟨(hw _ (List.mem_of_getElem? (i := 128) rfl)), rfl, hnm⟩) (hw _ (List.mem_of_getElem? (i := 117) rfl)) (ty := (.array .byte)) (by decide) rfl rfl (g := (mkF m 6 #[.val (.ref a), .val (.ref b), .val (.int (0 : Int32))] [(.ref b), (.ref a)])) rfl rfl (hb hby d21_6)
  have pre_4 : Rch p.tables e below (s₁.setTop (entryFrame m #[(.ref a), (.ref b), (.int (0 : Int32))] 3)) (T_4.setTop (mkF m 9 #[.val (.ref a), .val (.ref b), .val (.int (0 : Int32))] [])) := fun tgt ktg => pre_3 tgt (st_4 tgt ktg)
  have f_5 : Exa Z h_4 a "java/lang/String" := E1.wr W_4
  have f_6 : Fld Z h_4 a "java/lang/String" "coder" "B" (.int (0 : Int32)) := F2.other W_4 (Or.inr (slot_ne (Or.inr (hw _ (List.mem_of_getElem? (i := 130) rfl))) (Or.inr (hw _ (List.mem_of_getElem? (i := 128) rfl))) (by decide) (t := .byte) (t' := (.array .byte)) (by decide) (by decide)))
  have z_7 : n0 ≤ h_4.size := Nat.le_trans Z0 (Keep.of_wr W_4).1
  have K_8 : Keep h0 h_4 [a] := K0.wr W_4 (Or.inl (List.mem_of_getElem? (i := 0) rfl))
  have f_9 : Fld Z h_4 a "java/lang/String" "value" "[B" (.ref b) := F1.same W_4
  have N_10 := Fr.snoc X_4 N0 ga
  have pre_11 : Rch p.tables e below (s₁.setTop (entryFrame m #[(.ref a), (.ref b), (.int (0 : Int32))] 3)) (T_4.setTop (mkF m 11 #[.val (.ref a), .val (.ref b), .val (.int (0 : Int32))] [(.int (0 : Int32)), (.ref a)])) := fun tgt ktg => pre_4 tgt (by
    show Steps p.tables e below (T_4.setTop (mkF m 9 #[.val (.ref a), .val (.ref b), .val (.int (0 : Int32))] [])) _
    refine XS.aloadN X_4.here hx rfl (hb hby d21_9) rfl rfl ?_
    show Steps p.tables e below (T_4.setTop (mkF m 10 #[.val (.ref a), .val (.ref b), .val (.int (0 : Int32))] [(.ref a)])) _
    refine XS.iloadN X_4.here hx rfl (hb hby d21_10) rfl ?_
    exact ktg)
  obtain ⟨T_12, h_12, X_12, e_12, W_12, st_12⟩ := putFN X_4 hx hZ hown (hw _ (List.mem_of_getElem? (i := 129) rfl)) Via.refl e_4 f_6 f_5 (Or.inr ⟨(hw _ (List.mem_of_getElem? (i := 130) rfl)), rfl, hnm⟩) (hw _ (List.mem_of_getElem? (i := 117) rfl)) (ty := .byte) (v' := (.int (0 : Int32))) (by decide) rfl (by decide) (g := (mkF m 11 #[.val (.ref a), .val (.ref b), .val (.int (0 : Int32))] [(.int (0 : Int32)), (.ref a)])) rfl rfl (hb hby d21_11)
  have pre_12 : Rch p.tables e below (s₁.setTop (entryFrame m #[(.ref a), (.ref b), (.int (0 : Int32))] 3)) (T_12.setTop (mkF m 14 #[.val (.ref a), .val (.ref b), .val (.int (0 : Int32))] [])) := fun tgt ktg => pre_11 tgt (st_12 tgt ktg)
  have f_13 : Exa Z h_12 a "java/lang/String" := f_5.wr W_12
  have f_14 : Fld Z h_12 a "java/lang/String" "value" "[B" (.ref b) := f_9.other W_12 (Or.inr (slot_ne (Or.inr (hw _ (List.mem_of_getElem? (i := 128) rfl))) (Or.inr (hw _ (List.mem_of_getElem? (i := 130) rfl))) (by decide) (t := (.array .byte)) (t' := .byte) (by decide) (by decide)))
  have z_15 : n0 ≤ h_12.size := Nat.le_trans z_7 (Keep.of_wr W_12).1
  have K_16 : Keep h0 h_12 [a] := K_8.wr W_12 (Or.inl (List.mem_of_getElem? (i := 0) rfl))
  have f_17 : Fld Z h_12 a "java/lang/String" "coder" "B" (.int (0 : Int32)) := f_6.same W_12
  have N_18 := Fr.snoc X_12 N_10 ga
  obtain ⟨fs, hr, hrun, hended, hW, hsame⟩ := X_12.leave (v := none) (fun _ => rfl)
  refine ⟨_, _, pre_12 _ ?_, hrun, hended, _, _, rfl, ?_, ⟨_, rfl⟩, hW, hsame.mono (by decide) (by decide)⟩
  · show Steps p.tables e below (T_12.setTop (mkF m 14 #[.val (.ref a), .val (.ref b), .val (.int (0 : Int32))] [])) _
    exact X_12.returnOut hx Bd.returns (hb hby d21_14) hr
  · show Q21 Z a b h0 n0 _ T_12.heap _
    rw [e_12]
    exact ⟨rfl, N_18, K_16⟩
theorem d18_0 : decode jdk_42_method_139_code 0 = .ok (.getstatic 38, 3) := by decide +kernel
theorem d18_3 : decode jdk_42_method_139_code 3 = .ok (.ifCond .eq 23, 3) := by decide +kernel
theorem d18_6 : decode jdk_42_method_139_code 6 = .ok (.iload_n 0, 1) := by decide +kernel
theorem d18_7 : decode jdk_42_method_139_code 7 = .ok (.invokestatic 1015, 3) := by decide +kernel
theorem pd_11 : parseMethodDescriptor "(C)Z" = some ⟨[.char], some .boolean⟩ := by decide +kernel
theorem d18_10 : decode jdk_42_method_139_code 10 = .ok (.ifCond .eq 16, 3) := by decide +kernel
theorem d18_13 : decode jdk_42_method_139_code 13 = .ok (.new 10, 3) := by decide +kernel
theorem d18_16 : decode jdk_42_method_139_code 16 = .ok (.dup, 1) := by decide +kernel
theorem d18_17 : decode jdk_42_method_139_code 17 = .ok (.iload_n 0, 1) := by decide +kernel
theorem d18_18 : decode jdk_42_method_139_code 18 = .ok (.invokestatic 1018, 3) := by decide +kernel
theorem pd_12 : parseMethodDescriptor "(C)[B" = some ⟨[.char], some (.array .byte)⟩ := by decide +kernel
theorem d18_21 : decode jdk_42_method_139_code 21 = .ok (.iconst 0, 1) := by decide +kernel
theorem d18_22 : decode jdk_42_method_139_code 22 = .ok (.invokespecial 209, 3) := by decide +kernel
theorem pd_13 : parseMethodDescriptor "([BB)V" = some ⟨[(.array .byte), .byte], none⟩ := by decide +kernel
theorem d18_25 : decode jdk_42_method_139_code 25 = .ok (.areturn, 1) := by decide +kernel
theorem ef_18 (m : MethodId) (x0 : Int32) : entryFrame m #[(.int x0)] 1 = mkF m 0 #[.val (.int x0)] [] := by first | (simp [entryFrame, mkF, argsToLocals, Value.category]; done) | rfl
def Q18 (Z : State) (q : Int32) (h0 : Heap) (n0 : Nat) (v : Option Value) (h : Heap) (L : List Loc) : Prop := ∃ b : Addr, v = some (.ref b) ∧ Fr n0 L ∧ Keep h0 h []
set_option maxRecDepth 65536 in
set_option maxHeartbeats 40000000 in
theorem rm18 (l : Launch) (Z : State) (a0 : Array Value) (hw : ∀ d ∈ tables_1, d.before a0 Z = true) (ws : List Jvm.Cond) (q : Int32) (h0 : Heap) (n0 : Nat) (Z0 : n0 ≤ h0.size) (cs : Int32) (hcs : ¬ cs = 0) (S1 : Sta Z h0 "java/lang/String" "COMPACT_STRINGS" "Z" (.int cs)) (hq : ¬ (255 : Int32) < q) :
    MetFree l (⟨"java/lang/String", "valueOf", "(C)Ljava/lang/String;"⟩ : MethodName) (head1 (Jvm.Cond.code (⟨"java/lang/String", "valueOf", "(C)Ljava/lang/String;"⟩ : MethodName) jdk_42_method_139_code 1 (some (.object "java/lang/String")) :: ws) ({ frames := 2, cells := 2, slots := 5, locals := 28 } : Room)) (fun aA U => aA = #[(.int q)] ∧ Z.Warmed39 U.vm ∧ U.heap = h0) (fun _ _ _ _ _ => True) (fun _ U oO U' => ∃ vV LL, oO = .returned vV ∧ Q18 Z q h0 n0 vV U'.heap LL ∧ FrameEnd U oO U' LL ({ frames := 2, cells := 2, slots := 5, locals := 28 } : Room).cells ({ frames := 2, cells := 2, slots := 5, locals := 28 } : Room).slots) := by
  refine MetFree.of_bodySF (plainFor_of_name pn_8) hisR ?_
  intro p e s m args below meth c s₁ Bd hml0 hP hK
  obtain ⟨rfl, hZ, hh⟩ := hP
  have hx := Bd.exec
  have hby := Bd.bytes
  have hml : c.maxLocals = 1 := hml0
  have hown : s.vm.findClass "java/lang/String" = some m.cls := findClass_of_methodNamed Bd.named
  have hnm := (name_of_methodNamed Bd.named Bd.method).1
  have X0 : Stand p l e ({ frames := 2, cells := 2, slots := 5, locals := 28 } : Room) s m #[(.int q)] below meth c s₁ [] 0 0 := Stand.of_body Bd
  have e0 : s₁.heap = h0 := by rw [← hh, Bd.state]; rfl
  have N0 := Fr.nil n0
  have K0 : Keep h0 h0 [] := Keep.refl _ _
  have pre0 : Rch p.tables e below (s₁.setTop (entryFrame m #[(.int q)] 1)) (s₁.setTop (mkF m 0 #[.val (.int q)] [])) := fun tgt ktg => castTop (ef_18 m q) ktg
  obtain ⟨T_1, X_1, e_1, st_1⟩ := getS2 X0 hx hZ hown (host := "") (Or.inl (hw _ (List.mem_of_getElem? (i := 111) rfl))) Via.refl e0 S1 (g := (mkF m 0 #[.val (.int q)] [])) rfl (hb hby d18_0)
  have pre_1 : Rch p.tables e below (s₁.setTop (entryFrame m #[(.int q)] 1)) (T_1.setTop (mkF m 3 #[.val (.int q)] [(.int cs)])) := fun tgt ktg => pre0 tgt (st_1 tgt ktg)
  have pre_2 : Rch p.tables e below (s₁.setTop (entryFrame m #[(.int q)] 1)) (T_1.setTop (mkF m 7 #[.val (.int q)] [(.int q)])) := fun tgt ktg => pre_1 tgt (by
    show Steps p.tables e below (T_1.setTop (mkF m 3 #[.val (.int q)] [(.int cs)])) _
    refine XS.ifNo X_1.here hx rfl (hb hby d18_3) rfl ((if0 _ _).trans (feq hcs).1) ?_
    show Steps p.tables e below (T_1.setTop (mkF m 6 #[.val (.int q)] [])) _
    refine XS.iloadN X_1.here hx rfl (hb hby d18_6) rfl ?_
    exact ktg)
  obtain ⟨_, _, ⟨T_3, L_3, k_3, n_3⟩, -, X_3, ⟨Lc_3, hQ_3, l_3, y_3, z_3⟩, st_3⟩ := Jvm.LawKit.callS X_1 hx (y := (⟨"java/lang/StringLatin1", "canEncode", "(C)Z"⟩ : MethodName)) hown (mvT hZ (hw _ (List.mem_of_getElem? (i := 112) rfl))) (mvT hZ (hw _ (List.mem_of_getElem? (i := 113) rfl))) (mvT hZ (hw _ (List.mem_of_getElem? (i := 114) rfl))) (mvT hZ (hw _ (List.mem_of_getElem? (i := 115) rfl))) (by decide) (backOf (W := 0) (rm19 l Z a0 hw [] q h0 n0 Z0 hq) hZ (hw _ (List.mem_of_getElem? (i := 115) rfl)) (hw _ (List.mem_of_getElem? (i := 114) rfl)) (by decide) (by decide)) (g := (mkF m 7 #[.val (.int q)] [(.int q)])) rfl (by rw [hml]; rfl) (argsL := [(.int q)]) (rest := []) (lenOf pd_11 rfl) rfl (by show 2 * 0 + _ ≤ _; exact Nat.le_of_eq rfl) (hb hby d18_7) (fun _ _ => ⟨rfl, e_1, (by decide : 0 + 0 ≤ _), (by decide : 0 + 0 ≤ _)⟩)
  dsimp only [Pt.U, Pt.locs, Pt.cells, Pt.slots] at X_3 l_3 y_3 z_3 st_3 hQ_3
  subst l_3 y_3 z_3
  obtain ⟨rfl, Nq_3, eh_3⟩ := hQ_3
  have N_4 := Fr.app N0 Nq_3
  have pre_3 : Rch p.tables e below (s₁.setTop (entryFrame m #[(.int q)] 1)) (T_3.setTop (mkF m 10 #[.val (.int q)] [(.int (1 : Int32))])) := fun tgt ktg => pre_2 tgt (st_3 tgt ktg)
  have pre_5 : Rch p.tables e below (s₁.setTop (entryFrame m #[(.int q)] 1)) (T_3.setTop (mkF m 13 #[.val (.int q)] [])) := fun tgt ktg => pre_3 tgt (by
    show Steps p.tables e below (T_3.setTop (mkF m 10 #[.val (.int q)] [(.int (1 : Int32))])) _
    refine XS.ifNo X_3.here hx rfl (hb hby d18_10) rfl ((if0 _ _).trans (feq (by decide : ¬ ((1 : Int32) = (0 : Int32)))).1) ?_
    exact ktg)
  obtain ⟨T_6, h_6, X_6, e_6, E_6, A_6, D_6, U_6, st_6⟩ := newO X_3 hx hZ hown (hw _ (List.mem_of_getElem? (i := 116) rfl)) (hw _ (List.mem_of_getElem? (i := 117) rfl)) (hw _ (List.mem_of_getElem? (i := 109) rfl)) eh_3 (g := (mkF m 13 #[.val (.int q)] [])) rfl (hb hby d18_13) (by decide) (by decide)
  obtain ⟨a, g_6⟩ : ∃ nm_, nm_ = h0.size := ⟨_, rfl⟩
  rw [← g_6] at A_6 D_6 U_6 st_6
  have g_a : n0 ≤ a := Nat.le_trans Z0 (Nat.le_of_eq g_6.symm)
  have sz_a : h0.size ≤ a := Nat.le_trans K0.1 (Nat.le_of_eq g_6.symm)
  have pre_6 : Rch p.tables e below (s₁.setTop (entryFrame m #[(.int q)] 1)) (T_6.setTop (mkF m 16 #[.val (.int q)] [(.ref a)])) := fun tgt ktg => pre_5 tgt (st_6 tgt ktg)
  have z_7 : n0 ≤ h_6.size := Nat.le_trans Z0 E_6.1
  have K_8 : Keep h0 h_6 [] := K0.ext E_6
  have f_9 : Exa Z h_6 a "java/lang/String" := A_6
  have f_10 : Fld Z h_6 a "java/lang/String" "value" "[B" .null := D_6 (Or.inr (hw _ (List.mem_of_getElem? (i := 128) rfl))) (ty := (.array .byte)) (by decide)
  have f_11 : Fld Z h_6 a "java/lang/String" "coder" "B" (.int (0 : Int32)) := D_6 (Or.inr (hw _ (List.mem_of_getElem? (i := 130) rfl))) (ty := .byte) (by decide)
  have pre_12 : Rch p.tables e below (s₁.setTop (entryFrame m #[(.int q)] 1)) (T_6.setTop (mkF m 18 #[.val (.int q)] [(.int q), (.ref a), (.ref a)])) := fun tgt ktg => pre_6 tgt (by
    show Steps p.tables e below (T_6.setTop (mkF m 16 #[.val (.int q)] [(.ref a)])) _
    refine XS.dup X_6.here hx rfl (hb hby d18_16) rfl rfl ?_
    show Steps p.tables e below (T_6.setTop (mkF m 17 #[.val (.int q)] [(.ref a), (.ref a)])) _
    refine XS.iloadN X_6.here hx rfl (hb hby d18_17) rfl ?_
    exact ktg)
  obtain ⟨_, _, ⟨T_13, L_13, k_13, n_13⟩, -, X_13, ⟨Lc_13, hQ_13, l_13, y_13, z_13⟩, st_13⟩ := Jvm.LawKit.callS X_6 hx (y := (⟨"java/lang/StringLatin1", "toBytes", "(C)[B"⟩ : MethodName)) hown (mvT hZ (hw _ (List.mem_of_getElem? (i := 118) rfl))) (mvT hZ (hw _ (List.mem_of_getElem? (i := 119) rfl))) (mvT hZ (hw _ (List.mem_of_getElem? (i := 114) rfl))) (mvT hZ (hw _ (List.mem_of_getElem? (i := 120) rfl))) (by decide) (backOf (W := 2) (rm20 l Z a0 hw [] q h_6 n0 z_7) hZ (hw _ (List.mem_of_getElem? (i := 120) rfl)) (hw _ (List.mem_of_getElem? (i := 114) rfl)) (by decide) (by decide)) (g := (mkF m 18 #[.val (.int q)] [(.int q), (.ref a), (.ref a)])) rfl (by rw [hml]; rfl) (argsL := [(.int q)]) (rest := [(.ref a), (.ref a)]) (lenOf pd_12 rfl) rfl (by show 2 * 0 + _ ≤ _; exact Nat.le_of_eq rfl) (hb hby d18_18) (fun _ _ => ⟨rfl, e_6, (by decide : 1 + 1 ≤ _), (by decide : 4 + 1 ≤ _)⟩)
  dsimp only [Pt.U, Pt.locs, Pt.cells, Pt.slots] at X_13 l_13 y_13 z_13 st_13 hQ_13
  subst l_13 y_13 z_13
  obtain ⟨b, rfl, Nq_13, Kq_13⟩ := hQ_13
  have N_14 := Fr.app N_4 Nq_13
  have pre_13 : Rch p.tables e below (s₁.setTop (entryFrame m #[(.int q)] 1)) (T_13.setTop (mkF m 21 #[.val (.int q)] [(.ref b), (.ref a), (.ref a)])) := fun tgt ktg => pre_12 tgt (st_13 tgt ktg)
  have f_15 : Exa Z T_13.heap a "java/lang/String" := f_9.keep Kq_13
  have f_16 : Fld Z T_13.heap a "java/lang/String" "value" "[B" .null := f_10.keep Kq_13 nin0
  have f_17 : Fld Z T_13.heap a "java/lang/String" "coder" "B" (.int (0 : Int32)) := f_11.keep Kq_13 nin0
  have z_18 : n0 ≤ T_13.heap.size := Nat.le_trans z_7 Kq_13.1
  have K_19 : Keep h0 T_13.heap [] := K_8.trans Kq_13 (all0 (P := fun x => x ∈ ([] : List Addr) ∨ h0.size ≤ x))
  have pre_20 : Rch p.tables e below (s₁.setTop (entryFrame m #[(.int q)] 1)) (T_13.setTop (mkF m 22 #[.val (.int q)] [(.int (0 : Int32)), (.ref b), (.ref a), (.ref a)])) := fun tgt ktg => pre_13 tgt (by
    show Steps p.tables e below (T_13.setTop (mkF m 21 #[.val (.int q)] [(.ref b), (.ref a), (.ref a)])) _
    refine XS.iconst X_13.here hx rfl (hb hby d18_21) ?_
    exact ktg)
  obtain ⟨_, _, ⟨T_21, L_21, k_21, n_21⟩, -, X_21, ⟨Lc_21, hQ_21, l_21, y_21, z_21⟩, st_21⟩ := X_13.specialBack hx (y := (⟨"java/lang/String", "<init>", "([BB)V"⟩ : MethodName)) rfl hown (mvT hZ (hw _ (List.mem_of_getElem? (i := 122) rfl))) (mvT hZ (hw _ (List.mem_of_getElem? (i := 123) rfl))) (mvT hZ (hw _ (List.mem_of_getElem? (i := 125) rfl))) (by decide) (backOf (W := 1) (rm21 l Z a0 hw [] a b T_13.heap n0 z_18 f_15 f_16 f_17 g_a) hZ (hw _ (List.mem_of_getElem? (i := 125) rfl)) (hw _ (List.mem_of_getElem? (i := 109) rfl)) (by decide) (by decide)) (g := (mkF m 22 #[.val (.int q)] [(.int (0 : Int32)), (.ref b), (.ref a), (.ref a)])) rfl (by rw [hml]; rfl) (Steps.refl _) (a := a) (argsL := [(.ref b), (.int (0 : Int32))]) (rest := [(.ref a)]) (lenOf pd_13 rfl) rfl (by show 2 * 0 + _ ≤ _; exact Nat.le_of_eq rfl) (hb hby d18_22) (fun _ _ => ⟨rfl, rfl, (by decide : 2 + 0 ≤ _), (by decide : 5 + 0 ≤ _)⟩)
  dsimp only [Pt.U, Pt.locs, Pt.cells, Pt.slots] at X_21 l_21 y_21 z_21 st_21 hQ_21
  subst l_21 y_21 z_21
  obtain ⟨rfl, Nq_21, Kq_21⟩ := hQ_21
  have N_22 := Fr.app N_14 Nq_21
  have pre_21 : Rch p.tables e below (s₁.setTop (entryFrame m #[(.int q)] 1)) (T_21.setTop (mkF m 25 #[.val (.int q)] [(.ref a)])) := fun tgt ktg => pre_20 tgt (st_21.trans ktg)
  have z_23 : n0 ≤ T_21.heap.size := Nat.le_trans z_18 Kq_21.1
  have K_24 : Keep h0 T_21.heap [] := K_19.trans Kq_21 (allS (P := fun x => x ∈ ([] : List Addr) ∨ h0.size ≤ x) (Or.inr sz_a) (all0 (P := fun x => x ∈ ([] : List Addr) ∨ h0.size ≤ x)))
  obtain ⟨fs, hr, hrun, hended, hW, hsame⟩ := X_21.leave (v := some (.ref a)) (fun h => by rw [Bd.returns] at h; cases h)
  refine ⟨_, _, pre_21 _ ?_, hrun, hended, _, _, rfl, ?_, ⟨_, rfl⟩, hW, hsame.mono (by decide) (by decide)⟩
  · show Steps p.tables e below (T_21.setTop (mkF m 25 #[.val (.int q)] [(.ref a)])) _
    jvm_step X_21.here [X_21.here.top, hx, (hb hby d18_25), X_21.method', Bd.returns, Value.isRef, FieldType.isReference]
    first | (intro acts; rw [hr _ acts rfl rfl rfl]) | rw [hr _ _ rfl rfl rfl]
    exact Steps.refl _
  · show Q18 Z q h0 n0 _ T_21.heap _
    exact ⟨a, rfl, N_22, K_24⟩
theorem own_1 {x n u ex : Int32} (h : u = (if (x &&& (4 : Int32)) = (0 : Int32) then (0 : Int32) else (1 : Int32))) (he : ex = (if u = (0 : Int32) then n else (n + (1 : Int32)))) : (n + u) = ex := by
  rw [he]; by_cases q : (x &&& (4 : Int32)) = 0
  · rw [if_pos q] at h; subst h; rw [if_pos rfl, Int32.add_zero]
  · rw [if_neg q] at h; subst h; rw [if_neg (by decide)]
theorem own_2 {x n u rr : Int32} (h : u = (if (x &&& (4 : Int32)) = (0 : Int32) then (0 : Int32) else (1 : Int32))) (he : rr = (if u = (0 : Int32) then ((n + u) + (1 : Int32)) else (n + u))) : ((n + 1) + 0) = rr := by
  rw [he]; by_cases q : (x &&& (4 : Int32)) = 0
  · rw [if_pos q] at h; subst h; rw [if_pos rfl, Int32.add_zero, Int32.add_zero]
  · rw [if_neg q] at h; subst h; rw [if_neg (by decide), Int32.add_zero]
theorem own_u (x n u pu : Int32) (h : u = (if (x &&& (4 : Int32)) = (0 : Int32) then (0 : Int32) else (1 : Int32))) : u = 0 ∨ u = 1 := by
  rw [h]; split
  · exact Or.inl rfl
  · exact Or.inr rfl
theorem own_sec (t : Int64) : ¬ (XT.cmpL (t - (t / (1000000000000 : Int64)) * (1000000000000 : Int64)) (-31557014167219200 : Int64)) < 0 ∧ ¬ (0 : Int32) < (XT.cmpL (t - (t / (1000000000000 : Int64)) * (1000000000000 : Int64)) (31556889864403199 : Int64)) := by
  have e := Jvm.Kit.i64_rem t 1000000000000
  have e1 : (1000000000000 : Int64).toInt = 1000000000000 := by decide
  have e2 : (-31557014167219200 : Int64).toInt = -31557014167219200 := by decide
  have e3 : (31556889864403199 : Int64).toInt = 31556889864403199 := by decide
  rw [e1] at e
  generalize (t - (t / (1000000000000 : Int64)) * (1000000000000 : Int64)) = s at e ⊢
  have b1 := Int.lt_tmod_of_pos t.toInt (b := 1000000000000) (by decide)
  have b2 := Int.tmod_lt_of_pos t.toInt (b := 1000000000000) (by decide)
  have q1 : (-31557014167219200 : Int64) < s := by rw [Int64.lt_iff_toInt_lt]; omega
  have q2 : ¬ (31556889864403199 : Int64) < s := by rw [Int64.lt_iff_toInt_lt]; omega
  refine ⟨?_, ?_⟩
  · simp [XT.cmpL, q1]
  · unfold XT.cmpL; rw [if_neg q2]; split <;> decide
theorem own_i2c {q x : Int32} (h : q = ((x &&& (255 : Int32)).toUInt32.toUInt16.toUInt32.toInt32)) : ¬ (255 : Int32) < q := by
  rw [i2c_mask] at h; subst h
  have e := Jvm.Kit.i32_mask x 255 (k := 8) (by decide) (by decide)
  have e255 : (255 : Int32).toInt = 255 := by decide
  rw [Int32.lt_iff_toInt_lt]; omega
theorem pd_14 : parseMethodDescriptor "(I)Lcom/example/subjectline/subjectline/server/Status;" = some ⟨[.int], some (.object "com/example/subjectline/subjectline/server/Status")⟩ := by decide +kernel
theorem pd_15 : parseMethodDescriptor "(C)Ljava/lang/String;" = some ⟨[.char], some (.object "java/lang/String")⟩ := by decide +kernel
theorem pd_16 : parseMethodDescriptor "(Ljava/lang/Object;)Ljava/util/Optional;" = some ⟨[(.object "java/lang/Object")], some (.object "java/util/Optional")⟩ := by decide +kernel
theorem pd_17 : parseMethodDescriptor "(J)Ljava/time/Instant;" = some ⟨[.long], some (.object "java/time/Instant")⟩ := by decide +kernel
theorem pd_18 : parseMethodDescriptor "(Ljava/util/Optional;)Lcom/example/subjectline/subjectline/server/Progress;" = some ⟨[(.object "java/util/Optional")], some (.object "com/example/subjectline/subjectline/server/Progress")⟩ := by decide +kernel
theorem ef_0 (m : MethodId) (x0 : Int32) (x1 : Int32) (x2 : Int32) (x3 : Int64) : entryFrame m #[(.int x0), (.int x1), (.int x2), (.long x3)] maxLocals = mkF m 0 #[.val (.int x0), .val (.int x1), .val (.int x2), .val (.long x3), .second, .unset, .unset, .unset, .unset, .unset, .unset, .unset, .unset, .unset, .unset, .unset] [] := by first | (simp [entryFrame, mkF, argsToLocals, Value.category, maxLocals]; done) | rfl
def Q0 (Z : State) (p0 : Int32) (p1 : Int32) (p2 : Int32) (p3 : Int64) (h0 : Heap) (n0 : Nat) (v : Option Value) (h : Heap) (L : List Loc) : Prop := v = some (.int 1) ∧ Fr n0 L
set_option maxRecDepth 65536 in
set_option maxHeartbeats 40000000 in
theorem rm0 (l : Launch) (Z : State) (a0 : Array Value) (hw : ∀ d ∈ tables_1, d.before a0 Z = true) (ws : List Jvm.Cond) (p0 : Int32) (p1 : Int32) (p2 : Int32) (p3 : Int64) (h0 : Heap) (n0 : Nat) (Z0 : n0 ≤ h0.size) (W : Int32 → Addr) (pa em ep : Addr) (cs : Int32) (hcs : ¬ cs = 0) (S0 : Sta Z h0 "com/example/subjectline/subjectline/server/Status" "RECEIVED" "Lcom/example/subjectline/subjectline/server/Status;" (.ref (W 0))) (S1 : Sta Z h0 "com/example/subjectline/subjectline/server/Status" "COMPLETED" "Lcom/example/subjectline/subjectline/server/Status;" (.ref (W 1))) (S2 : Sta Z h0 "com/example/subjectline/subjectline/server/Status" "FAILED" "Lcom/example/subjectline/subjectline/server/Status;" (.ref (W 2))) (S3 : Sta Z h0 "com/example/subjectline/subjectline/server/Status" "NOTIFIED" "Lcom/example/subjectline/subjectline/server/Status;" (.ref (W 3))) (S4 : Sta Z h0 "com/example/subjectline/subjectline/server/Status" "UNDELIVERABLE" "Lcom/example/subjectline/subjectline/server/Status;" (.ref (W 4))) (HS : ∀ k : Int32, StS Z h0 (W (ck k)) pa em) (TA : Sta Z h0 "java/util/Optional" "EMPTY" "Ljava/util/Optional;" (.ref em)) (TB : Sta Z h0 "java/time/Instant" "EPOCH" "Ljava/time/Instant;" (.ref ep)) (TC : Sta Z h0 "java/lang/String" "COMPACT_STRINGS" "Z" (.int cs)) (OE : OptS Z h0 em 0) :
    MetFree l x (head1 (Jvm.Cond.code x code maxLocals ret :: ws) room_1) (fun aA U => aA = #[(.int p0), (.int p1), (.int p2), (.long p3)] ∧ Z.Warmed39 U.vm ∧ U.heap = h0) (fun _ _ _ _ _ => True) (fun _ U oO U' => ∃ vV LL, oO = .returned vV ∧ Q0 Z p0 p1 p2 p3 h0 n0 vV U'.heap LL ∧ FrameEnd U oO U' LL room_1.cells room_1.slots) := by
  refine MetFree.of_bodySF (plainFor_of_name pn_0) hisR ?_
  intro p e s m args below meth c s₁ Bd hml0 hP hK
  obtain ⟨rfl, hZ, hh⟩ := hP
  have hx := Bd.exec
  have hby := Bd.bytes
  have hml : c.maxLocals = 16 := hml0
  have hown : s.vm.findClass "com/example/subjectline/subjectline/server/ProgressCallbacksSentPinLaw" = some m.cls := findClass_of_methodNamed Bd.named
  have hnm := (name_of_methodNamed Bd.named Bd.method).1
  have X0 : Stand p l e room_1 s m #[(.int p0), (.int p1), (.int p2), (.long p3)] below meth c s₁ [] 0 0 := Stand.of_body Bd
  have e0 : s₁.heap = h0 := by rw [← hh, Bd.state]; rfl
  have N0 := Fr.nil n0
  have K0 : Keep h0 h0 [] := Keep.refl _ _
  have pre0 : Rch p.tables e below (s₁.setTop (entryFrame m #[(.int p0), (.int p1), (.int p2), (.long p3)] maxLocals)) (s₁.setTop (mkF m 0 #[.val (.int p0), .val (.int p1), .val (.int p2), .val (.long p3), .second, .unset, .unset, .unset, .unset, .unset, .unset, .unset, .unset, .unset, .unset, .unset] [])) := fun tgt ktg => castTop (ef_0 m p0 p1 p2 p3) ktg
  have pre_1 : Rch p.tables e below (s₁.setTop (entryFrame m #[(.int p0), (.int p1), (.int p2), (.long p3)] maxLocals)) (s₁.setTop (mkF m 1 #[.val (.int p0), .val (.int p1), .val (.int p2), .val (.long p3), .second, .unset, .unset, .unset, .unset, .unset, .unset, .unset, .unset, .unset, .unset, .unset] [(.int p0)])) := fun tgt ktg => pre0 tgt (by
    show Steps p.tables e below (s₁.setTop (mkF m 0 #[.val (.int p0), .val (.int p1), .val (.int p2), .val (.long p3), .second, .unset, .unset, .unset, .unset, .unset, .unset, .unset, .unset, .unset, .unset, .unset] [])) _
    refine XS.iloadN X0.here hx rfl (hb hby at_0) rfl ?_
    exact ktg)
  obtain ⟨_, _, ⟨T_2, L_2, k_2, n_2⟩, -, X_2, ⟨Lc_2, hQ_2, l_2, y_2, z_2⟩, st_2⟩ := Jvm.LawKit.callS X0 hx (y := (⟨"com/example/subjectline/subjectline/server/ProgressCallbacksSentPinLaw", "status", "(I)Lcom/example/subjectline/subjectline/server/Status;"⟩ : MethodName)) hown (mvT hZ (hw _ (List.mem_of_getElem? (i := 0) rfl))) (mvT hZ (hw _ (List.mem_of_getElem? (i := 1) rfl))) (mvT hZ (hw _ (List.mem_of_getElem? (i := 2) rfl))) (mvT hZ (hw _ (List.mem_of_getElem? (i := 3) rfl))) (by decide) (backOf (W := 0) (rm1 l Z a0 hw [] p0 W h0 n0 Z0 S0 S1 S2 S3 S4) hZ (hw _ (List.mem_of_getElem? (i := 3) rfl)) (hw _ (List.mem_of_getElem? (i := 2) rfl)) (by decide) (by decide)) (g := (mkF m 1 #[.val (.int p0), .val (.int p1), .val (.int p2), .val (.long p3), .second, .unset, .unset, .unset, .unset, .unset, .unset, .unset, .unset, .unset, .unset, .unset] [(.int p0)])) rfl (by rw [hml]; rfl) (argsL := [(.int p0)]) (rest := []) (lenOf pd_14 rfl) rfl (by show 2 * 0 + _ ≤ _; exact Nat.le_of_eq rfl) (hb hby at_1) (fun _ _ => ⟨rfl, e0, (by decide : 0 + 0 ≤ _), (by decide : 0 + 0 ≤ _)⟩)
  dsimp only [Pt.U, Pt.locs, Pt.cells, Pt.slots] at X_2 l_2 y_2 z_2 st_2 hQ_2
  subst l_2 y_2 z_2
  obtain ⟨k, rfl, Nq_2, eh_2⟩ := hQ_2
  have N_3 := Fr.app N0 Nq_2
  have pre_2 : Rch p.tables e below (s₁.setTop (entryFrame m #[(.int p0), (.int p1), (.int p2), (.long p3)] maxLocals)) (T_2.setTop (mkF m 4 #[.val (.int p0), .val (.int p1), .val (.int p2), .val (.long p3), .second, .unset, .unset, .unset, .unset, .unset, .unset, .unset, .unset, .unset, .unset, .unset] [(.ref (W (ck k)))])) := fun tgt ktg => pre_1 tgt (st_2 tgt ktg)
  obtain ⟨st, hv_st⟩ : ∃ nm_ : Addr, nm_ = (W (ck k)) := ⟨_, rfl⟩
  have pre_4 : Rch p.tables e below (s₁.setTop (entryFrame m #[(.int p0), (.int p1), (.int p2), (.long p3)] maxLocals)) (T_2.setTop (mkF m 4 #[.val (.int p0), .val (.int p1), .val (.int p2), .val (.long p3), .second, .unset, .unset, .unset, .unset, .unset, .unset, .unset, .unset, .unset, .unset, .unset] [(.ref st)])) := fun tgt ktg => pre_2 tgt (by rw [hv_st] at ktg; exact ktg)
  have HS0 : StS Z h0 st pa em := hv_st ▸ HS k
  have pre_5 : Rch p.tables e below (s₁.setTop (entryFrame m #[(.int p0), (.int p1), (.int p2), (.long p3)] maxLocals)) (T_2.setTop (mkF m 9 #[.val (.int p0), .val (.int p1), .val (.int p2), .val (.long p3), .second, .val (.ref st), .unset, .unset, .unset, .unset, .unset, .unset, .unset, .unset, .unset, .unset] [(.int (p2 &&& (1 : Int32)))])) := fun tgt ktg => pre_4 tgt (by
    show Steps p.tables e below (T_2.setTop (mkF m 4 #[.val (.int p0), .val (.int p1), .val (.int p2), .val (.long p3), .second, .unset, .unset, .unset, .unset, .unset, .unset, .unset, .unset, .unset, .unset, .unset] [(.ref st)])) _
    refine XS.astore X_2.here hx rfl (hb hby at_4) rfl rfl (l' := #[.val (.int p0), .val (.int p1), .val (.int p2), .val (.long p3), .second, .val (.ref st), .unset, .unset, .unset, .unset, .unset, .unset, .unset, .unset, .unset, .unset]) rfl ?_
    show Steps p.tables e below (T_2.setTop (mkF m 6 #[.val (.int p0), .val (.int p1), .val (.int p2), .val (.long p3), .second, .val (.ref st), .unset, .unset, .unset, .unset, .unset, .unset, .unset, .unset, .unset, .unset] [])) _
    refine XS.iloadN X_2.here hx rfl (hb hby at_6) rfl ?_
    show Steps p.tables e below (T_2.setTop (mkF m 7 #[.val (.int p0), .val (.int p1), .val (.int p2), .val (.long p3), .second, .val (.ref st), .unset, .unset, .unset, .unset, .unset, .unset, .unset, .unset, .unset, .unset] [(.int p2)])) _
    refine XS.iconst X_2.here hx rfl (hb hby at_7) ?_
    show Steps p.tables e below (T_2.setTop (mkF m 8 #[.val (.int p0), .val (.int p1), .val (.int p2), .val (.long p3), .second, .val (.ref st), .unset, .unset, .unset, .unset, .unset, .unset, .unset, .unset, .unset, .unset] [(.int (1 : Int32)), (.int p2)])) _
    refine XS.iand X_2.here hx rfl (hb hby at_8) rfl ?_
    exact ktg)
  have J_6 : ∃ (T' : State) (h' : Heap) (L' : List Loc) (da : Addr) (pd : Int32), Stand p l e room_1 s m #[(.int p0), (.int p1), (.int p2), (.long p3)] below meth c T' L' 3 6 ∧ T'.heap = h' ∧ Fr n0 L' ∧ Keep h0 h' [] ∧ n0 ≤ h'.size ∧ (OptS Z h' da pd) ∧ Rch p.tables e below (s₁.setTop (entryFrame m #[(.int p0), (.int p1), (.int p2), (.long p3)] maxLocals)) (T'.setTop (mkF m 33 #[.val (.int p0), .val (.int p1), .val (.int p2), .val (.long p3), .second, .val (.ref st), .unset, .unset, .unset, .unset, .unset, .unset, .unset, .unset, .unset, .unset] [(.ref da)])) := by
    by_cases c_7 : (p2 &&& (1 : Int32)) = (0 : Int32)
    · skip
      have pre_8 : Rch p.tables e below (s₁.setTop (entryFrame m #[(.int p0), (.int p1), (.int p2), (.long p3)] maxLocals)) (T_2.setTop (mkF m 30 #[.val (.int p0), .val (.int p1), .val (.int p2), .val (.long p3), .second, .val (.ref st), .unset, .unset, .unset, .unset, .unset, .unset, .unset, .unset, .unset, .unset] [])) := fun tgt ktg => pre_5 tgt (by
        show Steps p.tables e below (T_2.setTop (mkF m 9 #[.val (.int p0), .val (.int p1), .val (.int p2), .val (.long p3), .second, .val (.ref st), .unset, .unset, .unset, .unset, .unset, .unset, .unset, .unset, .unset, .unset] [(.int (p2 &&& (1 : Int32)))])) _
        refine XS.ifYes X_2.here hx rfl (pc0 := 9) (pc' := 30) rfl (hb hby at_9) rfl ((if0 _ _).trans (teq c_7).1) (by decide) (by decide) ?_
        exact ktg)
      obtain ⟨_, _, ⟨T_9, L_9, k_9, n_9⟩, -, X_9, ⟨Lc_9, hQ_9, l_9, y_9, z_9⟩, st_9⟩ := Jvm.LawKit.callS X_2 hx (y := (⟨"java/util/Optional", "empty", "()Ljava/util/Optional;"⟩ : MethodName)) hown (mvT hZ (hw _ (List.mem_of_getElem? (i := 8) rfl))) (mvT hZ (hw _ (List.mem_of_getElem? (i := 9) rfl))) (mvT hZ (hw _ (List.mem_of_getElem? (i := 10) rfl))) (mvT hZ (hw _ (List.mem_of_getElem? (i := 11) rfl))) (by decide) (backOf (W := 0) (rm2 l Z a0 hw [] em h0 n0 Z0 TA) hZ (hw _ (List.mem_of_getElem? (i := 11) rfl)) (hw _ (List.mem_of_getElem? (i := 10) rfl)) (by decide) (by decide)) (g := (mkF m 30 #[.val (.int p0), .val (.int p1), .val (.int p2), .val (.long p3), .second, .val (.ref st), .unset, .unset, .unset, .unset, .unset, .unset, .unset, .unset, .unset, .unset] [])) rfl (by rw [hml]; rfl) (argsL := []) (rest := []) (lenOf pd_10 rfl) rfl (by show 2 * 0 + _ ≤ _; exact Nat.le_of_eq rfl) (hb hby at_30) (fun _ _ => ⟨rfl, eh_2, (by decide : 0 + 0 ≤ _), (by decide : 0 + 0 ≤ _)⟩)
      dsimp only [Pt.U, Pt.locs, Pt.cells, Pt.slots] at X_9 l_9 y_9 z_9 st_9 hQ_9
      subst l_9 y_9 z_9
      obtain ⟨rfl, Nq_9, eh_9⟩ := hQ_9
      have N_10 := Fr.app N_3 Nq_9
      have pre_9 : Rch p.tables e below (s₁.setTop (entryFrame m #[(.int p0), (.int p1), (.int p2), (.long p3)] maxLocals)) (T_9.setTop (mkF m 33 #[.val (.int p0), .val (.int p1), .val (.int p2), .val (.long p3), .second, .val (.ref st), .unset, .unset, .unset, .unset, .unset, .unset, .unset, .unset, .unset, .unset] [(.ref em)])) := fun tgt ktg => pre_8 tgt (st_9 tgt ktg)
      exact ⟨T_9, h0, _, em, 0, X_9.more (by decide) (by decide), eh_9, N_10, K0, Z0, OE, pre_9⟩
    · skip
      have pre_11 : Rch p.tables e below (s₁.setTop (entryFrame m #[(.int p0), (.int p1), (.int p2), (.long p3)] maxLocals)) (T_2.setTop (mkF m 12 #[.val (.int p0), .val (.int p1), .val (.int p2), .val (.long p3), .second, .val (.ref st), .unset, .unset, .unset, .unset, .unset, .unset, .unset, .unset, .unset, .unset] [])) := fun tgt ktg => pre_5 tgt (by
        show Steps p.tables e below (T_2.setTop (mkF m 9 #[.val (.int p0), .val (.int p1), .val (.int p2), .val (.long p3), .second, .val (.ref st), .unset, .unset, .unset, .unset, .unset, .unset, .unset, .unset, .unset, .unset] [(.int (p2 &&& (1 : Int32)))])) _
        refine XS.ifNo X_2.here hx rfl (hb hby at_9) rfl ((if0 _ _).trans (feq c_7).1) ?_
        exact ktg)
      have pre_12 : Rch p.tables e below (s₁.setTop (entryFrame m #[(.int p0), (.int p1), (.int p2), (.long p3)] maxLocals)) (T_2.setTop (mkF m 21 #[.val (.int p0), .val (.int p1), .val (.int p2), .val (.long p3), .second, .val (.ref st), .unset, .unset, .unset, .unset, .unset, .unset, .unset, .unset, .unset, .unset] [(.int ((((p2.toUInt32 >>> ((8 : Int32) &&& 31).toUInt32).toInt32) &&& (255 : Int32)).toUInt32.toUInt16.toUInt32.toInt32))])) := fun tgt ktg => pre_11 tgt (by
        show Steps p.tables e below (T_2.setTop (mkF m 12 #[.val (.int p0), .val (.int p1), .val (.int p2), .val (.long p3), .second, .val (.ref st), .unset, .unset, .unset, .unset, .unset, .unset, .unset, .unset, .unset, .unset] [])) _
        refine XS.iloadN X_2.here hx rfl (hb hby at_12) rfl ?_
        show Steps p.tables e below (T_2.setTop (mkF m 13 #[.val (.int p0), .val (.int p1), .val (.int p2), .val (.long p3), .second, .val (.ref st), .unset, .unset, .unset, .unset, .unset, .unset, .unset, .unset, .unset, .unset] [(.int p2)])) _
        refine XS.bipush X_2.here hx rfl (hb hby at_13) ?_
        show Steps p.tables e below (T_2.setTop (mkF m 15 #[.val (.int p0), .val (.int p1), .val (.int p2), .val (.long p3), .second, .val (.ref st), .unset, .unset, .unset, .unset, .unset, .unset, .unset, .unset, .unset, .unset] [(.int (8 : Int32)), (.int p2)])) _
        refine XT.iushr X_2.here hx rfl (hb hby at_15) rfl ?_
        show Steps p.tables e below (T_2.setTop (mkF m 16 #[.val (.int p0), .val (.int p1), .val (.int p2), .val (.long p3), .second, .val (.ref st), .unset, .unset, .unset, .unset, .unset, .unset, .unset, .unset, .unset, .unset] [(.int ((p2.toUInt32 >>> ((8 : Int32) &&& 31).toUInt32).toInt32))])) _
        refine XS.sipush X_2.here hx rfl (hb hby at_16) ?_
        show Steps p.tables e below (T_2.setTop (mkF m 19 #[.val (.int p0), .val (.int p1), .val (.int p2), .val (.long p3), .second, .val (.ref st), .unset, .unset, .unset, .unset, .unset, .unset, .unset, .unset, .unset, .unset] [(.int (255 : Int32)), (.int ((p2.toUInt32 >>> ((8 : Int32) &&& 31).toUInt32).toInt32))])) _
        refine XS.iand X_2.here hx rfl (hb hby at_19) rfl ?_
        show Steps p.tables e below (T_2.setTop (mkF m 20 #[.val (.int p0), .val (.int p1), .val (.int p2), .val (.long p3), .second, .val (.ref st), .unset, .unset, .unset, .unset, .unset, .unset, .unset, .unset, .unset, .unset] [(.int (((p2.toUInt32 >>> ((8 : Int32) &&& 31).toUInt32).toInt32) &&& (255 : Int32)))])) _
        refine XT.i2c X_2.here hx rfl (hb hby at_20) rfl ?_
        exact ktg)
      obtain ⟨qc, hv_qc⟩ : ∃ nm_ : Int32, nm_ = ((((p2.toUInt32 >>> ((8 : Int32) &&& 31).toUInt32).toInt32) &&& (255 : Int32)).toUInt32.toUInt16.toUInt32.toInt32) := ⟨_, rfl⟩
      have pre_13 : Rch p.tables e below (s₁.setTop (entryFrame m #[(.int p0), (.int p1), (.int p2), (.long p3)] maxLocals)) (T_2.setTop (mkF m 21 #[.val (.int p0), .val (.int p1), .val (.int p2), .val (.long p3), .second, .val (.ref st), .unset, .unset, .unset, .unset, .unset, .unset, .unset, .unset, .unset, .unset] [(.int qc)])) := fun tgt ktg => pre_12 tgt (by rw [hv_qc] at ktg; exact ktg)
      obtain ⟨_, _, ⟨T_14, L_14, k_14, n_14⟩, -, X_14, ⟨Lc_14, hQ_14, l_14, y_14, z_14⟩, st_14⟩ := Jvm.LawKit.callS X_2 hx (y := (⟨"java/lang/String", "valueOf", "(C)Ljava/lang/String;"⟩ : MethodName)) hown (mvT hZ (hw _ (List.mem_of_getElem? (i := 107) rfl))) (mvT hZ (hw _ (List.mem_of_getElem? (i := 108) rfl))) (mvT hZ (hw _ (List.mem_of_getElem? (i := 109) rfl))) (mvT hZ (hw _ (List.mem_of_getElem? (i := 110) rfl))) (by decide) (backOf (W := 0) (rm18 l Z a0 hw [] qc h0 n0 Z0 cs hcs TC (own_i2c hv_qc)) hZ (hw _ (List.mem_of_getElem? (i := 110) rfl)) (hw _ (List.mem_of_getElem? (i := 109) rfl)) (by decide) (by decide)) (g := (mkF m 21 #[.val (.int p0), .val (.int p1), .val (.int p2), .val (.long p3), .second, .val (.ref st), .unset, .unset, .unset, .unset, .unset, .unset, .unset, .unset, .unset, .unset] [(.int qc)])) rfl (by rw [hml]; rfl) (argsL := [(.int qc)]) (rest := []) (lenOf pd_15 rfl) rfl (by show 2 * 0 + _ ≤ _; exact Nat.le_of_eq rfl) (hb hby at_21) (fun _ _ => ⟨rfl, eh_2, (by decide : 0 + 2 ≤ _), (by decide : 0 + 5 ≤ _)⟩)
      dsimp only [Pt.U, Pt.locs, Pt.cells, Pt.slots] at X_14 l_14 y_14 z_14 st_14 hQ_14
      subst l_14 y_14 z_14
      obtain ⟨b, rfl, Nq_14, Kq_14⟩ := hQ_14
      have N_15 := Fr.app N_3 Nq_14
      have pre_14 : Rch p.tables e below (s₁.setTop (entryFrame m #[(.int p0), (.int p1), (.int p2), (.long p3)] maxLocals)) (T_14.setTop (mkF m 24 #[.val (.int p0), .val (.int p1), .val (.int p2), .val (.long p3), .second, .val (.ref st), .unset, .unset, .unset, .unset, .unset, .unset, .unset, .unset, .unset, .unset] [(.ref b)])) := fun tgt ktg => pre_13 tgt (st_14 tgt ktg)
      have z_16 : n0 ≤ T_14.heap.size := Nat.le_trans Z0 Kq_14.1
      have K_17 : Keep h0 T_14.heap [] := K0.trans Kq_14 (all0 (P := fun x => x ∈ ([] : List Addr) ∨ h0.size ≤ x))
      obtain ⟨_, _, ⟨T_18, L_18, k_18, n_18⟩, -, X_18, ⟨Lc_18, hQ_18, l_18, y_18, z_18⟩, st_18⟩ := Jvm.LawKit.callS X_14 hx (y := (⟨"java/util/Optional", "of", "(Ljava/lang/Object;)Ljava/util/Optional;"⟩ : MethodName)) hown (mvT hZ (hw _ (List.mem_of_getElem? (i := 36) rfl))) (mvT hZ (hw _ (List.mem_of_getElem? (i := 37) rfl))) (mvT hZ (hw _ (List.mem_of_getElem? (i := 10) rfl))) (mvT hZ (hw _ (List.mem_of_getElem? (i := 38) rfl))) (by decide) (backOf (W := 0) (rm7 l Z a0 hw [] b T_14.heap n0 z_16) hZ (hw _ (List.mem_of_getElem? (i := 38) rfl)) (hw _ (List.mem_of_getElem? (i := 10) rfl)) (by decide) (by decide)) (g := (mkF m 24 #[.val (.int p0), .val (.int p1), .val (.int p2), .val (.long p3), .second, .val (.ref st), .unset, .unset, .unset, .unset, .unset, .unset, .unset, .unset, .unset, .unset] [(.ref b)])) rfl (by rw [hml]; rfl) (argsL := [(.ref b)]) (rest := []) (lenOf pd_16 rfl) rfl (by show 2 * 0 + _ ≤ _; exact Nat.le_of_eq rfl) (hb hby at_24) (fun _ _ => ⟨rfl, rfl, (by decide : 2 + 1 ≤ _), (by decide : 5 + 1 ≤ _)⟩)
      dsimp only [Pt.U, Pt.locs, Pt.cells, Pt.slots] at X_18 l_18 y_18 z_18 st_18 hQ_18
      subst l_18 y_18 z_18
      obtain ⟨o, rfl, Nq_18, Kq_18, b0⟩ := hQ_18
      have N_19 := Fr.app N_15 Nq_18
      have pre_18 : Rch p.tables e below (s₁.setTop (entryFrame m #[(.int p0), (.int p1), (.int p2), (.long p3)] maxLocals)) (T_18.setTop (mkF m 27 #[.val (.int p0), .val (.int p1), .val (.int p2), .val (.long p3), .second, .val (.ref st), .unset, .unset, .unset, .unset, .unset, .unset, .unset, .unset, .unset, .unset] [(.ref o)])) := fun tgt ktg => pre_14 tgt (st_18 tgt ktg)
      have z_20 : n0 ≤ T_18.heap.size := Nat.le_trans z_16 Kq_18.1
      have K_21 : Keep h0 T_18.heap [] := K_17.trans Kq_18 (all0 (P := fun x => x ∈ ([] : List Addr) ∨ h0.size ≤ x))
      have pre_22 : Rch p.tables e below (s₁.setTop (entryFrame m #[(.int p0), (.int p1), (.int p2), (.long p3)] maxLocals)) (T_18.setTop (mkF m 33 #[.val (.int p0), .val (.int p1), .val (.int p2), .val (.long p3), .second, .val (.ref st), .unset, .unset, .unset, .unset, .unset, .unset, .unset, .unset, .unset, .unset] [(.ref o)])) := fun tgt ktg => pre_18 tgt (by
        show Steps p.tables e below (T_18.setTop (mkF m 27 #[.val (.int p0), .val (.int p1), .val (.int p2), .val (.long p3), .second, .val (.ref st), .unset, .unset, .unset, .unset, .unset, .unset, .unset, .unset, .unset, .unset] [(.ref o)])) _
        refine XS.goto X_18.here hx rfl (pc0 := 27) (pc' := 33) rfl (hb hby at_27) (by decide) (by decide) ?_
        exact ktg)
      exact ⟨T_18, T_18.heap, _, o, 1, X_18.more (by decide) (by decide), rfl, N_19, K_21, z_20, b0, pre_22⟩
  obtain ⟨T_6, h_6, L_6, da, pd, X_6, e_6, N_6, K_6, z_6, OD, pre_6⟩ := J_6
  have pre_23 : Rch p.tables e below (s₁.setTop (entryFrame m #[(.int p0), (.int p1), (.int p2), (.long p3)] maxLocals)) (T_6.setTop (mkF m 40 #[.val (.int p0), .val (.int p1), .val (.int p2), .val (.long p3), .second, .val (.ref st), .val (.ref da), .unset, .unset, .unset, .unset, .unset, .unset, .unset, .unset, .unset] [(.long (p3 - (p3 / (1000000000000 : Int64)) * (1000000000000 : Int64)))])) := fun tgt ktg => pre_6 tgt (by
    show Steps p.tables e below (T_6.setTop (mkF m 33 #[.val (.int p0), .val (.int p1), .val (.int p2), .val (.long p3), .second, .val (.ref st), .unset, .unset, .unset, .unset, .unset, .unset, .unset, .unset, .unset, .unset] [(.ref da)])) _
    refine XS.astore X_6.here hx rfl (hb hby at_33) rfl rfl (l' := #[.val (.int p0), .val (.int p1), .val (.int p2), .val (.long p3), .second, .val (.ref st), .val (.ref da), .unset, .unset, .unset, .unset, .unset, .unset, .unset, .unset, .unset]) rfl ?_
    show Steps p.tables e below (T_6.setTop (mkF m 35 #[.val (.int p0), .val (.int p1), .val (.int p2), .val (.long p3), .second, .val (.ref st), .val (.ref da), .unset, .unset, .unset, .unset, .unset, .unset, .unset, .unset, .unset] [])) _
    refine XT.lloadN X_6.here hx rfl (hb hby at_35) rfl ?_
    show Steps p.tables e below (T_6.setTop (mkF m 36 #[.val (.int p0), .val (.int p1), .val (.int p2), .val (.long p3), .second, .val (.ref st), .val (.ref da), .unset, .unset, .unset, .unset, .unset, .unset, .unset, .unset, .unset] [(.long p3)])) _
    refine X_6.ldc2Long hx hown (mvT hZ (hw _ (List.mem_of_getElem? (i := 13) rfl))) (g := (mkF m 36 #[.val (.int p0), .val (.int p1), .val (.int p2), .val (.long p3), .second, .val (.ref st), .val (.ref da), .unset, .unset, .unset, .unset, .unset, .unset, .unset, .unset, .unset] [(.long p3)])) rfl (hb hby at_36) _ ?_
    show Steps p.tables e below (T_6.setTop (mkF m 39 #[.val (.int p0), .val (.int p1), .val (.int p2), .val (.long p3), .second, .val (.ref st), .val (.ref da), .unset, .unset, .unset, .unset, .unset, .unset, .unset, .unset, .unset] [(.long (1000000000000 : Int64)), (.long p3)])) _
    refine XT.lrem X_6.here hx rfl (hb hby at_39) rfl (by decide) ?_
    exact ktg)
  obtain ⟨sc, hv_sc⟩ : ∃ nm_ : Int64, nm_ = (p3 - (p3 / (1000000000000 : Int64)) * (1000000000000 : Int64)) := ⟨_, rfl⟩
  have pre_24 : Rch p.tables e below (s₁.setTop (entryFrame m #[(.int p0), (.int p1), (.int p2), (.long p3)] maxLocals)) (T_6.setTop (mkF m 40 #[.val (.int p0), .val (.int p1), .val (.int p2), .val (.long p3), .second, .val (.ref st), .val (.ref da), .unset, .unset, .unset, .unset, .unset, .unset, .unset, .unset, .unset] [(.long sc)])) := fun tgt ktg => pre_23 tgt (by rw [hv_sc] at ktg; exact ktg)
  have ODs := OD
  obtain ⟨_, _, ⟨T_25, L_25, k_25, n_25⟩, -, X_25, ⟨Lc_25, hQ_25, l_25, y_25, z_25⟩, st_25⟩ := Jvm.LawKit.callS X_6 hx (y := (⟨"java/time/Instant", "ofEpochSecond", "(J)Ljava/time/Instant;"⟩ : MethodName)) hown (mvT hZ (hw _ (List.mem_of_getElem? (i := 14) rfl))) (mvT hZ (hw _ (List.mem_of_getElem? (i := 15) rfl))) (mvT hZ (hw _ (List.mem_of_getElem? (i := 16) rfl))) (mvT hZ (hw _ (List.mem_of_getElem? (i := 17) rfl))) (by decide) (backOf (W := 0) (rm3 l Z a0 hw [] sc h_6 n0 z_6 ep (own_sta_keep TB K_6 ns0) (hv_sc ▸ own_sec p3)) hZ (hw _ (List.mem_of_getElem? (i := 17) rfl)) (hw _ (List.mem_of_getElem? (i := 16) rfl)) (by decide) (by decide)) (g := (mkF m 40 #[.val (.int p0), .val (.int p1), .val (.int p2), .val (.long p3), .second, .val (.ref st), .val (.ref da), .unset, .unset, .unset, .unset, .unset, .unset, .unset, .unset, .unset] [(.long sc)])) rfl (by rw [hml]; rfl) (argsL := [(.long sc)]) (rest := []) (lenOf pd_17 rfl) rfl (by show 2 * 0 + _ ≤ _; exact Nat.le_of_eq rfl) (hb hby at_40) (fun _ _ => ⟨rfl, e_6, (by decide : 3 + 1 ≤ _), (by decide : 6 + 2 ≤ _)⟩)
  dsimp only [Pt.U, Pt.locs, Pt.cells, Pt.slots] at X_25 l_25 y_25 z_25 st_25 hQ_25
  subst l_25 y_25 z_25
  obtain ⟨wh, rfl, Nq_25, Kq_25⟩ := hQ_25
  have N_26 := Fr.app N_6 Nq_25
  have pre_25 : Rch p.tables e below (s₁.setTop (entryFrame m #[(.int p0), (.int p1), (.int p2), (.long p3)] maxLocals)) (T_25.setTop (mkF m 43 #[.val (.int p0), .val (.int p1), .val (.int p2), .val (.long p3), .second, .val (.ref st), .val (.ref da), .unset, .unset, .unset, .unset, .unset, .unset, .unset, .unset, .unset] [(.ref wh)])) := fun tgt ktg => pre_24 tgt (st_25 tgt ktg)
  have z_27 : n0 ≤ T_25.heap.size := Nat.le_trans z_6 Kq_25.1
  have K_28 : Keep h0 T_25.heap [] := K_6.trans Kq_25 (all0 (P := fun x => x ∈ ([] : List Addr) ∨ h0.size ≤ x))
  have OD1 := OD.keep Kq_25 nin0
  have pre_29 : Rch p.tables e below (s₁.setTop (entryFrame m #[(.int p0), (.int p1), (.int p2), (.long p3)] maxLocals)) (T_25.setTop (mkF m 48 #[.val (.int p0), .val (.int p1), .val (.int p2), .val (.long p3), .second, .val (.ref st), .val (.ref da), .val (.ref wh), .unset, .unset, .unset, .unset, .unset, .unset, .unset, .unset] [(.int (p2 &&& (2 : Int32)))])) := fun tgt ktg => pre_25 tgt (by
    show Steps p.tables e below (T_25.setTop (mkF m 43 #[.val (.int p0), .val (.int p1), .val (.int p2), .val (.long p3), .second, .val (.ref st), .val (.ref da), .unset, .unset, .unset, .unset, .unset, .unset, .unset, .unset, .unset] [(.ref wh)])) _
    refine XS.astore X_25.here hx rfl (hb hby at_43) rfl rfl (l' := #[.val (.int p0), .val (.int p1), .val (.int p2), .val (.long p3), .second, .val (.ref st), .val (.ref da), .val (.ref wh), .unset, .unset, .unset, .unset, .unset, .unset, .unset, .unset]) rfl ?_
    show Steps p.tables e below (T_25.setTop (mkF m 45 #[.val (.int p0), .val (.int p1), .val (.int p2), .val (.long p3), .second, .val (.ref st), .val (.ref da), .val (.ref wh), .unset, .unset, .unset, .unset, .unset, .unset, .unset, .unset] [])) _
    refine XS.iloadN X_25.here hx rfl (hb hby at_45) rfl ?_
    show Steps p.tables e below (T_25.setTop (mkF m 46 #[.val (.int p0), .val (.int p1), .val (.int p2), .val (.long p3), .second, .val (.ref st), .val (.ref da), .val (.ref wh), .unset, .unset, .unset, .unset, .unset, .unset, .unset, .unset] [(.int p2)])) _
    refine XS.iconst X_25.here hx rfl (hb hby at_46) ?_
    show Steps p.tables e below (T_25.setTop (mkF m 47 #[.val (.int p0), .val (.int p1), .val (.int p2), .val (.long p3), .second, .val (.ref st), .val (.ref da), .val (.ref wh), .unset, .unset, .unset, .unset, .unset, .unset, .unset, .unset] [(.int (2 : Int32)), (.int p2)])) _
    refine XS.iand X_25.here hx rfl (hb hby at_47) rfl ?_
    exact ktg)
  have J_30 : ∃ (T' : State) (h' : Heap) (L' : List Loc) (la : Addr), Stand p l e room_1 s m #[(.int p0), (.int p1), (.int p2), (.long p3)] below meth c T' L' 5 9 ∧ T'.heap = h' ∧ Fr n0 L' ∧ Keep h0 h' [] ∧ n0 ≤ h'.size ∧ (OptS Z h' da pd) ∧ Rch p.tables e below (s₁.setTop (entryFrame m #[(.int p0), (.int p1), (.int p2), (.long p3)] maxLocals)) (T'.setTop (mkF m 62 #[.val (.int p0), .val (.int p1), .val (.int p2), .val (.long p3), .second, .val (.ref st), .val (.ref da), .val (.ref wh), .unset, .unset, .unset, .unset, .unset, .unset, .unset, .unset] [(.ref la)])) := by
    by_cases c_31 : (p2 &&& (2 : Int32)) = (0 : Int32)
    · skip
      have pre_32 : Rch p.tables e below (s₁.setTop (entryFrame m #[(.int p0), (.int p1), (.int p2), (.long p3)] maxLocals)) (T_25.setTop (mkF m 59 #[.val (.int p0), .val (.int p1), .val (.int p2), .val (.long p3), .second, .val (.ref st), .val (.ref da), .val (.ref wh), .unset, .unset, .unset, .unset, .unset, .unset, .unset, .unset] [])) := fun tgt ktg => pre_29 tgt (by
        show Steps p.tables e below (T_25.setTop (mkF m 48 #[.val (.int p0), .val (.int p1), .val (.int p2), .val (.long p3), .second, .val (.ref st), .val (.ref da), .val (.ref wh), .unset, .unset, .unset, .unset, .unset, .unset, .unset, .unset] [(.int (p2 &&& (2 : Int32)))])) _
        refine XS.ifYes X_25.here hx rfl (pc0 := 48) (pc' := 59) rfl (hb hby at_48) rfl ((if0 _ _).trans (teq c_31).1) (by decide) (by decide) ?_
        exact ktg)
      obtain ⟨_, _, ⟨T_33, L_33, k_33, n_33⟩, -, X_33, ⟨Lc_33, hQ_33, l_33, y_33, z_33⟩, st_33⟩ := Jvm.LawKit.callS X_25 hx (y := (⟨"java/util/Optional", "empty", "()Ljava/util/Optional;"⟩ : MethodName)) hown (mvT hZ (hw _ (List.mem_of_getElem? (i := 8) rfl))) (mvT hZ (hw _ (List.mem_of_getElem? (i := 9) rfl))) (mvT hZ (hw _ (List.mem_of_getElem? (i := 10) rfl))) (mvT hZ (hw _ (List.mem_of_getElem? (i := 11) rfl))) (by decide) (backOf (W := 0) (rm2 l Z a0 hw [] em T_25.heap n0 z_27 (own_sta_keep TA K_28 ns0)) hZ (hw _ (List.mem_of_getElem? (i := 11) rfl)) (hw _ (List.mem_of_getElem? (i := 10) rfl)) (by decide) (by decide)) (g := (mkF m 59 #[.val (.int p0), .val (.int p1), .val (.int p2), .val (.long p3), .second, .val (.ref st), .val (.ref da), .val (.ref wh), .unset, .unset, .unset, .unset, .unset, .unset, .unset, .unset] [])) rfl (by rw [hml]; rfl) (argsL := []) (rest := []) (lenOf pd_10 rfl) rfl (by show 2 * 0 + _ ≤ _; exact Nat.le_of_eq rfl) (hb hby at_59) (fun _ _ => ⟨rfl, rfl, (by decide : 4 + 0 ≤ _), (by decide : 8 + 0 ≤ _)⟩)
      dsimp only [Pt.U, Pt.locs, Pt.cells, Pt.slots] at X_33 l_33 y_33 z_33 st_33 hQ_33
      subst l_33 y_33 z_33
      obtain ⟨rfl, Nq_33, eh_33⟩ := hQ_33
      have N_34 := Fr.app N_26 Nq_33
      have pre_33 : Rch p.tables e below (s₁.setTop (entryFrame m #[(.int p0), (.int p1), (.int p2), (.long p3)] maxLocals)) (T_33.setTop (mkF m 62 #[.val (.int p0), .val (.int p1), .val (.int p2), .val (.long p3), .second, .val (.ref st), .val (.ref da), .val (.ref wh), .unset, .unset, .unset, .unset, .unset, .unset, .unset, .unset] [(.ref em)])) := fun tgt ktg => pre_32 tgt (st_33 tgt ktg)
      exact ⟨T_33, T_25.heap, _, em, X_33.more (by decide) (by decide), eh_33, N_34, K_28, z_27, OD1, pre_33⟩
    · skip
      have pre_35 : Rch p.tables e below (s₁.setTop (entryFrame m #[(.int p0), (.int p1), (.int p2), (.long p3)] maxLocals)) (T_25.setTop (mkF m 51 #[.val (.int p0), .val (.int p1), .val (.int p2), .val (.long p3), .second, .val (.ref st), .val (.ref da), .val (.ref wh), .unset, .unset, .unset, .unset, .unset, .unset, .unset, .unset] [])) := fun tgt ktg => pre_29 tgt (by
        show Steps p.tables e below (T_25.setTop (mkF m 48 #[.val (.int p0), .val (.int p1), .val (.int p2), .val (.long p3), .second, .val (.ref st), .val (.ref da), .val (.ref wh), .unset, .unset, .unset, .unset, .unset, .unset, .unset, .unset] [(.int (p2 &&& (2 : Int32)))])) _
        refine XS.ifNo X_25.here hx rfl (hb hby at_48) rfl ((if0 _ _).trans (feq c_31).1) ?_
        exact ktg)
      have pre_36 : Rch p.tables e below (s₁.setTop (entryFrame m #[(.int p0), (.int p1), (.int p2), (.long p3)] maxLocals)) (T_25.setTop (mkF m 53 #[.val (.int p0), .val (.int p1), .val (.int p2), .val (.long p3), .second, .val (.ref st), .val (.ref da), .val (.ref wh), .unset, .unset, .unset, .unset, .unset, .unset, .unset, .unset] [(.ref wh)])) := fun tgt ktg => pre_35 tgt (by
        show Steps p.tables e below (T_25.setTop (mkF m 51 #[.val (.int p0), .val (.int p1), .val (.int p2), .val (.long p3), .second, .val (.ref st), .val (.ref da), .val (.ref wh), .unset, .unset, .unset, .unset, .unset, .unset, .unset, .unset] [])) _
        refine XS.aload X_25.here hx rfl (hb hby at_51) rfl rfl ?_
        exact ktg)
      obtain ⟨_, _, ⟨T_37, L_37, k_37, n_37⟩, -, X_37, ⟨Lc_37, hQ_37, l_37, y_37, z_37⟩, st_37⟩ := Jvm.LawKit.callS X_25 hx (y := (⟨"java/util/Optional", "of", "(Ljava/lang/Object;)Ljava/util/Optional;"⟩ : MethodName)) hown (mvT hZ (hw _ (List.mem_of_getElem? (i := 36) rfl))) (mvT hZ (hw _ (List.mem_of_getElem? (i := 37) rfl))) (mvT hZ (hw _ (List.mem_of_getElem? (i := 10) rfl))) (mvT hZ (hw _ (List.mem_of_getElem? (i := 38) rfl))) (by decide) (backOf (W := 0) (rm7 l Z a0 hw [] wh T_25.heap n0 z_27) hZ (hw _ (List.mem_of_getElem? (i := 38) rfl)) (hw _ (List.mem_of_getElem? (i := 10) rfl)) (by decide) (by decide)) (g := (mkF m 53 #[.val (.int p0), .val (.int p1), .val (.int p2), .val (.long p3), .second, .val (.ref st), .val (.ref da), .val (.ref wh), .unset, .unset, .unset, .unset, .unset, .unset, .unset, .unset] [(.ref wh)])) rfl (by rw [hml]; rfl) (argsL := [(.ref wh)]) (rest := []) (lenOf pd_16 rfl) rfl (by show 2 * 0 + _ ≤ _; exact Nat.le_of_eq rfl) (hb hby at_53) (fun _ _ => ⟨rfl, rfl, (by decide : 4 + 1 ≤ _), (by decide : 8 + 1 ≤ _)⟩)
      dsimp only [Pt.U, Pt.locs, Pt.cells, Pt.slots] at X_37 l_37 y_37 z_37 st_37 hQ_37
      subst l_37 y_37 z_37
      obtain ⟨o, rfl, Nq_37, Kq_37, b0⟩ := hQ_37
      have N_38 := Fr.app N_26 Nq_37
      have pre_37 : Rch p.tables e below (s₁.setTop (entryFrame m #[(.int p0), (.int p1), (.int p2), (.long p3)] maxLocals)) (T_37.setTop (mkF m 56 #[.val (.int p0), .val (.int p1), .val (.int p2), .val (.long p3), .second, .val (.ref st), .val (.ref da), .val (.ref wh), .unset, .unset, .unset, .unset, .unset, .unset, .unset, .unset] [(.ref o)])) := fun tgt ktg => pre_36 tgt (st_37 tgt ktg)
      have z_39 : n0 ≤ T_37.heap.size := Nat.le_trans z_27 Kq_37.1
      have K_40 : Keep h0 T_37.heap [] := K_28.trans Kq_37 (all0 (P := fun x => x ∈ ([] : List Addr) ∨ h0.size ≤ x))
      have pre_41 : Rch p.tables e below (s₁.setTop (entryFrame m #[(.int p0), (.int p1), (.int p2), (.long p3)] maxLocals)) (T_37.setTop (mkF m 62 #[.val (.int p0), .val (.int p1), .val (.int p2), .val (.long p3), .second, .val (.ref st), .val (.ref da), .val (.ref wh), .unset, .unset, .unset, .unset, .unset, .unset, .unset, .unset] [(.ref o)])) := fun tgt ktg => pre_37 tgt (by
        show Steps p.tables e below (T_37.setTop (mkF m 56 #[.val (.int p0), .val (.int p1), .val (.int p2), .val (.long p3), .second, .val (.ref st), .val (.ref da), .val (.ref wh), .unset, .unset, .unset, .unset, .unset, .unset, .unset, .unset] [(.ref o)])) _
        refine XS.goto X_37.here hx rfl (pc0 := 56) (pc' := 62) rfl (hb hby at_56) (by decide) (by decide) ?_
        exact ktg)
      exact ⟨T_37, T_37.heap, _, o, X_37.more (by decide) (by decide), rfl, N_38, K_40, z_39, OD1.keep Kq_37 nin0, pre_41⟩
  obtain ⟨T_30, h_30, L_30, la, X_30, e_30, N_30, K_30, z_30, OD2, pre_30⟩ := J_30
  have pre_42 : Rch p.tables e below (s₁.setTop (entryFrame m #[(.int p0), (.int p1), (.int p2), (.long p3)] maxLocals)) (T_30.setTop (mkF m 64 #[.val (.int p0), .val (.int p1), .val (.int p2), .val (.long p3), .second, .val (.ref st), .val (.ref da), .val (.ref wh), .val (.ref la), .unset, .unset, .unset, .unset, .unset, .unset, .unset] [])) := fun tgt ktg => pre_30 tgt (by
    show Steps p.tables e below (T_30.setTop (mkF m 62 #[.val (.int p0), .val (.int p1), .val (.int p2), .val (.long p3), .second, .val (.ref st), .val (.ref da), .val (.ref wh), .unset, .unset, .unset, .unset, .unset, .unset, .unset, .unset] [(.ref la)])) _
    refine XS.astore X_30.here hx rfl (hb hby at_62) rfl rfl (l' := #[.val (.int p0), .val (.int p1), .val (.int p2), .val (.long p3), .second, .val (.ref st), .val (.ref da), .val (.ref wh), .val (.ref la), .unset, .unset, .unset, .unset, .unset, .unset, .unset]) rfl ?_
    exact ktg)
  obtain ⟨u, hv_u⟩ : ∃ nm_ : Int32, nm_ = (if (p2 &&& (4 : Int32)) = (0 : Int32) then (0 : Int32) else (1 : Int32)) := ⟨_, rfl⟩
  have pre_44 : Rch p.tables e below (s₁.setTop (entryFrame m #[(.int p0), (.int p1), (.int p2), (.long p3)] maxLocals)) (T_30.setTop (mkF m 75 #[.val (.int p0), .val (.int p1), .val (.int p2), .val (.long p3), .second, .val (.ref st), .val (.ref da), .val (.ref wh), .val (.ref la), .unset, .unset, .unset, .unset, .unset, .unset, .unset] [(.int u)])) := fun tgt ktg => pre_42 tgt (by
    show Steps p.tables e below (T_30.setTop (mkF m 64 #[.val (.int p0), .val (.int p1), .val (.int p2), .val (.long p3), .second, .val (.ref st), .val (.ref da), .val (.ref wh), .val (.ref la), .unset, .unset, .unset, .unset, .unset, .unset, .unset] [])) _
    refine XS.iloadN X_30.here hx rfl (hb hby at_64) rfl ?_
    show Steps p.tables e below (T_30.setTop (mkF m 65 #[.val (.int p0), .val (.int p1), .val (.int p2), .val (.long p3), .second, .val (.ref st), .val (.ref da), .val (.ref wh), .val (.ref la), .unset, .unset, .unset, .unset, .unset, .unset, .unset] [(.int p2)])) _
    refine XS.iconst X_30.here hx rfl (hb hby at_65) ?_
    show Steps p.tables e below (T_30.setTop (mkF m 66 #[.val (.int p0), .val (.int p1), .val (.int p2), .val (.long p3), .second, .val (.ref st), .val (.ref da), .val (.ref wh), .val (.ref la), .unset, .unset, .unset, .unset, .unset, .unset, .unset] [(.int (4 : Int32)), (.int p2)])) _
    refine XS.iand X_30.here hx rfl (hb hby at_66) rfl ?_
    by_cases q_43 : (p2 &&& (4 : Int32)) = (0 : Int32)
    · skip
      show Steps p.tables e below (T_30.setTop (mkF m 67 #[.val (.int p0), .val (.int p1), .val (.int p2), .val (.long p3), .second, .val (.ref st), .val (.ref da), .val (.ref wh), .val (.ref la), .unset, .unset, .unset, .unset, .unset, .unset, .unset] [(.int (p2 &&& (4 : Int32)))])) _
      refine XS.ifYes X_30.here hx rfl (pc0 := 67) (pc' := 74) rfl (hb hby at_67) rfl ((if0 _ _).trans (teq q_43).1) (by decide) (by decide) ?_
      show Steps p.tables e below (T_30.setTop (mkF m 74 #[.val (.int p0), .val (.int p1), .val (.int p2), .val (.long p3), .second, .val (.ref st), .val (.ref da), .val (.ref wh), .val (.ref la), .unset, .unset, .unset, .unset, .unset, .unset, .unset] [])) _
      refine XS.iconst X_30.here hx rfl (hb hby at_74) ?_
      have ev_u : u = (0 : Int32) := by rw [hv_u, if_pos q_43]
      rw [ev_u] at ktg
      exact ktg
    · skip
      show Steps p.tables e below (T_30.setTop (mkF m 67 #[.val (.int p0), .val (.int p1), .val (.int p2), .val (.long p3), .second, .val (.ref st), .val (.ref da), .val (.ref wh), .val (.ref la), .unset, .unset, .unset, .unset, .unset, .unset, .unset] [(.int (p2 &&& (4 : Int32)))])) _
      refine XS.ifNo X_30.here hx rfl (hb hby at_67) rfl ((if0 _ _).trans (feq q_43).1) ?_
      show Steps p.tables e below (T_30.setTop (mkF m 70 #[.val (.int p0), .val (.int p1), .val (.int p2), .val (.long p3), .second, .val (.ref st), .val (.ref da), .val (.ref wh), .val (.ref la), .unset, .unset, .unset, .unset, .unset, .unset, .unset] [])) _
      refine XS.iconst X_30.here hx rfl (hb hby at_70) ?_
      show Steps p.tables e below (T_30.setTop (mkF m 71 #[.val (.int p0), .val (.int p1), .val (.int p2), .val (.long p3), .second, .val (.ref st), .val (.ref da), .val (.ref wh), .val (.ref la), .unset, .unset, .unset, .unset, .unset, .unset, .unset] [(.int (1 : Int32))])) _
      refine XS.goto X_30.here hx rfl (pc0 := 71) (pc' := 75) rfl (hb hby at_71) (by decide) (by decide) ?_
      have ev_u : u = (1 : Int32) := by rw [hv_u, if_neg q_43]
      rw [ev_u] at ktg
      exact ktg
    done)
  have pre_45 : Rch p.tables e below (s₁.setTop (entryFrame m #[(.int p0), (.int p1), (.int p2), (.long p3)] maxLocals)) (T_30.setTop (mkF m 79 #[.val (.int p0), .val (.int p1), .val (.int p2), .val (.long p3), .second, .val (.ref st), .val (.ref da), .val (.ref wh), .val (.ref la), .val (.int u), .unset, .unset, .unset, .unset, .unset, .unset] [(.int u)])) := fun tgt ktg => pre_44 tgt (by
    show Steps p.tables e below (T_30.setTop (mkF m 75 #[.val (.int p0), .val (.int p1), .val (.int p2), .val (.long p3), .second, .val (.ref st), .val (.ref da), .val (.ref wh), .val (.ref la), .unset, .unset, .unset, .unset, .unset, .unset, .unset] [(.int u)])) _
    refine XS.istore X_30.here hx rfl (hb hby at_75) rfl (l' := #[.val (.int p0), .val (.int p1), .val (.int p2), .val (.long p3), .second, .val (.ref st), .val (.ref da), .val (.ref wh), .val (.ref la), .val (.int u), .unset, .unset, .unset, .unset, .unset, .unset]) rfl ?_
    show Steps p.tables e below (T_30.setTop (mkF m 77 #[.val (.int p0), .val (.int p1), .val (.int p2), .val (.long p3), .second, .val (.ref st), .val (.ref da), .val (.ref wh), .val (.ref la), .val (.int u), .unset, .unset, .unset, .unset, .unset, .unset] [])) _
    refine XS.iload X_30.here hx rfl (hb hby at_77) rfl ?_
    exact ktg)
  have J_46 : ∃ (T' : State) (h' : Heap) (L' : List Loc) (cq : Addr), Stand p l e room_1 s m #[(.int p0), (.int p1), (.int p2), (.long p3)] below meth c T' L' 6 10 ∧ T'.heap = h' ∧ Fr n0 L' ∧ Keep h0 h' [] ∧ n0 ≤ h'.size ∧ (OptS Z h' da pd) ∧ (OptS Z h' cq u) ∧ Rch p.tables e below (s₁.setTop (entryFrame m #[(.int p0), (.int p1), (.int p2), (.long p3)] maxLocals)) (T'.setTop (mkF m 93 #[.val (.int p0), .val (.int p1), .val (.int p2), .val (.long p3), .second, .val (.ref st), .val (.ref da), .val (.ref wh), .val (.ref la), .val (.int u), .unset, .unset, .unset, .unset, .unset, .unset] [(.ref cq)])) := by
    by_cases c_47 : u = (0 : Int32)
    · skip
      have pre_48 : Rch p.tables e below (s₁.setTop (entryFrame m #[(.int p0), (.int p1), (.int p2), (.long p3)] maxLocals)) (T_30.setTop (mkF m 90 #[.val (.int p0), .val (.int p1), .val (.int p2), .val (.long p3), .second, .val (.ref st), .val (.ref da), .val (.ref wh), .val (.ref la), .val (.int u), .unset, .unset, .unset, .unset, .unset, .unset] [])) := fun tgt ktg => pre_45 tgt (by
        show Steps p.tables e below (T_30.setTop (mkF m 79 #[.val (.int p0), .val (.int p1), .val (.int p2), .val (.long p3), .second, .val (.ref st), .val (.ref da), .val (.ref wh), .val (.ref la), .val (.int u), .unset, .unset, .unset, .unset, .unset, .unset] [(.int u)])) _
        refine XS.ifYes X_30.here hx rfl (pc0 := 79) (pc' := 90) rfl (hb hby at_79) rfl ((if0 _ _).trans (teq c_47).1) (by decide) (by decide) ?_
        exact ktg)
      obtain ⟨_, _, ⟨T_49, L_49, k_49, n_49⟩, -, X_49, ⟨Lc_49, hQ_49, l_49, y_49, z_49⟩, st_49⟩ := Jvm.LawKit.callS X_30 hx (y := (⟨"java/util/Optional", "empty", "()Ljava/util/Optional;"⟩ : MethodName)) hown (mvT hZ (hw _ (List.mem_of_getElem? (i := 8) rfl))) (mvT hZ (hw _ (List.mem_of_getElem? (i := 9) rfl))) (mvT hZ (hw _ (List.mem_of_getElem? (i := 10) rfl))) (mvT hZ (hw _ (List.mem_of_getElem? (i := 11) rfl))) (by decide) (backOf (W := 0) (rm2 l Z a0 hw [] em h_30 n0 z_30 (own_sta_keep TA K_30 ns0)) hZ (hw _ (List.mem_of_getElem? (i := 11) rfl)) (hw _ (List.mem_of_getElem? (i := 10) rfl)) (by decide) (by decide)) (g := (mkF m 90 #[.val (.int p0), .val (.int p1), .val (.int p2), .val (.long p3), .second, .val (.ref st), .val (.ref da), .val (.ref wh), .val (.ref la), .val (.int u), .unset, .unset, .unset, .unset, .unset, .unset] [])) rfl (by rw [hml]; rfl) (argsL := []) (rest := []) (lenOf pd_10 rfl) rfl (by show 2 * 0 + _ ≤ _; exact Nat.le_of_eq rfl) (hb hby at_90) (fun _ _ => ⟨rfl, e_30, (by decide : 5 + 0 ≤ _), (by decide : 9 + 0 ≤ _)⟩)
      dsimp only [Pt.U, Pt.locs, Pt.cells, Pt.slots] at X_49 l_49 y_49 z_49 st_49 hQ_49
      subst l_49 y_49 z_49
      obtain ⟨rfl, Nq_49, eh_49⟩ := hQ_49
      have N_50 := Fr.app N_30 Nq_49
      have pre_49 : Rch p.tables e below (s₁.setTop (entryFrame m #[(.int p0), (.int p1), (.int p2), (.long p3)] maxLocals)) (T_49.setTop (mkF m 93 #[.val (.int p0), .val (.int p1), .val (.int p2), .val (.long p3), .second, .val (.ref st), .val (.ref da), .val (.ref wh), .val (.ref la), .val (.int u), .unset, .unset, .unset, .unset, .unset, .unset] [(.ref em)])) := fun tgt ktg => pre_48 tgt (st_49 tgt ktg)
      exact ⟨T_49, h_30, _, em, X_49.more (by decide) (by decide), eh_49, N_50, K_30, z_30, OD2, by rw [c_47]; exact OE.keep K_30 nin0, pre_49⟩
    · skip
      have pre_51 : Rch p.tables e below (s₁.setTop (entryFrame m #[(.int p0), (.int p1), (.int p2), (.long p3)] maxLocals)) (T_30.setTop (mkF m 82 #[.val (.int p0), .val (.int p1), .val (.int p2), .val (.long p3), .second, .val (.ref st), .val (.ref da), .val (.ref wh), .val (.ref la), .val (.int u), .unset, .unset, .unset, .unset, .unset, .unset] [])) := fun tgt ktg => pre_45 tgt (by
        show Steps p.tables e below (T_30.setTop (mkF m 79 #[.val (.int p0), .val (.int p1), .val (.int p2), .val (.long p3), .second, .val (.ref st), .val (.ref da), .val (.ref wh), .val (.ref la), .val (.int u), .unset, .unset, .unset, .unset, .unset, .unset] [(.int u)])) _
        refine XS.ifNo X_30.here hx rfl (hb hby at_79) rfl ((if0 _ _).trans (feq c_47).1) ?_
        exact ktg)
      have pre_52 : Rch p.tables e below (s₁.setTop (entryFrame m #[(.int p0), (.int p1), (.int p2), (.long p3)] maxLocals)) (T_30.setTop (mkF m 84 #[.val (.int p0), .val (.int p1), .val (.int p2), .val (.long p3), .second, .val (.ref st), .val (.ref da), .val (.ref wh), .val (.ref la), .val (.int u), .unset, .unset, .unset, .unset, .unset, .unset] [(.ref wh)])) := fun tgt ktg => pre_51 tgt (by
        show Steps p.tables e below (T_30.setTop (mkF m 82 #[.val (.int p0), .val (.int p1), .val (.int p2), .val (.long p3), .second, .val (.ref st), .val (.ref da), .val (.ref wh), .val (.ref la), .val (.int u), .unset, .unset, .unset, .unset, .unset, .unset] [])) _
        refine XS.aload X_30.here hx rfl (hb hby at_82) rfl rfl ?_
        exact ktg)
      obtain ⟨_, _, ⟨T_53, L_53, k_53, n_53⟩, -, X_53, ⟨Lc_53, hQ_53, l_53, y_53, z_53⟩, st_53⟩ := Jvm.LawKit.callS X_30 hx (y := (⟨"java/util/Optional", "of", "(Ljava/lang/Object;)Ljava/util/Optional;"⟩ : MethodName)) hown (mvT hZ (hw _ (List.mem_of_getElem? (i := 36) rfl))) (mvT hZ (hw _ (List.mem_of_getElem? (i := 37) rfl))) (mvT hZ (hw _ (List.mem_of_getElem? (i := 10) rfl))) (mvT hZ (hw _ (List.mem_of_getElem? (i := 38) rfl))) (by decide) (backOf (W := 0) (rm7 l Z a0 hw [] wh h_30 n0 z_30) hZ (hw _ (List.mem_of_getElem? (i := 38) rfl)) (hw _ (List.mem_of_getElem? (i := 10) rfl)) (by decide) (by decide)) (g := (mkF m 84 #[.val (.int p0), .val (.int p1), .val (.int p2), .val (.long p3), .second, .val (.ref st), .val (.ref da), .val (.ref wh), .val (.ref la), .val (.int u), .unset, .unset, .unset, .unset, .unset, .unset] [(.ref wh)])) rfl (by rw [hml]; rfl) (argsL := [(.ref wh)]) (rest := []) (lenOf pd_16 rfl) rfl (by show 2 * 0 + _ ≤ _; exact Nat.le_of_eq rfl) (hb hby at_84) (fun _ _ => ⟨rfl, e_30, (by decide : 5 + 1 ≤ _), (by decide : 9 + 1 ≤ _)⟩)
      dsimp only [Pt.U, Pt.locs, Pt.cells, Pt.slots] at X_53 l_53 y_53 z_53 st_53 hQ_53
      subst l_53 y_53 z_53
      obtain ⟨o, rfl, Nq_53, Kq_53, b0⟩ := hQ_53
      have N_54 := Fr.app N_30 Nq_53
      have pre_53 : Rch p.tables e below (s₁.setTop (entryFrame m #[(.int p0), (.int p1), (.int p2), (.long p3)] maxLocals)) (T_53.setTop (mkF m 87 #[.val (.int p0), .val (.int p1), .val (.int p2), .val (.long p3), .second, .val (.ref st), .val (.ref da), .val (.ref wh), .val (.ref la), .val (.int u), .unset, .unset, .unset, .unset, .unset, .unset] [(.ref o)])) := fun tgt ktg => pre_52 tgt (st_53 tgt ktg)
      have z_55 : n0 ≤ T_53.heap.size := Nat.le_trans z_30 Kq_53.1
      have K_56 : Keep h0 T_53.heap [] := K_30.trans Kq_53 (all0 (P := fun x => x ∈ ([] : List Addr) ∨ h0.size ≤ x))
      have pre_57 : Rch p.tables e below (s₁.setTop (entryFrame m #[(.int p0), (.int p1), (.int p2), (.long p3)] maxLocals)) (T_53.setTop (mkF m 93 #[.val (.int p0), .val (.int p1), .val (.int p2), .val (.long p3), .second, .val (.ref st), .val (.ref da), .val (.ref wh), .val (.ref la), .val (.int u), .unset, .unset, .unset, .unset, .unset, .unset] [(.ref o)])) := fun tgt ktg => pre_53 tgt (by
        show Steps p.tables e below (T_53.setTop (mkF m 87 #[.val (.int p0), .val (.int p1), .val (.int p2), .val (.long p3), .second, .val (.ref st), .val (.ref da), .val (.ref wh), .val (.ref la), .val (.int u), .unset, .unset, .unset, .unset, .unset, .unset] [(.ref o)])) _
        refine XS.goto X_53.here hx rfl (pc0 := 87) (pc' := 93) rfl (hb hby at_87) (by decide) (by decide) ?_
        exact ktg)
      exact ⟨T_53, T_53.heap, _, o, X_53.more (by decide) (by decide), rfl, N_54, K_56, z_55, OD2.keep Kq_53 nin0, by rw [(own_u p2 p1 u 0 hv_u).resolve_left c_47]; exact b0, pre_57⟩
  obtain ⟨T_46, h_46, L_46, cq, X_46, e_46, N_46, K_46, z_46, OD3, OC, pre_46⟩ := J_46
  have pre_58 : Rch p.tables e below (s₁.setTop (entryFrame m #[(.int p0), (.int p1), (.int p2), (.long p3)] maxLocals)) (T_46.setTop (mkF m 95 #[.val (.int p0), .val (.int p1), .val (.int p2), .val (.long p3), .second, .val (.ref st), .val (.ref da), .val (.ref wh), .val (.ref la), .val (.int u), .val (.ref cq), .unset, .unset, .unset, .unset, .unset] [])) := fun tgt ktg => pre_46 tgt (by
    show Steps p.tables e below (T_46.setTop (mkF m 93 #[.val (.int p0), .val (.int p1), .val (.int p2), .val (.long p3), .second, .val (.ref st), .val (.ref da), .val (.ref wh), .val (.ref la), .val (.int u), .unset, .unset, .unset, .unset, .unset, .unset] [(.ref cq)])) _
    refine XS.astore X_46.here hx rfl (hb hby at_93) rfl rfl (l' := #[.val (.int p0), .val (.int p1), .val (.int p2), .val (.long p3), .second, .val (.ref st), .val (.ref da), .val (.ref wh), .val (.ref la), .val (.int u), .val (.ref cq), .unset, .unset, .unset, .unset, .unset]) rfl ?_
    exact ktg)
  obtain ⟨T_59, h_59, X_59, e_59, E_59, A_59, D_59, U_59, st_59⟩ := newO X_46 hx hZ hown (hw _ (List.mem_of_getElem? (i := 52) rfl)) (hw _ (List.mem_of_getElem? (i := 53) rfl)) (hw _ (List.mem_of_getElem? (i := 54) rfl)) e_46 (g := (mkF m 95 #[.val (.int p0), .val (.int p1), .val (.int p2), .val (.long p3), .second, .val (.ref st), .val (.ref da), .val (.ref wh), .val (.ref la), .val (.int u), .val (.ref cq), .unset, .unset, .unset, .unset, .unset] [])) rfl (hb hby at_95) (by decide) (by decide)
  obtain ⟨g, g_59⟩ : ∃ nm_, nm_ = h_46.size := ⟨_, rfl⟩
  rw [← g_59] at A_59 D_59 U_59 st_59
  have g_g : n0 ≤ g := Nat.le_trans z_46 (Nat.le_of_eq g_59.symm)
  have sz_g : h0.size ≤ g := Nat.le_trans K_46.1 (Nat.le_of_eq g_59.symm)
  have pre_59 : Rch p.tables e below (s₁.setTop (entryFrame m #[(.int p0), (.int p1), (.int p2), (.long p3)] maxLocals)) (T_59.setTop (mkF m 98 #[.val (.int p0), .val (.int p1), .val (.int p2), .val (.long p3), .second, .val (.ref st), .val (.ref da), .val (.ref wh), .val (.ref la), .val (.int u), .val (.ref cq), .unset, .unset, .unset, .unset, .unset] [(.ref g)])) := fun tgt ktg => pre_58 tgt (st_59 tgt ktg)
  have z_60 : n0 ≤ h_59.size := Nat.le_trans z_46 E_59.1
  have K_61 : Keep h0 h_59 [] := K_46.ext E_59
  have f_62 : Exa Z h_59 g "com/example/subjectline/subjectline/server/Progress" := A_59
  have f_63 : Fld Z h_59 g "com/example/subjectline/subjectline/server/Progress" "status" "Lcom/example/subjectline/subjectline/server/Status;" .null := D_59 (Or.inr (hw _ (List.mem_of_getElem? (i := 65) rfl))) (ty := (.object "com/example/subjectline/subjectline/server/Status")) (by decide)
  have f_64 : Fld Z h_59 g "com/example/subjectline/subjectline/server/Progress" "data" "Ljava/util/Optional;" .null := D_59 (Or.inr (hw _ (List.mem_of_getElem? (i := 67) rfl))) (ty := (.object "java/util/Optional")) (by decide)
  have f_65 : Fld Z h_59 g "com/example/subjectline/subjectline/server/Progress" "undeliveredCallbacks" "I" (.int (0 : Int32)) := D_59 (Or.inr (hw _ (List.mem_of_getElem? (i := 69) rfl))) (ty := .int) (by decide)
  have f_66 : Fld Z h_59 g "com/example/subjectline/subjectline/server/Progress" "lastUndeliveredAt" "Ljava/util/Optional;" .null := D_59 (Or.inr (hw _ (List.mem_of_getElem? (i := 71) rfl))) (ty := (.object "java/util/Optional")) (by decide)
  have f_67 : Fld Z h_59 g "com/example/subjectline/subjectline/server/Progress" "callingSince" "Ljava/util/Optional;" .null := D_59 (Or.inr (hw _ (List.mem_of_getElem? (i := 73) rfl))) (ty := (.object "java/util/Optional")) (by decide)
  have OD4 := OD3.keep ((Keep.refl _ []).ext E_59) nin0
  have OC4 := OC.keep ((Keep.refl _ []).ext E_59) nin0
  have pre_68 : Rch p.tables e below (s₁.setTop (entryFrame m #[(.int p0), (.int p1), (.int p2), (.long p3)] maxLocals)) (T_59.setTop (mkF m 108 #[.val (.int p0), .val (.int p1), .val (.int p2), .val (.long p3), .second, .val (.ref st), .val (.ref da), .val (.ref wh), .val (.ref la), .val (.int u), .val (.ref cq), .unset, .unset, .unset, .unset, .unset] [(.ref cq), (.ref la), (.int p1), (.ref da), (.ref st), (.ref g), (.ref g)])) := fun tgt ktg => pre_59 tgt (by
    show Steps p.tables e below (T_59.setTop (mkF m 98 #[.val (.int p0), .val (.int p1), .val (.int p2), .val (.long p3), .second, .val (.ref st), .val (.ref da), .val (.ref wh), .val (.ref la), .val (.int u), .val (.ref cq), .unset, .unset, .unset, .unset, .unset] [(.ref g)])) _
    refine XS.dup X_59.here hx rfl (hb hby at_98) rfl rfl ?_
    show Steps p.tables e below (T_59.setTop (mkF m 99 #[.val (.int p0), .val (.int p1), .val (.int p2), .val (.long p3), .second, .val (.ref st), .val (.ref da), .val (.ref wh), .val (.ref la), .val (.int u), .val (.ref cq), .unset, .unset, .unset, .unset, .unset] [(.ref g), (.ref g)])) _
    refine XS.aload X_59.here hx rfl (hb hby at_99) rfl rfl ?_
    show Steps p.tables e below (T_59.setTop (mkF m 101 #[.val (.int p0), .val (.int p1), .val (.int p2), .val (.long p3), .second, .val (.ref st), .val (.ref da), .val (.ref wh), .val (.ref la), .val (.int u), .val (.ref cq), .unset, .unset, .unset, .unset, .unset] [(.ref st), (.ref g), (.ref g)])) _
    refine XS.aload X_59.here hx rfl (hb hby at_101) rfl rfl ?_
    show Steps p.tables e below (T_59.setTop (mkF m 103 #[.val (.int p0), .val (.int p1), .val (.int p2), .val (.long p3), .second, .val (.ref st), .val (.ref da), .val (.ref wh), .val (.ref la), .val (.int u), .val (.ref cq), .unset, .unset, .unset, .unset, .unset] [(.ref da), (.ref st), (.ref g), (.ref g)])) _
    refine XS.iloadN X_59.here hx rfl (hb hby at_103) rfl ?_
    show Steps p.tables e below (T_59.setTop (mkF m 104 #[.val (.int p0), .val (.int p1), .val (.int p2), .val (.long p3), .second, .val (.ref st), .val (.ref da), .val (.ref wh), .val (.ref la), .val (.int u), .val (.ref cq), .unset, .unset, .unset, .unset, .unset] [(.int p1), (.ref da), (.ref st), (.ref g), (.ref g)])) _
    refine XS.aload X_59.here hx rfl (hb hby at_104) rfl rfl ?_
    show Steps p.tables e below (T_59.setTop (mkF m 106 #[.val (.int p0), .val (.int p1), .val (.int p2), .val (.long p3), .second, .val (.ref st), .val (.ref da), .val (.ref wh), .val (.ref la), .val (.int u), .val (.ref cq), .unset, .unset, .unset, .unset, .unset] [(.ref la), (.int p1), (.ref da), (.ref st), (.ref g), (.ref g)])) _
    refine XS.aload X_59.here hx rfl (hb hby at_106) rfl rfl ?_
    exact ktg)
  have ndg : da ≠ g := Nat.ne_of_lt (Nat.lt_of_lt_of_le OD3.1.lt (Nat.le_of_eq g_59.symm))
  have ncg : cq ≠ g := Nat.ne_of_lt (Nat.lt_of_lt_of_le OC.1.lt (Nat.le_of_eq g_59.symm))
  obtain ⟨_, _, ⟨T_69, L_69, k_69, n_69⟩, -, X_69, ⟨Lc_69, hQ_69, l_69, y_69, z_69⟩, st_69⟩ := X_59.specialBack hx (y := (⟨"com/example/subjectline/subjectline/server/Progress", "<init>", "(Lcom/example/subjectline/subjectline/server/Status;Ljava/util/Optional;ILjava/util/Optional;Ljava/util/Optional;)V"⟩ : MethodName)) rfl hown (mvT hZ (hw _ (List.mem_of_getElem? (i := 55) rfl))) (mvT hZ (hw _ (List.mem_of_getElem? (i := 56) rfl))) (mvT hZ (hw _ (List.mem_of_getElem? (i := 57) rfl))) (by decide) (backOf (W := 1) (rm10 l Z a0 hw [] g st da p1 la cq h_59 n0 z_60 f_62 f_63 f_64 f_65 f_66 f_67 g_g) hZ (hw _ (List.mem_of_getElem? (i := 57) rfl)) (hw _ (List.mem_of_getElem? (i := 54) rfl)) (by decide) (by decide)) (g := (mkF m 108 #[.val (.int p0), .val (.int p1), .val (.int p2), .val (.long p3), .second, .val (.ref st), .val (.ref da), .val (.ref wh), .val (.ref la), .val (.int u), .val (.ref cq), .unset, .unset, .unset, .unset, .unset] [(.ref cq), (.ref la), (.int p1), (.ref da), (.ref st), (.ref g), (.ref g)])) rfl (by rw [hml]; rfl) (Steps.refl _) (a := g) (argsL := [(.ref st), (.ref da), (.int p1), (.ref la), (.ref cq)]) (rest := [(.ref g)]) (lenOf pd_7 rfl) rfl (by show 2 * 0 + _ ≤ _; exact Nat.le_of_eq rfl) (hb hby at_108) (fun _ _ => ⟨rfl, e_59, (by decide : 7 + 0 ≤ _), (by decide : 15 + 0 ≤ _)⟩)
  dsimp only [Pt.U, Pt.locs, Pt.cells, Pt.slots] at X_69 l_69 y_69 z_69 st_69 hQ_69
  subst l_69 y_69 z_69
  obtain ⟨rfl, Nq_69, Kq_69, PG⟩ := hQ_69
  have N_70 := Fr.app N_46 Nq_69
  have pre_69 : Rch p.tables e below (s₁.setTop (entryFrame m #[(.int p0), (.int p1), (.int p2), (.long p3)] maxLocals)) (T_69.setTop (mkF m 111 #[.val (.int p0), .val (.int p1), .val (.int p2), .val (.long p3), .second, .val (.ref st), .val (.ref da), .val (.ref wh), .val (.ref la), .val (.int u), .val (.ref cq), .unset, .unset, .unset, .unset, .unset] [(.ref g)])) := fun tgt ktg => pre_68 tgt (st_69.trans ktg)
  have z_71 : n0 ≤ T_69.heap.size := Nat.le_trans z_60 Kq_69.1
  have K_72 : Keep h0 T_69.heap [] := K_61.trans Kq_69 (allS (P := fun x => x ∈ ([] : List Addr) ∨ h0.size ≤ x) (Or.inr sz_g) (all0 (P := fun x => x ∈ ([] : List Addr) ∨ h0.size ≤ x)))
  have OD5 := OD4.keep Kq_69 (ninS ndg nin0)
  have OC5 := OC4.keep Kq_69 (ninS ncg nin0)
  have pre_73 : Rch p.tables e below (s₁.setTop (entryFrame m #[(.int p0), (.int p1), (.int p2), (.long p3)] maxLocals)) (T_69.setTop (mkF m 115 #[.val (.int p0), .val (.int p1), .val (.int p2), .val (.long p3), .second, .val (.ref st), .val (.ref da), .val (.ref wh), .val (.ref la), .val (.int u), .val (.ref cq), .val (.ref g), .unset, .unset, .unset, .unset] [(.ref g)])) := fun tgt ktg => pre_69 tgt (by
    show Steps p.tables e below (T_69.setTop (mkF m 111 #[.val (.int p0), .val (.int p1), .val (.int p2), .val (.long p3), .second, .val (.ref st), .val (.ref da), .val (.ref wh), .val (.ref la), .val (.int u), .val (.ref cq), .unset, .unset, .unset, .unset, .unset] [(.ref g)])) _
    refine XS.astore X_69.here hx rfl (hb hby at_111) rfl rfl (l' := #[.val (.int p0), .val (.int p1), .val (.int p2), .val (.long p3), .second, .val (.ref st), .val (.ref da), .val (.ref wh), .val (.ref la), .val (.int u), .val (.ref cq), .val (.ref g), .unset, .unset, .unset, .unset]) rfl ?_
    show Steps p.tables e below (T_69.setTop (mkF m 113 #[.val (.int p0), .val (.int p1), .val (.int p2), .val (.long p3), .second, .val (.ref st), .val (.ref da), .val (.ref wh), .val (.ref la), .val (.int u), .val (.ref cq), .val (.ref g), .unset, .unset, .unset, .unset] [])) _
    refine XS.aload X_69.here hx rfl (hb hby at_113) rfl rfl ?_
    exact ktg)
  obtain ⟨cq_74, kq_74, q_74a, q_74b, q_74c⟩ := isOf hZ rfl PG.1.1
  obtain ⟨_, _, ⟨T_74, L_74, k_74, n_74⟩, -, X_74, ⟨Lc_74, hQ_74, l_74, y_74, z_74⟩, st_74⟩ := X_69.virtualBack hx (y := (⟨"com/example/subjectline/subjectline/server/Progress", "callbacksSent", "()I"⟩ : MethodName)) (z := (⟨"com/example/subjectline/subjectline/server/Progress", "callbacksSent", "()I"⟩ : MethodName)) hown (mvT hZ (hw _ (List.mem_of_getElem? (i := 74) rfl))) (mvT hZ (hw _ (List.mem_of_getElem? (i := 75) rfl))) (notFace_of_selects (args := #[]) (mvT hZ (hw _ (List.mem_of_getElem? (i := 77) rfl)))) (mvT hZ (hw _ (List.mem_of_getElem? (i := 77) rfl))) (mvT hZ (hw _ (List.mem_of_getElem? (i := 76) rfl))) (by decide) (backOf (W := 0) (rm12 l Z a0 hw [] g p1 cq u T_69.heap n0 z_71 PG.1 OC5) hZ (hw _ (List.mem_of_getElem? (i := 78) rfl)) (hw _ (List.mem_of_getElem? (i := 54) rfl)) (by decide) (by decide)) q_74a q_74c (g := (mkF m 115 #[.val (.int p0), .val (.int p1), .val (.int p2), .val (.long p3), .second, .val (.ref st), .val (.ref da), .val (.ref wh), .val (.ref la), .val (.int u), .val (.ref cq), .val (.ref g), .unset, .unset, .unset, .unset] [(.ref g)])) rfl (by rw [hml]; rfl) (Steps.refl _) (argsL := []) (rest := []) (lenOf pd_6 rfl) rfl (by show 2 * 0 + _ ≤ _; exact Nat.le_of_eq rfl) (hb hby at_115) (fun _ _ => ⟨rfl, rfl, (by decide : 7 + 0 ≤ _), (by decide : 15 + 0 ≤ _)⟩)
  dsimp only [Pt.U, Pt.locs, Pt.cells, Pt.slots] at X_74 l_74 y_74 z_74 st_74 hQ_74
  subst l_74 y_74 z_74
  obtain ⟨rfl, Nq_74, eh_74⟩ := hQ_74
  have N_75 := Fr.app N_70 Nq_74
  have pre_74 : Rch p.tables e below (s₁.setTop (entryFrame m #[(.int p0), (.int p1), (.int p2), (.long p3)] maxLocals)) (T_74.setTop (mkF m 118 #[.val (.int p0), .val (.int p1), .val (.int p2), .val (.long p3), .second, .val (.ref st), .val (.ref da), .val (.ref wh), .val (.ref la), .val (.int u), .val (.ref cq), .val (.ref g), .unset, .unset, .unset, .unset] [(.int (p1 + u))])) := fun tgt ktg => pre_73 tgt (st_74.trans ktg)
  have pre_76 : Rch p.tables e below (s₁.setTop (entryFrame m #[(.int p0), (.int p1), (.int p2), (.long p3)] maxLocals)) (T_74.setTop (mkF m 120 #[.val (.int p0), .val (.int p1), .val (.int p2), .val (.long p3), .second, .val (.ref st), .val (.ref da), .val (.ref wh), .val (.ref la), .val (.int u), .val (.ref cq), .val (.ref g), .val (.int (p1 + u)), .unset, .unset, .unset] [])) := fun tgt ktg => pre_74 tgt (by
    show Steps p.tables e below (T_74.setTop (mkF m 118 #[.val (.int p0), .val (.int p1), .val (.int p2), .val (.long p3), .second, .val (.ref st), .val (.ref da), .val (.ref wh), .val (.ref la), .val (.int u), .val (.ref cq), .val (.ref g), .unset, .unset, .unset, .unset] [(.int (p1 + u))])) _
    refine XS.istore X_74.here hx rfl (hb hby at_118) rfl (l' := #[.val (.int p0), .val (.int p1), .val (.int p2), .val (.long p3), .second, .val (.ref st), .val (.ref da), .val (.ref wh), .val (.ref la), .val (.int u), .val (.ref cq), .val (.ref g), .val (.int (p1 + u)), .unset, .unset, .unset]) rfl ?_
    exact ktg)
  obtain ⟨ex, hv_ex⟩ : ∃ nm_ : Int32, nm_ = (if u = (0 : Int32) then p1 else (p1 + (1 : Int32))) := ⟨_, rfl⟩
  have pre_78 : Rch p.tables e below (s₁.setTop (entryFrame m #[(.int p0), (.int p1), (.int p2), (.long p3)] maxLocals)) (T_74.setTop (mkF m 132 #[.val (.int p0), .val (.int p1), .val (.int p2), .val (.long p3), .second, .val (.ref st), .val (.ref da), .val (.ref wh), .val (.ref la), .val (.int u), .val (.ref cq), .val (.ref g), .val (.int (p1 + u)), .unset, .unset, .unset] [(.int ex)])) := fun tgt ktg => pre_76 tgt (by
    show Steps p.tables e below (T_74.setTop (mkF m 120 #[.val (.int p0), .val (.int p1), .val (.int p2), .val (.long p3), .second, .val (.ref st), .val (.ref da), .val (.ref wh), .val (.ref la), .val (.int u), .val (.ref cq), .val (.ref g), .val (.int (p1 + u)), .unset, .unset, .unset] [])) _
    refine XS.iload X_74.here hx rfl (hb hby at_120) rfl ?_
    by_cases q_77 : u = (0 : Int32)
    · skip
      show Steps p.tables e below (T_74.setTop (mkF m 122 #[.val (.int p0), .val (.int p1), .val (.int p2), .val (.long p3), .second, .val (.ref st), .val (.ref da), .val (.ref wh), .val (.ref la), .val (.int u), .val (.ref cq), .val (.ref g), .val (.int (p1 + u)), .unset, .unset, .unset] [(.int u)])) _
      refine XS.ifYes X_74.here hx rfl (pc0 := 122) (pc' := 131) rfl (hb hby at_122) rfl ((if0 _ _).trans (teq q_77).1) (by decide) (by decide) ?_
      show Steps p.tables e below (T_74.setTop (mkF m 131 #[.val (.int p0), .val (.int p1), .val (.int p2), .val (.long p3), .second, .val (.ref st), .val (.ref da), .val (.ref wh), .val (.ref la), .val (.int u), .val (.ref cq), .val (.ref g), .val (.int (p1 + u)), .unset, .unset, .unset] [])) _
      refine XS.iloadN X_74.here hx rfl (hb hby at_131) rfl ?_
      have ev_ex : ex = p1 := by rw [hv_ex, if_pos q_77]
      rw [ev_ex] at ktg
      exact ktg
    · skip
      show Steps p.tables e below (T_74.setTop (mkF m 122 #[.val (.int p0), .val (.int p1), .val (.int p2), .val (.long p3), .second, .val (.ref st), .val (.ref da), .val (.ref wh), .val (.ref la), .val (.int u), .val (.ref cq), .val (.ref g), .val (.int (p1 + u)), .unset, .unset, .unset] [(.int u)])) _
      refine XS.ifNo X_74.here hx rfl (hb hby at_122) rfl ((if0 _ _).trans (feq q_77).1) ?_
      show Steps p.tables e below (T_74.setTop (mkF m 125 #[.val (.int p0), .val (.int p1), .val (.int p2), .val (.long p3), .second, .val (.ref st), .val (.ref da), .val (.ref wh), .val (.ref la), .val (.int u), .val (.ref cq), .val (.ref g), .val (.int (p1 + u)), .unset, .unset, .unset] [])) _
      refine XS.iloadN X_74.here hx rfl (hb hby at_125) rfl ?_
      show Steps p.tables e below (T_74.setTop (mkF m 126 #[.val (.int p0), .val (.int p1), .val (.int p2), .val (.long p3), .second, .val (.ref st), .val (.ref da), .val (.ref wh), .val (.ref la), .val (.int u), .val (.ref cq), .val (.ref g), .val (.int (p1 + u)), .unset, .unset, .unset] [(.int p1)])) _
      refine XS.iconst X_74.here hx rfl (hb hby at_126) ?_
      show Steps p.tables e below (T_74.setTop (mkF m 127 #[.val (.int p0), .val (.int p1), .val (.int p2), .val (.long p3), .second, .val (.ref st), .val (.ref da), .val (.ref wh), .val (.ref la), .val (.int u), .val (.ref cq), .val (.ref g), .val (.int (p1 + u)), .unset, .unset, .unset] [(.int (1 : Int32)), (.int p1)])) _
      refine XS.iadd X_74.here hx rfl (hb hby at_127) rfl ?_
      show Steps p.tables e below (T_74.setTop (mkF m 128 #[.val (.int p0), .val (.int p1), .val (.int p2), .val (.long p3), .second, .val (.ref st), .val (.ref da), .val (.ref wh), .val (.ref la), .val (.int u), .val (.ref cq), .val (.ref g), .val (.int (p1 + u)), .unset, .unset, .unset] [(.int (p1 + (1 : Int32)))])) _
      refine XS.goto X_74.here hx rfl (pc0 := 128) (pc' := 132) rfl (hb hby at_128) (by decide) (by decide) ?_
      have ev_ex : ex = (p1 + (1 : Int32)) := by rw [hv_ex, if_neg q_77]
      rw [ev_ex] at ktg
      exact ktg
    done)
  have pre_79 : Rch p.tables e below (s₁.setTop (entryFrame m #[(.int p0), (.int p1), (.int p2), (.long p3)] maxLocals)) (T_74.setTop (mkF m 138 #[.val (.int p0), .val (.int p1), .val (.int p2), .val (.long p3), .second, .val (.ref st), .val (.ref da), .val (.ref wh), .val (.ref la), .val (.int u), .val (.ref cq), .val (.ref g), .val (.int (p1 + u)), .val (.int ex), .unset, .unset] [(.ref wh), (.ref g)])) := fun tgt ktg => pre_78 tgt (by
    show Steps p.tables e below (T_74.setTop (mkF m 132 #[.val (.int p0), .val (.int p1), .val (.int p2), .val (.long p3), .second, .val (.ref st), .val (.ref da), .val (.ref wh), .val (.ref la), .val (.int u), .val (.ref cq), .val (.ref g), .val (.int (p1 + u)), .unset, .unset, .unset] [(.int ex)])) _
    refine XS.istore X_74.here hx rfl (hb hby at_132) rfl (l' := #[.val (.int p0), .val (.int p1), .val (.int p2), .val (.long p3), .second, .val (.ref st), .val (.ref da), .val (.ref wh), .val (.ref la), .val (.int u), .val (.ref cq), .val (.ref g), .val (.int (p1 + u)), .val (.int ex), .unset, .unset]) rfl ?_
    show Steps p.tables e below (T_74.setTop (mkF m 134 #[.val (.int p0), .val (.int p1), .val (.int p2), .val (.long p3), .second, .val (.ref st), .val (.ref da), .val (.ref wh), .val (.ref la), .val (.int u), .val (.ref cq), .val (.ref g), .val (.int (p1 + u)), .val (.int ex), .unset, .unset] [])) _
    refine XS.aload X_74.here hx rfl (hb hby at_134) rfl rfl ?_
    show Steps p.tables e below (T_74.setTop (mkF m 136 #[.val (.int p0), .val (.int p1), .val (.int p2), .val (.long p3), .second, .val (.ref st), .val (.ref da), .val (.ref wh), .val (.ref la), .val (.int u), .val (.ref cq), .val (.ref g), .val (.int (p1 + u)), .val (.int ex), .unset, .unset] [(.ref g)])) _
    refine XS.aload X_74.here hx rfl (hb hby at_136) rfl rfl ?_
    exact ktg)
  obtain ⟨_, _, ⟨T_80, L_80, k_80, n_80⟩, -, X_80, ⟨Lc_80, hQ_80, l_80, y_80, z_80⟩, st_80⟩ := Jvm.LawKit.callS X_74 hx (y := (⟨"java/util/Optional", "of", "(Ljava/lang/Object;)Ljava/util/Optional;"⟩ : MethodName)) hown (mvT hZ (hw _ (List.mem_of_getElem? (i := 36) rfl))) (mvT hZ (hw _ (List.mem_of_getElem? (i := 37) rfl))) (mvT hZ (hw _ (List.mem_of_getElem? (i := 10) rfl))) (mvT hZ (hw _ (List.mem_of_getElem? (i := 38) rfl))) (by decide) (backOf (W := 1) (rm7 l Z a0 hw [] wh T_69.heap n0 z_71) hZ (hw _ (List.mem_of_getElem? (i := 38) rfl)) (hw _ (List.mem_of_getElem? (i := 10) rfl)) (by decide) (by decide)) (g := (mkF m 138 #[.val (.int p0), .val (.int p1), .val (.int p2), .val (.long p3), .second, .val (.ref st), .val (.ref da), .val (.ref wh), .val (.ref la), .val (.int u), .val (.ref cq), .val (.ref g), .val (.int (p1 + u)), .val (.int ex), .unset, .unset] [(.ref wh), (.ref g)])) rfl (by rw [hml]; rfl) (argsL := [(.ref wh)]) (rest := [(.ref g)]) (lenOf pd_16 rfl) rfl (by show 2 * 0 + _ ≤ _; exact Nat.le_of_eq rfl) (hb hby at_138) (fun _ _ => ⟨rfl, eh_74, (by decide : 7 + 1 ≤ _), (by decide : 15 + 1 ≤ _)⟩)
  dsimp only [Pt.U, Pt.locs, Pt.cells, Pt.slots] at X_80 l_80 y_80 z_80 st_80 hQ_80
  subst l_80 y_80 z_80
  obtain ⟨ar, rfl, Nq_80, Kq_80, OA⟩ := hQ_80
  have N_81 := Fr.app N_75 Nq_80
  have pre_80 : Rch p.tables e below (s₁.setTop (entryFrame m #[(.int p0), (.int p1), (.int p2), (.long p3)] maxLocals)) (T_80.setTop (mkF m 141 #[.val (.int p0), .val (.int p1), .val (.int p2), .val (.long p3), .second, .val (.ref st), .val (.ref da), .val (.ref wh), .val (.ref la), .val (.int u), .val (.ref cq), .val (.ref g), .val (.int (p1 + u)), .val (.int ex), .unset, .unset] [(.ref ar), (.ref g)])) := fun tgt ktg => pre_79 tgt (st_80 tgt ktg)
  have z_82 : n0 ≤ T_80.heap.size := Nat.le_trans z_71 Kq_80.1
  have K_83 : Keep h0 T_80.heap [] := K_72.trans Kq_80 (all0 (P := fun x => x ∈ ([] : List Addr) ∨ h0.size ≤ x))
  have PG1 := PG.keep Kq_80 nin0
  have OD6 := OD5.keep Kq_80 nin0
  have OC6 := OC5.keep Kq_80 nin0
  obtain ⟨cq_84, kq_84, q_84a, q_84b, q_84c⟩ := isOf hZ rfl PG1.1.1
  obtain ⟨_, _, ⟨T_84, L_84, k_84, n_84⟩, -, X_84, ⟨Lc_84, hQ_84, l_84, y_84, z_84⟩, st_84⟩ := X_80.virtualBack hx (y := (⟨"com/example/subjectline/subjectline/server/Progress", "calling", "(Ljava/util/Optional;)Lcom/example/subjectline/subjectline/server/Progress;"⟩ : MethodName)) (z := (⟨"com/example/subjectline/subjectline/server/Progress", "calling", "(Ljava/util/Optional;)Lcom/example/subjectline/subjectline/server/Progress;"⟩ : MethodName)) hown (mvT hZ (hw _ (List.mem_of_getElem? (i := 84) rfl))) (mvT hZ (hw _ (List.mem_of_getElem? (i := 85) rfl))) (notFace_of_selects (args := #[]) (mvT hZ (hw _ (List.mem_of_getElem? (i := 87) rfl)))) (mvT hZ (hw _ (List.mem_of_getElem? (i := 87) rfl))) (mvT hZ (hw _ (List.mem_of_getElem? (i := 86) rfl))) (by decide) (backOf (W := 0) (rm14 l Z a0 hw [] g ar st da la cq pa em p1 pd u 1 T_80.heap n0 z_82 PG1 (HS0.keep K_83) OD6 OC6 OA) hZ (hw _ (List.mem_of_getElem? (i := 88) rfl)) (hw _ (List.mem_of_getElem? (i := 54) rfl)) (by decide) (by decide)) q_84a q_84c (g := (mkF m 141 #[.val (.int p0), .val (.int p1), .val (.int p2), .val (.long p3), .second, .val (.ref st), .val (.ref da), .val (.ref wh), .val (.ref la), .val (.int u), .val (.ref cq), .val (.ref g), .val (.int (p1 + u)), .val (.int ex), .unset, .unset] [(.ref ar), (.ref g)])) rfl (by rw [hml]; rfl) (Steps.refl _) (argsL := [(.ref ar)]) (rest := []) (lenOf pd_18 rfl) rfl (by show 2 * 0 + _ ≤ _; exact Nat.le_of_eq rfl) (hb hby at_141) (fun _ _ => ⟨rfl, rfl, (by decide : 8 + 1 ≤ _), (by decide : 16 + 5 ≤ _)⟩)
  dsimp only [Pt.U, Pt.locs, Pt.cells, Pt.slots] at X_84 l_84 y_84 z_84 st_84 hQ_84
  subst l_84 y_84 z_84
  obtain ⟨g1, c1, rfl, Nq_84, Kq_84, P1, O1⟩ := hQ_84
  have N_85 := Fr.app N_81 Nq_84
  have pre_84 : Rch p.tables e below (s₁.setTop (entryFrame m #[(.int p0), (.int p1), (.int p2), (.long p3)] maxLocals)) (T_84.setTop (mkF m 144 #[.val (.int p0), .val (.int p1), .val (.int p2), .val (.long p3), .second, .val (.ref st), .val (.ref da), .val (.ref wh), .val (.ref la), .val (.int u), .val (.ref cq), .val (.ref g), .val (.int (p1 + u)), .val (.int ex), .unset, .unset] [(.ref g1)])) := fun tgt ktg => pre_80 tgt (st_84.trans ktg)
  have f_86 : Exa Z T_84.heap g "com/example/subjectline/subjectline/server/Progress" := PG1.1.1.keep Kq_84
  have z_87 : n0 ≤ T_84.heap.size := Nat.le_trans z_82 Kq_84.1
  have K_88 : Keep h0 T_84.heap [] := K_83.trans Kq_84 (all0 (P := fun x => x ∈ ([] : List Addr) ∨ h0.size ≤ x))
  have PG2 := PG1.keep Kq_84 nin0
  have OD7 := OD6.keep Kq_84 nin0
  have OC7 := OC6.keep Kq_84 nin0
  have pre_89 : Rch p.tables e below (s₁.setTop (entryFrame m #[(.int p0), (.int p1), (.int p2), (.long p3)] maxLocals)) (T_84.setTop (mkF m 150 #[.val (.int p0), .val (.int p1), .val (.int p2), .val (.long p3), .second, .val (.ref st), .val (.ref da), .val (.ref wh), .val (.ref la), .val (.int u), .val (.ref cq), .val (.ref g), .val (.int (p1 + u)), .val (.int ex), .val (.ref g1), .unset] [(.ref la), (.ref g)])) := fun tgt ktg => pre_84 tgt (by
    show Steps p.tables e below (T_84.setTop (mkF m 144 #[.val (.int p0), .val (.int p1), .val (.int p2), .val (.long p3), .second, .val (.ref st), .val (.ref da), .val (.ref wh), .val (.ref la), .val (.int u), .val (.ref cq), .val (.ref g), .val (.int (p1 + u)), .val (.int ex), .unset, .unset] [(.ref g1)])) _
    refine XS.astore X_84.here hx rfl (hb hby at_144) rfl rfl (l' := #[.val (.int p0), .val (.int p1), .val (.int p2), .val (.long p3), .second, .val (.ref st), .val (.ref da), .val (.ref wh), .val (.ref la), .val (.int u), .val (.ref cq), .val (.ref g), .val (.int (p1 + u)), .val (.int ex), .val (.ref g1), .unset]) rfl ?_
    show Steps p.tables e below (T_84.setTop (mkF m 146 #[.val (.int p0), .val (.int p1), .val (.int p2), .val (.long p3), .second, .val (.ref st), .val (.ref da), .val (.ref wh), .val (.ref la), .val (.int u), .val (.ref cq), .val (.ref g), .val (.int (p1 + u)), .val (.int ex), .val (.ref g1), .unset] [])) _
    refine XS.aload X_84.here hx rfl (hb hby at_146) rfl rfl ?_
    show Steps p.tables e below (T_84.setTop (mkF m 148 #[.val (.int p0), .val (.int p1), .val (.int p2), .val (.long p3), .second, .val (.ref st), .val (.ref da), .val (.ref wh), .val (.ref la), .val (.int u), .val (.ref cq), .val (.ref g), .val (.int (p1 + u)), .val (.int ex), .val (.ref g1), .unset] [(.ref g)])) _
    refine XS.aload X_84.here hx rfl (hb hby at_148) rfl rfl ?_
    exact ktg)
  obtain ⟨cq_90, kq_90, q_90a, q_90b, q_90c⟩ := isOf hZ rfl PG2.1.1
  obtain ⟨_, _, ⟨T_90, L_90, k_90, n_90⟩, -, X_90, ⟨Lc_90, hQ_90, l_90, y_90, z_90⟩, st_90⟩ := X_84.virtualBack hx (y := (⟨"com/example/subjectline/subjectline/server/Progress", "undelivered", "(Ljava/util/Optional;)Lcom/example/subjectline/subjectline/server/Progress;"⟩ : MethodName)) (z := (⟨"com/example/subjectline/subjectline/server/Progress", "undelivered", "(Ljava/util/Optional;)Lcom/example/subjectline/subjectline/server/Progress;"⟩ : MethodName)) hown (mvT hZ (hw _ (List.mem_of_getElem? (i := 99) rfl))) (mvT hZ (hw _ (List.mem_of_getElem? (i := 100) rfl))) (notFace_of_selects (args := #[]) (mvT hZ (hw _ (List.mem_of_getElem? (i := 102) rfl)))) (mvT hZ (hw _ (List.mem_of_getElem? (i := 102) rfl))) (mvT hZ (hw _ (List.mem_of_getElem? (i := 101) rfl))) (by decide) (backOf (W := 0) (rm17 l Z a0 hw [] g la st da la cq pa em p1 pd u T_84.heap n0 z_87 PG2 (HS0.keep K_88) OD7 OC7 (own_sta_keep TA K_88 ns0) (OE.keep K_88 nin0)) hZ (hw _ (List.mem_of_getElem? (i := 103) rfl)) (hw _ (List.mem_of_getElem? (i := 54) rfl)) (by decide) (by decide)) q_90a q_90c (g := (mkF m 150 #[.val (.int p0), .val (.int p1), .val (.int p2), .val (.long p3), .second, .val (.ref st), .val (.ref da), .val (.ref wh), .val (.ref la), .val (.int u), .val (.ref cq), .val (.ref g), .val (.int (p1 + u)), .val (.int ex), .val (.ref g1), .unset] [(.ref la), (.ref g)])) rfl (by rw [hml]; rfl) (Steps.refl _) (argsL := [(.ref la)]) (rest := []) (lenOf pd_18 rfl) rfl (by show 2 * 0 + _ ≤ _; exact Nat.le_of_eq rfl) (hb hby at_150) (fun _ _ => ⟨rfl, rfl, (by decide : 9 + 1 ≤ _), (by decide : 21 + 5 ≤ _)⟩)
  dsimp only [Pt.U, Pt.locs, Pt.cells, Pt.slots] at X_90 l_90 y_90 z_90 st_90 hQ_90
  subst l_90 y_90 z_90
  obtain ⟨g2, c2, rfl, Nq_90, Kq_90, P2, O2⟩ := hQ_90
  have N_91 := Fr.app N_85 Nq_90
  have pre_90 : Rch p.tables e below (s₁.setTop (entryFrame m #[(.int p0), (.int p1), (.int p2), (.long p3)] maxLocals)) (T_90.setTop (mkF m 153 #[.val (.int p0), .val (.int p1), .val (.int p2), .val (.long p3), .second, .val (.ref st), .val (.ref da), .val (.ref wh), .val (.ref la), .val (.int u), .val (.ref cq), .val (.ref g), .val (.int (p1 + u)), .val (.int ex), .val (.ref g1), .unset] [(.ref g2)])) := fun tgt ktg => pre_89 tgt (st_90.trans ktg)
  have f_92 : Exa Z T_90.heap g "com/example/subjectline/subjectline/server/Progress" := PG2.1.1.keep Kq_90
  have z_93 : n0 ≤ T_90.heap.size := Nat.le_trans z_87 Kq_90.1
  have K_94 : Keep h0 T_90.heap [] := K_88.trans Kq_90 (all0 (P := fun x => x ∈ ([] : List Addr) ∨ h0.size ≤ x))
  have P1' := P1.keep Kq_90 nin0
  have O1' := O1.keep Kq_90 nin0
  have pre_95 : Rch p.tables e below (s₁.setTop (entryFrame m #[(.int p0), (.int p1), (.int p2), (.long p3)] maxLocals)) (T_90.setTop (mkF m 159 #[.val (.int p0), .val (.int p1), .val (.int p2), .val (.long p3), .second, .val (.ref st), .val (.ref da), .val (.ref wh), .val (.ref la), .val (.int u), .val (.ref cq), .val (.ref g), .val (.int (p1 + u)), .val (.int ex), .val (.ref g1), .val (.ref g2)] [(.int ex), (.int (p1 + u))])) := fun tgt ktg => pre_90 tgt (by
    show Steps p.tables e below (T_90.setTop (mkF m 153 #[.val (.int p0), .val (.int p1), .val (.int p2), .val (.long p3), .second, .val (.ref st), .val (.ref da), .val (.ref wh), .val (.ref la), .val (.int u), .val (.ref cq), .val (.ref g), .val (.int (p1 + u)), .val (.int ex), .val (.ref g1), .unset] [(.ref g2)])) _
    refine XS.astore X_90.here hx rfl (hb hby at_153) rfl rfl (l' := #[.val (.int p0), .val (.int p1), .val (.int p2), .val (.long p3), .second, .val (.ref st), .val (.ref da), .val (.ref wh), .val (.ref la), .val (.int u), .val (.ref cq), .val (.ref g), .val (.int (p1 + u)), .val (.int ex), .val (.ref g1), .val (.ref g2)]) rfl ?_
    show Steps p.tables e below (T_90.setTop (mkF m 155 #[.val (.int p0), .val (.int p1), .val (.int p2), .val (.long p3), .second, .val (.ref st), .val (.ref da), .val (.ref wh), .val (.ref la), .val (.int u), .val (.ref cq), .val (.ref g), .val (.int (p1 + u)), .val (.int ex), .val (.ref g1), .val (.ref g2)] [])) _
    refine XS.iload X_90.here hx rfl (hb hby at_155) rfl ?_
    show Steps p.tables e below (T_90.setTop (mkF m 157 #[.val (.int p0), .val (.int p1), .val (.int p2), .val (.long p3), .second, .val (.ref st), .val (.ref da), .val (.ref wh), .val (.ref la), .val (.int u), .val (.ref cq), .val (.ref g), .val (.int (p1 + u)), .val (.int ex), .val (.ref g1), .val (.ref g2)] [(.int (p1 + u))])) _
    refine XS.iload X_90.here hx rfl (hb hby at_157) rfl ?_
    exact ktg)
  have pre_96 : Rch p.tables e below (s₁.setTop (entryFrame m #[(.int p0), (.int p1), (.int p2), (.long p3)] maxLocals)) (T_90.setTop (mkF m 164 #[.val (.int p0), .val (.int p1), .val (.int p2), .val (.long p3), .second, .val (.ref st), .val (.ref da), .val (.ref wh), .val (.ref la), .val (.int u), .val (.ref cq), .val (.ref g), .val (.int (p1 + u)), .val (.int ex), .val (.ref g1), .val (.ref g2)] [(.ref g1)])) := fun tgt ktg => pre_95 tgt (by
    show Steps p.tables e below (T_90.setTop (mkF m 159 #[.val (.int p0), .val (.int p1), .val (.int p2), .val (.long p3), .second, .val (.ref st), .val (.ref da), .val (.ref wh), .val (.ref la), .val (.int u), .val (.ref cq), .val (.ref g), .val (.int (p1 + u)), .val (.int ex), .val (.ref g1), .val (.ref g2)] [(.int ex), (.int (p1 + u))])) _
    refine XS.icmpNo X_90.here hx rfl (hb hby at_159) rfl (teq (own_1 hv_u hv_ex)).2 ?_
    show Steps p.tables e below (T_90.setTop (mkF m 162 #[.val (.int p0), .val (.int p1), .val (.int p2), .val (.long p3), .second, .val (.ref st), .val (.ref da), .val (.ref wh), .val (.ref la), .val (.int u), .val (.ref cq), .val (.ref g), .val (.int (p1 + u)), .val (.int ex), .val (.ref g1), .val (.ref g2)] [])) _
    refine XS.aload X_90.here hx rfl (hb hby at_162) rfl rfl ?_
    exact ktg)
  obtain ⟨cq_97, kq_97, q_97a, q_97b, q_97c⟩ := isOf hZ rfl P1'.1
  obtain ⟨_, _, ⟨T_97, L_97, k_97, n_97⟩, -, X_97, ⟨Lc_97, hQ_97, l_97, y_97, z_97⟩, st_97⟩ := X_90.virtualBack hx (y := (⟨"com/example/subjectline/subjectline/server/Progress", "callbacksSent", "()I"⟩ : MethodName)) (z := (⟨"com/example/subjectline/subjectline/server/Progress", "callbacksSent", "()I"⟩ : MethodName)) hown (mvT hZ (hw _ (List.mem_of_getElem? (i := 74) rfl))) (mvT hZ (hw _ (List.mem_of_getElem? (i := 75) rfl))) (notFace_of_selects (args := #[]) (mvT hZ (hw _ (List.mem_of_getElem? (i := 77) rfl)))) (mvT hZ (hw _ (List.mem_of_getElem? (i := 77) rfl))) (mvT hZ (hw _ (List.mem_of_getElem? (i := 76) rfl))) (by decide) (backOf (W := 0) (rm12 l Z a0 hw [] g1 (p1 + u) c1 1 T_90.heap n0 z_93 P1' O1') hZ (hw _ (List.mem_of_getElem? (i := 78) rfl)) (hw _ (List.mem_of_getElem? (i := 54) rfl)) (by decide) (by decide)) q_97a q_97c (g := (mkF m 164 #[.val (.int p0), .val (.int p1), .val (.int p2), .val (.long p3), .second, .val (.ref st), .val (.ref da), .val (.ref wh), .val (.ref la), .val (.int u), .val (.ref cq), .val (.ref g), .val (.int (p1 + u)), .val (.int ex), .val (.ref g1), .val (.ref g2)] [(.ref g1)])) rfl (by rw [hml]; rfl) (Steps.refl _) (argsL := []) (rest := []) (lenOf pd_6 rfl) rfl (by show 2 * 0 + _ ≤ _; exact Nat.le_of_eq rfl) (hb hby at_164) (fun _ _ => ⟨rfl, rfl, (by decide : 10 + 0 ≤ _), (by decide : 26 + 0 ≤ _)⟩)
  dsimp only [Pt.U, Pt.locs, Pt.cells, Pt.slots] at X_97 l_97 y_97 z_97 st_97 hQ_97
  subst l_97 y_97 z_97
  obtain ⟨rfl, Nq_97, eh_97⟩ := hQ_97
  have N_98 := Fr.app N_91 Nq_97
  have pre_97 : Rch p.tables e below (s₁.setTop (entryFrame m #[(.int p0), (.int p1), (.int p2), (.long p3)] maxLocals)) (T_97.setTop (mkF m 167 #[.val (.int p0), .val (.int p1), .val (.int p2), .val (.long p3), .second, .val (.ref st), .val (.ref da), .val (.ref wh), .val (.ref la), .val (.int u), .val (.ref cq), .val (.ref g), .val (.int (p1 + u)), .val (.int ex), .val (.ref g1), .val (.ref g2)] [(.int ((p1 + u) + 1))])) := fun tgt ktg => pre_96 tgt (st_97.trans ktg)
  have pre_99 : Rch p.tables e below (s₁.setTop (entryFrame m #[(.int p0), (.int p1), (.int p2), (.long p3)] maxLocals)) (T_97.setTop (mkF m 171 #[.val (.int p0), .val (.int p1), .val (.int p2), .val (.long p3), .second, .val (.ref st), .val (.ref da), .val (.ref wh), .val (.ref la), .val (.int u), .val (.ref cq), .val (.ref g), .val (.int (p1 + u)), .val (.int ex), .val (.ref g1), .val (.ref g2)] [(.int ((p1 + u) + (1 : Int32))), (.int ((p1 + u) + 1))])) := fun tgt ktg => pre_97 tgt (by
    show Steps p.tables e below (T_97.setTop (mkF m 167 #[.val (.int p0), .val (.int p1), .val (.int p2), .val (.long p3), .second, .val (.ref st), .val (.ref da), .val (.ref wh), .val (.ref la), .val (.int u), .val (.ref cq), .val (.ref g), .val (.int (p1 + u)), .val (.int ex), .val (.ref g1), .val (.ref g2)] [(.int ((p1 + u) + 1))])) _
    refine XS.iload X_97.here hx rfl (hb hby at_167) rfl ?_
    show Steps p.tables e below (T_97.setTop (mkF m 169 #[.val (.int p0), .val (.int p1), .val (.int p2), .val (.long p3), .second, .val (.ref st), .val (.ref da), .val (.ref wh), .val (.ref la), .val (.int u), .val (.ref cq), .val (.ref g), .val (.int (p1 + u)), .val (.int ex), .val (.ref g1), .val (.ref g2)] [(.int (p1 + u)), (.int ((p1 + u) + 1))])) _
    refine XS.iconst X_97.here hx rfl (hb hby at_169) ?_
    show Steps p.tables e below (T_97.setTop (mkF m 170 #[.val (.int p0), .val (.int p1), .val (.int p2), .val (.long p3), .second, .val (.ref st), .val (.ref da), .val (.ref wh), .val (.ref la), .val (.int u), .val (.ref cq), .val (.ref g), .val (.int (p1 + u)), .val (.int ex), .val (.ref g1), .val (.ref g2)] [(.int (1 : Int32)), (.int (p1 + u)), (.int ((p1 + u) + 1))])) _
    refine XS.iadd X_97.here hx rfl (hb hby at_170) rfl ?_
    exact ktg)
  have pre_100 : Rch p.tables e below (s₁.setTop (entryFrame m #[(.int p0), (.int p1), (.int p2), (.long p3)] maxLocals)) (T_97.setTop (mkF m 176 #[.val (.int p0), .val (.int p1), .val (.int p2), .val (.long p3), .second, .val (.ref st), .val (.ref da), .val (.ref wh), .val (.ref la), .val (.int u), .val (.ref cq), .val (.ref g), .val (.int (p1 + u)), .val (.int ex), .val (.ref g1), .val (.ref g2)] [(.ref g2)])) := fun tgt ktg => pre_99 tgt (by
    show Steps p.tables e below (T_97.setTop (mkF m 171 #[.val (.int p0), .val (.int p1), .val (.int p2), .val (.long p3), .second, .val (.ref st), .val (.ref da), .val (.ref wh), .val (.ref la), .val (.int u), .val (.ref cq), .val (.ref g), .val (.int (p1 + u)), .val (.int ex), .val (.ref g1), .val (.ref g2)] [(.int ((p1 + u) + (1 : Int32))), (.int ((p1 + u) + 1))])) _
    refine XS.icmpNo X_97.here hx rfl (hb hby at_171) rfl (teq (rfl : ((p1 + u) + 1) = ((p1 + u) + (1 : Int32)))).2 ?_
    show Steps p.tables e below (T_97.setTop (mkF m 174 #[.val (.int p0), .val (.int p1), .val (.int p2), .val (.long p3), .second, .val (.ref st), .val (.ref da), .val (.ref wh), .val (.ref la), .val (.int u), .val (.ref cq), .val (.ref g), .val (.int (p1 + u)), .val (.int ex), .val (.ref g1), .val (.ref g2)] [])) _
    refine XS.aload X_97.here hx rfl (hb hby at_174) rfl rfl ?_
    exact ktg)
  obtain ⟨cq_101, kq_101, q_101a, q_101b, q_101c⟩ := isOf hZ eh_97 P2.1
  obtain ⟨_, _, ⟨T_101, L_101, k_101, n_101⟩, -, X_101, ⟨Lc_101, hQ_101, l_101, y_101, z_101⟩, st_101⟩ := X_97.virtualBack hx (y := (⟨"com/example/subjectline/subjectline/server/Progress", "callbacksSent", "()I"⟩ : MethodName)) (z := (⟨"com/example/subjectline/subjectline/server/Progress", "callbacksSent", "()I"⟩ : MethodName)) hown (mvT hZ (hw _ (List.mem_of_getElem? (i := 74) rfl))) (mvT hZ (hw _ (List.mem_of_getElem? (i := 75) rfl))) (notFace_of_selects (args := #[]) (mvT hZ (hw _ (List.mem_of_getElem? (i := 77) rfl)))) (mvT hZ (hw _ (List.mem_of_getElem? (i := 77) rfl))) (mvT hZ (hw _ (List.mem_of_getElem? (i := 76) rfl))) (by decide) (backOf (W := 0) (rm12 l Z a0 hw [] g2 (p1 + 1) c2 0 T_90.heap n0 z_93 P2 O2) hZ (hw _ (List.mem_of_getElem? (i := 78) rfl)) (hw _ (List.mem_of_getElem? (i := 54) rfl)) (by decide) (by decide)) q_101a q_101c (g := (mkF m 176 #[.val (.int p0), .val (.int p1), .val (.int p2), .val (.long p3), .second, .val (.ref st), .val (.ref da), .val (.ref wh), .val (.ref la), .val (.int u), .val (.ref cq), .val (.ref g), .val (.int (p1 + u)), .val (.int ex), .val (.ref g1), .val (.ref g2)] [(.ref g2)])) rfl (by rw [hml]; rfl) (Steps.refl _) (argsL := []) (rest := []) (lenOf pd_6 rfl) rfl (by show 2 * 0 + _ ≤ _; exact Nat.le_of_eq rfl) (hb hby at_176) (fun _ _ => ⟨rfl, eh_97, (by decide : 10 + 0 ≤ _), (by decide : 26 + 0 ≤ _)⟩)
  dsimp only [Pt.U, Pt.locs, Pt.cells, Pt.slots] at X_101 l_101 y_101 z_101 st_101 hQ_101
  subst l_101 y_101 z_101
  obtain ⟨rfl, Nq_101, eh_101⟩ := hQ_101
  have N_102 := Fr.app N_98 Nq_101
  have pre_101 : Rch p.tables e below (s₁.setTop (entryFrame m #[(.int p0), (.int p1), (.int p2), (.long p3)] maxLocals)) (T_101.setTop (mkF m 179 #[.val (.int p0), .val (.int p1), .val (.int p2), .val (.long p3), .second, .val (.ref st), .val (.ref da), .val (.ref wh), .val (.ref la), .val (.int u), .val (.ref cq), .val (.ref g), .val (.int (p1 + u)), .val (.int ex), .val (.ref g1), .val (.ref g2)] [(.int ((p1 + 1) + 0))])) := fun tgt ktg => pre_100 tgt (st_101.trans ktg)
  have pre_103 : Rch p.tables e below (s₁.setTop (entryFrame m #[(.int p0), (.int p1), (.int p2), (.long p3)] maxLocals)) (T_101.setTop (mkF m 181 #[.val (.int p0), .val (.int p1), .val (.int p2), .val (.long p3), .second, .val (.ref st), .val (.ref da), .val (.ref wh), .val (.ref la), .val (.int u), .val (.ref cq), .val (.ref g), .val (.int (p1 + u)), .val (.int ex), .val (.ref g1), .val (.ref g2)] [(.int u), (.int ((p1 + 1) + 0))])) := fun tgt ktg => pre_101 tgt (by
    show Steps p.tables e below (T_101.setTop (mkF m 179 #[.val (.int p0), .val (.int p1), .val (.int p2), .val (.long p3), .second, .val (.ref st), .val (.ref da), .val (.ref wh), .val (.ref la), .val (.int u), .val (.ref cq), .val (.ref g), .val (.int (p1 + u)), .val (.int ex), .val (.ref g1), .val (.ref g2)] [(.int ((p1 + 1) + 0))])) _
    refine XS.iload X_101.here hx rfl (hb hby at_179) rfl ?_
    exact ktg)
  obtain ⟨rr, hv_rr⟩ : ∃ nm_ : Int32, nm_ = (if u = (0 : Int32) then ((p1 + u) + (1 : Int32)) else (p1 + u)) := ⟨_, rfl⟩
  have pre_105 : Rch p.tables e below (s₁.setTop (entryFrame m #[(.int p0), (.int p1), (.int p2), (.long p3)] maxLocals)) (T_101.setTop (mkF m 193 #[.val (.int p0), .val (.int p1), .val (.int p2), .val (.long p3), .second, .val (.ref st), .val (.ref da), .val (.ref wh), .val (.ref la), .val (.int u), .val (.ref cq), .val (.ref g), .val (.int (p1 + u)), .val (.int ex), .val (.ref g1), .val (.ref g2)] [(.int rr), (.int ((p1 + 1) + 0))])) := fun tgt ktg => pre_103 tgt (by
    by_cases q_104 : u = (0 : Int32)
    · skip
      show Steps p.tables e below (T_101.setTop (mkF m 181 #[.val (.int p0), .val (.int p1), .val (.int p2), .val (.long p3), .second, .val (.ref st), .val (.ref da), .val (.ref wh), .val (.ref la), .val (.int u), .val (.ref cq), .val (.ref g), .val (.int (p1 + u)), .val (.int ex), .val (.ref g1), .val (.ref g2)] [(.int u), (.int ((p1 + 1) + 0))])) _
      refine XS.ifYes X_101.here hx rfl (pc0 := 181) (pc' := 189) rfl (hb hby at_181) rfl ((if0 _ _).trans (teq q_104).1) (by decide) (by decide) ?_
      show Steps p.tables e below (T_101.setTop (mkF m 189 #[.val (.int p0), .val (.int p1), .val (.int p2), .val (.long p3), .second, .val (.ref st), .val (.ref da), .val (.ref wh), .val (.ref la), .val (.int u), .val (.ref cq), .val (.ref g), .val (.int (p1 + u)), .val (.int ex), .val (.ref g1), .val (.ref g2)] [(.int ((p1 + 1) + 0))])) _
      refine XS.iload X_101.here hx rfl (hb hby at_189) rfl ?_
      show Steps p.tables e below (T_101.setTop (mkF m 191 #[.val (.int p0), .val (.int p1), .val (.int p2), .val (.long p3), .second, .val (.ref st), .val (.ref da), .val (.ref wh), .val (.ref la), .val (.int u), .val (.ref cq), .val (.ref g), .val (.int (p1 + u)), .val (.int ex), .val (.ref g1), .val (.ref g2)] [(.int (p1 + u)), (.int ((p1 + 1) + 0))])) _
      refine XS.iconst X_101.here hx rfl (hb hby at_191) ?_
      show Steps p.tables e below (T_101.setTop (mkF m 192 #[.val (.int p0), .val (.int p1), .val (.int p2), .val (.long p3), .second, .val (.ref st), .val (.ref da), .val (.ref wh), .val (.ref la), .val (.int u), .val (.ref cq), .val (.ref g), .val (.int (p1 + u)), .val (.int ex), .val (.ref g1), .val (.ref g2)] [(.int (1 : Int32)), (.int (p1 + u)), (.int ((p1 + 1) + 0))])) _
      refine XS.iadd X_101.here hx rfl (hb hby at_192) rfl ?_
      have ev_rr : rr = ((p1 + u) + (1 : Int32)) := by rw [hv_rr, if_pos q_104]
      rw [ev_rr] at ktg
      exact ktg
    · skip
      show Steps p.tables e below (T_101.setTop (mkF m 181 #[.val (.int p0), .val (.int p1), .val (.int p2), .val (.long p3), .second, .val (.ref st), .val (.ref da), .val (.ref wh), .val (.ref la), .val (.int u), .val (.ref cq), .val (.ref g), .val (.int (p1 + u)), .val (.int ex), .val (.ref g1), .val (.ref g2)] [(.int u), (.int ((p1 + 1) + 0))])) _
      refine XS.ifNo X_101.here hx rfl (hb hby at_181) rfl ((if0 _ _).trans (feq q_104).1) ?_
      show Steps p.tables e below (T_101.setTop (mkF m 184 #[.val (.int p0), .val (.int p1), .val (.int p2), .val (.long p3), .second, .val (.ref st), .val (.ref da), .val (.ref wh), .val (.ref la), .val (.int u), .val (.ref cq), .val (.ref g), .val (.int (p1 + u)), .val (.int ex), .val (.ref g1), .val (.ref g2)] [(.int ((p1 + 1) + 0))])) _
      refine XS.iload X_101.here hx rfl (hb hby at_184) rfl ?_
      show Steps p.tables e below (T_101.setTop (mkF m 186 #[.val (.int p0), .val (.int p1), .val (.int p2), .val (.long p3), .second, .val (.ref st), .val (.ref da), .val (.ref wh), .val (.ref la), .val (.int u), .val (.ref cq), .val (.ref g), .val (.int (p1 + u)), .val (.int ex), .val (.ref g1), .val (.ref g2)] [(.int (p1 + u)), (.int ((p1 + 1) + 0))])) _
      refine XS.goto X_101.here hx rfl (pc0 := 186) (pc' := 193) rfl (hb hby at_186) (by decide) (by decide) ?_
      have ev_rr : rr = (p1 + u) := by rw [hv_rr, if_neg q_104]
      rw [ev_rr] at ktg
      exact ktg
    done)
  have pre_106 : Rch p.tables e below (s₁.setTop (entryFrame m #[(.int p0), (.int p1), (.int p2), (.long p3)] maxLocals)) (T_101.setTop (mkF m 201 #[.val (.int p0), .val (.int p1), .val (.int p2), .val (.long p3), .second, .val (.ref st), .val (.ref da), .val (.ref wh), .val (.ref la), .val (.int u), .val (.ref cq), .val (.ref g), .val (.int (p1 + u)), .val (.int ex), .val (.ref g1), .val (.ref g2)] [(.int (1 : Int32))])) := fun tgt ktg => pre_105 tgt (by
    show Steps p.tables e below (T_101.setTop (mkF m 193 #[.val (.int p0), .val (.int p1), .val (.int p2), .val (.long p3), .second, .val (.ref st), .val (.ref da), .val (.ref wh), .val (.ref la), .val (.int u), .val (.ref cq), .val (.ref g), .val (.int (p1 + u)), .val (.int ex), .val (.ref g1), .val (.ref g2)] [(.int rr), (.int ((p1 + 1) + 0))])) _
    refine XS.icmpNo X_101.here hx rfl (hb hby at_193) rfl (teq (own_2 hv_u hv_rr)).2 ?_
    show Steps p.tables e below (T_101.setTop (mkF m 196 #[.val (.int p0), .val (.int p1), .val (.int p2), .val (.long p3), .second, .val (.ref st), .val (.ref da), .val (.ref wh), .val (.ref la), .val (.int u), .val (.ref cq), .val (.ref g), .val (.int (p1 + u)), .val (.int ex), .val (.ref g1), .val (.ref g2)] [])) _
    refine XS.iconst X_101.here hx rfl (hb hby at_196) ?_
    show Steps p.tables e below (T_101.setTop (mkF m 197 #[.val (.int p0), .val (.int p1), .val (.int p2), .val (.long p3), .second, .val (.ref st), .val (.ref da), .val (.ref wh), .val (.ref la), .val (.int u), .val (.ref cq), .val (.ref g), .val (.int (p1 + u)), .val (.int ex), .val (.ref g1), .val (.ref g2)] [(.int (1 : Int32))])) _
    refine XS.goto X_101.here hx rfl (pc0 := 197) (pc' := 201) rfl (hb hby at_197) (by decide) (by decide) ?_
    exact ktg)
  obtain ⟨fs, hr, hrun, hended, hW, hsame⟩ := X_101.leave (v := some (.int (1 : Int32))) (fun h => by rw [Bd.returns] at h; cases h)
  refine ⟨_, _, pre_106 _ ?_, hrun, hended, _, _, rfl, ?_, ⟨_, rfl⟩, hW, hsame.mono (by decide) (by decide)⟩
  · show Steps p.tables e below (T_101.setTop (mkF m 201 #[.val (.int p0), .val (.int p1), .val (.int p2), .val (.long p3), .second, .val (.ref st), .val (.ref da), .val (.ref wh), .val (.ref la), .val (.int u), .val (.ref cq), .val (.ref g), .val (.int (p1 + u)), .val (.int ex), .val (.ref g1), .val (.ref g2)] [(.int (1 : Int32))])) _
    exact retN X_101 hx (t := .boolean) Bd.returns (by simp) (hb hby at_201) hr
  · show Q0 Z p0 p1 p2 p3 h0 n0 _ T_101.heap _
    rw [eh_101]
    exact ⟨rfl, N_102⟩
theorem own_eqi {args : Array Value} {s f : State} {o : Option Outcome} {idx : List Nat} {a : Term} {v : Int32} (h : (Jvm.Cond.eq a (.int v)).value args f o s idx = some true) : a.eval args f o idx s = some (.int v) := by
  simp only [Cond.value, Term.int_eval] at h
  cases ha : a.eval args f o idx s with
  | none => simp [ha] at h
  | some x => cases x <;> simp [ha] at h; rw [h]
theorem own_eqr {args : Array Value} {s f : State} {o : Option Outcome} {idx : List Nat} {a b : Term} {v : Addr} (hb : b.eval args f o idx s = some (.ref v)) (h : (Jvm.Cond.eq a b).value args f o s idx = some true) : a.eval args f o idx s = some (.ref v) := by
  simp only [Cond.value, hb] at h
  cases ha : a.eval args f o idx s with
  | none => simp [ha] at h
  | some x => cases x <;> simp [ha] at h; rw [h]
set_option maxRecDepth 65536 in
set_option maxHeartbeats 40000000 in
theorem comes_1 {Post : Tables → Env → Array Value → State → Outcome → State → Prop} (hpost : ∀ tb e args s v u, (limb_1_1.after args s (.returned v) u = true ∧ limb_1_2.after args s (.returned v) u = true ∧ True) → FrameEnd s (.returned v) u (Jvm.fieldLocs frame_1_writes args s ++ Jvm.arrayLocs frame_1_arrays args s ++ Jvm.staticLocs frame_1_statics s) 32 128 → Post tb e args s (.returned v) u) :
    ArmFor flags0 classFile x code maxLocals ret World_1 tables_1 room_1 Calls_1 rest_1 Pre_1 Post := by
  intro l hfl _ _ p e ha hc hk s m args below hf hA hF happ hP
  obtain ⟨hcalls, hrest, hpre⟩ := hP
  obtain ⟨-, -, -, hnamed, -, -, -, hat⟩ := (Spec.applies_iff hf).mp happ
  obtain ⟨hg, hn⟩ := and_e (Cond.before_iff.mp (show (Jvm.Cond.and given_1 narrow_1).before args s = true from hpre))
  obtain ⟨gc, g0⟩ := and_e hg
  obtain ⟨ga0, g1⟩ := and_e g0
  obtain ⟨ga1, g2⟩ := and_e g1
  obtain ⟨ga2, g3⟩ := and_e g2
  obtain ⟨w0, w1, w2, w3, rfl⟩ : ∃ w0 w1 w2 w3 : Value, args = #[w0, w1, w2, w3] := by
    have hs : args.size = 4 := by simpa [Cond.value, given_1] using gc
    obtain ⟨L⟩ := args
    match L, hs with
    | [w0, w1, w2, w3], _ => exact ⟨w0, w1, w2, w3, rfl⟩
  have hw := fun d (hd : d ∈ tables_1) => atoms_spec (ws := Jvm.Cond.code x code maxLocals ret :: tables_1) hat d (List.mem_cons_of_mem _ hd)
  have hfit : Fit s := fun {y c} hc i hi => by
    obtain ⟨ha, rfl⟩ := Array.getElem?_eq_some_iff.mp hc
    have q := List.all_eq_true.mp ((Array.all_eq_true_iff_forall_mem.mp hF) _ (Array.getElem_mem ha)) i (List.mem_range.mpr hi)
    simpa [Array.getElem?_eq_getElem hi] using q
  obtain ⟨hsets, hown0⟩ := atoms_of _ (rest_1_c_eq ▸ (show rest_1_c.before _ s = true from hrest))
  have hr0 := Cond.before_iff.mp hown0
  obtain ⟨i0, ei0⟩ := is_v ga0
  obtain rfl : w0 = (.int i0) := Option.some.inj ei0
  obtain ⟨i1, ei1⟩ := is_v ga1
  obtain rfl : w1 = (.int i1) := Option.some.inj ei1
  obtain ⟨i2, ei2⟩ := is_v ga2
  obtain rfl : w2 = (.int i2) := Option.some.inj ei2
  obtain ⟨i3, ei3⟩ := isL_v g3
  obtain rfl : w3 = (.long i3) := Option.some.inj ei3
  obtain ⟨nE0, r0⟩ := and_e hn
  obtain ⟨nE4, r1⟩ := and_e r0
  obtain ⟨nE1, r2⟩ := and_e r1
  obtain ⟨nE2, r3⟩ := and_e r2
  obtain ⟨nE3, r4⟩ := and_e r3
  obtain ⟨nA, r5⟩ := and_e r4
  obtain ⟨nL, r6⟩ := and_e r5
  obtain ⟨nO4, r7⟩ := and_e r6
  obtain ⟨nX4, r8⟩ := and_e r7
  obtain ⟨nU4, r9⟩ := and_e r8
  obtain ⟨nC4, r10⟩ := and_e r9
  obtain ⟨nO0, r11⟩ := and_e r10
  obtain ⟨nX0, r12⟩ := and_e r11
  obtain ⟨nU0, r13⟩ := and_e r12
  obtain ⟨nC0, r14⟩ := and_e r13
  obtain ⟨nO3, r15⟩ := and_e r14
  obtain ⟨nX3, r16⟩ := and_e r15
  obtain ⟨nU3, r17⟩ := and_e r16
  obtain ⟨nC3, r18⟩ := and_e r17
  obtain ⟨nO2, r19⟩ := and_e r18
  obtain ⟨nX2, r20⟩ := and_e r19
  obtain ⟨nU2, r21⟩ := and_e r20
  obtain ⟨nC2, r22⟩ := and_e r21
  obtain ⟨nO1, r23⟩ := and_e r22
  obtain ⟨nX1, r24⟩ := and_e r23
  obtain ⟨nU1, r25⟩ := and_e r24
  have nC1 := r25
  obtain ⟨em, eem⟩ := exa_v (Cond.before_iff.mp (hsets _ (List.mem_of_getElem? (i := 2) rfl)))
  have T1 : Sta s s.heap "java/util/Optional" "EMPTY" "Ljava/util/Optional;" (.ref em) := Sta.start eem (Or.inl (hsets _ (List.mem_of_getElem? (i := 1) rfl)))
  have Em := Exa.start eem (Cond.before_iff.mp (hsets _ (List.mem_of_getElem? (i := 2) rfl)))
  have Fm : Fld s s.heap em "java/util/Optional" "value" "Ljava/lang/Object;" .null := Fld.start ((fld_at eem).symm.trans (null_v (Cond.before_iff.mp (hsets _ (List.mem_of_getElem? (i := 3) rfl)))))
  have OE : OptS s s.heap em 0 := ⟨Em, Or.inl ⟨rfl, Fm⟩⟩
  obtain ⟨ep, eep⟩ := exa_v (Cond.before_iff.mp (hsets _ (List.mem_of_getElem? (i := 15) rfl)))
  have T2 : Sta s s.heap "java/time/Instant" "EPOCH" "Ljava/time/Instant;" (.ref ep) := Sta.start eep (Or.inl (hsets _ (List.mem_of_getElem? (i := 14) rfl)))
  have q1 := not_v (Cond.before_iff.mp (hsets _ (List.mem_of_getElem? (i := 6) rfl)))
  obtain ⟨cs, ecs⟩ := is_v (Cond.before_iff.mp (hsets _ (List.mem_of_getElem? (i := 5) rfl)))
  have T3 : Sta s s.heap "java/lang/String" "COMPACT_STRINGS" "Z" (.int cs) := Sta.start ecs (Or.inl (hsets _ (List.mem_of_getElem? (i := 4) rfl)))
  have hcs : ¬ cs = 0 := gotF (Cond.eq_ints ecs (Term.int_eval _)) q1
  obtain ⟨pa, epa⟩ := arr_v nA
  have TP : Sta s s.heap "com/example/subjectline/subjectline/server/Progress" "PLAIN" "[Lcom/example/subjectline/subjectline/server/Progress;" (.ref pa) := Sta.start epa (Or.inr ⟨(hw _ (List.mem_of_getElem? (i := 54) rfl)), (hw _ (List.mem_of_getElem? (i := 142) rfl))⟩)
  obtain ⟨cl, A1⟩ := Arr.start epa nA
  obtain ⟨v0, ev0⟩ := exa_v nE0
  have S0 : Sta s s.heap "com/example/subjectline/subjectline/server/Status" "RECEIVED" "Lcom/example/subjectline/subjectline/server/Status;" (.ref v0) := Sta.start ev0 (Or.inr ⟨(hw _ (List.mem_of_getElem? (i := 6) rfl)), (hw _ (List.mem_of_getElem? (i := 7) rfl))⟩)
  have E0 := Exa.start ev0 nE0
  have O0 : Fld s s.heap v0 "java/lang/Enum" "ordinal" "I" (.int 0) := Fld.start ((fld_at ev0).symm.trans (own_eqi nO0))
  obtain ⟨w0_, ew0⟩ := exa_v nX0
  obtain ⟨hin0, hat0⟩ := elem_in ew0 epa (Term.int_eval _) A1.1
  have X0 := Exa.start ew0 nX0
  have U0 : Fld s s.heap w0_ "com/example/subjectline/subjectline/server/Progress" "undeliveredCallbacks" "I" (.int 0) := Fld.start ((fld_at ew0).symm.trans (own_eqi nU0))
  have C0 : Fld s s.heap w0_ "com/example/subjectline/subjectline/server/Progress" "callingSince" "Ljava/util/Optional;" (.ref em) := Fld.start ((fld_at ew0).symm.trans (own_eqr eem nC0))
  have G0 : StS s s.heap v0 pa em := ⟨E0, 0, w0_, cl, O0, TP, A1, hin0, hat0, ⟨X0, U0, C0⟩, OE⟩
  obtain ⟨v1, ev1⟩ := exa_v nE1
  have S1 : Sta s s.heap "com/example/subjectline/subjectline/server/Status" "COMPLETED" "Lcom/example/subjectline/subjectline/server/Status;" (.ref v1) := Sta.start ev1 (Or.inr ⟨(hw _ (List.mem_of_getElem? (i := 6) rfl)), (hw _ (List.mem_of_getElem? (i := 132) rfl))⟩)
  have E1 := Exa.start ev1 nE1
  have O1 : Fld s s.heap v1 "java/lang/Enum" "ordinal" "I" (.int 1) := Fld.start ((fld_at ev1).symm.trans (own_eqi nO1))
  obtain ⟨w1_, ew1⟩ := exa_v nX1
  obtain ⟨hin1, hat1⟩ := elem_in ew1 epa (Term.int_eval _) A1.1
  have X1 := Exa.start ew1 nX1
  have U1 : Fld s s.heap w1_ "com/example/subjectline/subjectline/server/Progress" "undeliveredCallbacks" "I" (.int 0) := Fld.start ((fld_at ew1).symm.trans (own_eqi nU1))
  have C1 : Fld s s.heap w1_ "com/example/subjectline/subjectline/server/Progress" "callingSince" "Ljava/util/Optional;" (.ref em) := Fld.start ((fld_at ew1).symm.trans (own_eqr eem nC1))
  have G1 : StS s s.heap v1 pa em := ⟨E1, 1, w1_, cl, O1, TP, A1, hin1, hat1, ⟨X1, U1, C1⟩, OE⟩
  obtain ⟨v2, ev2⟩ := exa_v nE2
  have S2 : Sta s s.heap "com/example/subjectline/subjectline/server/Status" "FAILED" "Lcom/example/subjectline/subjectline/server/Status;" (.ref v2) := Sta.start ev2 (Or.inr ⟨(hw _ (List.mem_of_getElem? (i := 6) rfl)), (hw _ (List.mem_of_getElem? (i := 134) rfl))⟩)
  have E2 := Exa.start ev2 nE2
  have O2 : Fld s s.heap v2 "java/lang/Enum" "ordinal" "I" (.int 2) := Fld.start ((fld_at ev2).symm.trans (own_eqi nO2))
  obtain ⟨w2_, ew2⟩ := exa_v nX2
  obtain ⟨hin2, hat2⟩ := elem_in ew2 epa (Term.int_eval _) A1.1
  have X2 := Exa.start ew2 nX2
  have U2 : Fld s s.heap w2_ "com/example/subjectline/subjectline/server/Progress" "undeliveredCallbacks" "I" (.int 0) := Fld.start ((fld_at ew2).symm.trans (own_eqi nU2))
  have C2 : Fld s s.heap w2_ "com/example/subjectline/subjectline/server/Progress" "callingSince" "Ljava/util/Optional;" (.ref em) := Fld.start ((fld_at ew2).symm.trans (own_eqr eem nC2))
  have G2 : StS s s.heap v2 pa em := ⟨E2, 2, w2_, cl, O2, TP, A1, hin2, hat2, ⟨X2, U2, C2⟩, OE⟩
  obtain ⟨v3, ev3⟩ := exa_v nE3
  have S3 : Sta s s.heap "com/example/subjectline/subjectline/server/Status" "NOTIFIED" "Lcom/example/subjectline/subjectline/server/Status;" (.ref v3) := Sta.start ev3 (Or.inr ⟨(hw _ (List.mem_of_getElem? (i := 6) rfl)), (hw _ (List.mem_of_getElem? (i := 136) rfl))⟩)
  have E3 := Exa.start ev3 nE3
  have O3 : Fld s s.heap v3 "java/lang/Enum" "ordinal" "I" (.int 3) := Fld.start ((fld_at ev3).symm.trans (own_eqi nO3))
  obtain ⟨w3_, ew3⟩ := exa_v nX3
  obtain ⟨hin3, hat3⟩ := elem_in ew3 epa (Term.int_eval _) A1.1
  have X3 := Exa.start ew3 nX3
  have U3 : Fld s s.heap w3_ "com/example/subjectline/subjectline/server/Progress" "undeliveredCallbacks" "I" (.int 0) := Fld.start ((fld_at ew3).symm.trans (own_eqi nU3))
  have C3 : Fld s s.heap w3_ "com/example/subjectline/subjectline/server/Progress" "callingSince" "Ljava/util/Optional;" (.ref em) := Fld.start ((fld_at ew3).symm.trans (own_eqr eem nC3))
  have G3 : StS s s.heap v3 pa em := ⟨E3, 3, w3_, cl, O3, TP, A1, hin3, hat3, ⟨X3, U3, C3⟩, OE⟩
  obtain ⟨v4, ev4⟩ := exa_v nE4
  have S4 : Sta s s.heap "com/example/subjectline/subjectline/server/Status" "UNDELIVERABLE" "Lcom/example/subjectline/subjectline/server/Status;" (.ref v4) := Sta.start ev4 (Or.inr ⟨(hw _ (List.mem_of_getElem? (i := 6) rfl)), (hw _ (List.mem_of_getElem? (i := 106) rfl))⟩)
  have E4 := Exa.start ev4 nE4
  have O4 : Fld s s.heap v4 "java/lang/Enum" "ordinal" "I" (.int 4) := Fld.start ((fld_at ev4).symm.trans (own_eqi nO4))
  obtain ⟨w4_, ew4⟩ := exa_v nX4
  obtain ⟨hin4, hat4⟩ := elem_in ew4 epa (Term.int_eval _) A1.1
  have X4 := Exa.start ew4 nX4
  have U4 : Fld s s.heap w4_ "com/example/subjectline/subjectline/server/Progress" "undeliveredCallbacks" "I" (.int 0) := Fld.start ((fld_at ew4).symm.trans (own_eqi nU4))
  have C4 : Fld s s.heap w4_ "com/example/subjectline/subjectline/server/Progress" "callingSince" "Ljava/util/Optional;" (.ref em) := Fld.start ((fld_at ew4).symm.trans (own_eqr eem nC4))
  have G4 : StS s s.heap v4 pa em := ⟨E4, 4, w4_, cl, O4, TP, A1, hin4, hat4, ⟨X4, U4, C4⟩, OE⟩
  let W : Int32 → Addr := fun k => if k = 0 then v0 else if k = 1 then v1 else if k = 2 then v2 else if k = 3 then v3 else v4
  have HS : ∀ k : Int32, StS s s.heap (W (ck k)) pa em := by
    intro k
    by_cases k0 : k = 0
    · subst k0; exact G0
    by_cases k1 : k = 1
    · subst k1; exact G1
    by_cases k2 : k = 2
    · subst k2; exact G2
    by_cases k3 : k = 3
    · subst k3; exact G3
    have e1 : ck k = 4 := by simp [ck, k0, k1, k2, k3]
    rw [e1]; exact G4
  obtain ⟨n, o, h1, h2, h3, _, L, rfl, ⟨rfl, N⟩, hq⟩ := rm0 l s _ hw tables_1 i0 i1 i2 i3 s.heap s.heap.size (Nat.le_refl _) W pa em ep cs hcs S0 S1 S2 S3 S4 HS T1 T2 T3 OE p e ha hc hk s m _ below hf ((Spec.applies_iff_loose hf).mp happ).1 ⟨rfl, State.Warmed39.refl s, rfl⟩ trivial
  refine ⟨n, _, h1, h2, h3, hpost _ _ _ _ _ _ ⟨Cond.after_iff.mpr rfl, Cond.after_iff.mpr (eq_i res_at (Term.int_eval (1)) rfl), trivial⟩ ⟨hq.1, hq.2.1, (hq.2.2.sift fun y hy => Or.inr (N y hy)).mono (by decide) (by decide)⟩⟩
theorem main_1_1 : Claimed_1_1 := comes_1 fun _ _ _ _ _ _ h hF => ⟨h.1, hF⟩
theorem main_1_2 : Claimed_1_2 := comes_1 fun _ _ _ _ _ _ h hF => ⟨h.2.1, hF⟩
end Jvm.Pilot.@@N@@
namespace Jvm.Pilot.@@N@@
open Jvm Jvm.ClassFile Sem Op Lib Jvm.Free Jvm.Stand Jvm.Pilot.@@N@@.Jvm.D
/-! MADE BY PROGRAM (witnessworld.py) out of the Statement's table words and the real class files: 27 classes; the members and pool entries that the words name. The judged class is class 1, her method 2. -/
namespace start1
open Jvm.ClassFile
def u (s : String) : CpInfo := .utf8 (stringToUtf16 s)
/-- a pool by its gaps: so many unusable entries, then the entry; so many at the end -/
def gap : Nat → List CpInfo → List CpInfo
  | 0, r => r
  | n + 1, r => .unusable :: gap n r
def poolList (es : List (Nat × CpInfo)) (last : Nat) : List CpInfo := es.foldr (fun e r => gap e.1 (e.2 :: r)) (gap last [])
def pool (es : List (Nat × CpInfo)) (last : Nat) : Array CpInfo := ⟨poolList es last⟩
def fileOf (pool : Array CpInfo) (this : Nat) (attrs : Array Attribute := #[]) (ms : Array MethodInfo := #[]) (fl : Nat := 33) (sup : Nat := 0) (ifs : Array Nat := #[]) (fds : Array FieldInfo := #[]) : ClassFile where
  minorVersion := 0
  majorVersion := 65
  constantPool := pool
  accessFlags := fl
  thisClass := this
  superClass := sup
  interfaces := ifs
  fields := fds
  methods := ms
  attributes := attrs
def plain (name : String) (sup : Option ClassId) : Class where
  name := name
  kind := .ordinary
  loader := none
  accessFlags := 33
  super := sup
  interfaces := #[]
  cf := none
  fields := #[]
  methods := #[]
  instanceTypes := #[]
  staticTypes := #[]
  resolved := #[]
  callSites := []
  init := .initialized
  statics := none
  mirror := none

def pool0 : Array CpInfo := pool [(5, u "<init>"), (0, u "()V"), (1, .class_ 10), (1, u "java/lang/Object")] 113

def k0c0 : Code := { maxStack := 0, maxLocals := 1, code := object_method_1_code, exceptionTable := #[], attributes := #[] }
def k0m0 : Method := { name := "<init>", desc := "()V", sig := { parameters := [], returnType := none }, accessFlags := 1, code := some k0c0 }
/-- java/lang/Object -/
def k0 : Class := { plain "java/lang/Object" none with
  accessFlags := 33
  interfaces := #[]
  cf := some (fileOf pool0 8 #[] #[{ accessFlags := 1, nameIndex := 5, descriptorIndex := 6, attributes := #[] }] 33 0 #[] #[])
  fields := #[]
  methods := #[k0m0]
  instanceTypes := #[]
  staticTypes := #[]
  resolved := Array.replicate 124 none
  statics := none }

def pool1 : Array CpInfo := pool [(2, .class_ 4), (1, u "java/lang/Object"), (0, u "<init>"), (0, u "()V"), (0, .integer 2147483647), (0, .fieldref 9 10), (0, .class_ 11), (0, .nameAndType 12 13), (0, u "com/example/subjectline/subjectline/server/Status"), (0, u "RECEIVED"), (0, u "Lcom/example/subjectline/subjectline/server/Status;"), (0, .fieldref 9 15), (0, .nameAndType 16 13), (0, u "COMPLETED"), (0, .fieldref 9 18), (0, .nameAndType 19 13), (0, u "FAILED"), (0, .fieldref 9 21), (0, .nameAndType 22 13), (0, u "NOTIFIED"), (0, .fieldref 9 24), (0, .nameAndType 25 13), (0, u "UNDELIVERABLE"), (0, .methodref 27 28), (0, .class_ 29), (0, .nameAndType 30 31), (0, u "com/example/subjectline/subjectline/server/ProgressCallbacksSentPinLaw"), (0, u "status"), (0, u "(I)Lcom/example/subjectline/subjectline/server/Status;"), (0, .methodref 33 34), (0, .class_ 35), (0, .nameAndType 36 37), (0, u "java/lang/String"), (0, u "valueOf"), (0, u "(C)Ljava/lang/String;"), (0, .methodref 39 40), (0, .class_ 41), (0, .nameAndType 42 43), (0, u "java/util/Optional"), (0, u "of"), (0, u "(Ljava/lang/Object;)Ljava/util/Optional;"), (0, .methodref 39 45), (0, .nameAndType 46 47), (0, u "empty"), (0, u "()Ljava/util/Optional;"), (0, .long 1000000000000), (1, .methodref 51 52), (0, .class_ 53), (0, .nameAndType 54 55), (0, u "java/time/Instant"), (0, u "ofEpochSecond"), (0, u "(J)Ljava/time/Instant;"), (0, .class_ 57), (0, u "com/example/subjectline/subjectline/server/Progress"), (0, .methodref 56 59), (0, .nameAndType 5 60), (0, u "(Lcom/example/subjectline/subjectline/server/Status;Ljava/util/Optional;ILjava/util/Optional;Ljava/util/Optional;)V"), (0, .methodref 56 62), (0, .nameAndType 63 64), (0, u "callbacksSent"), (0, u "()I"), (0, .methodref 56 66), (0, .nameAndType 67 68), (0, u "calling"), (0, u "(Ljava/util/Optional;)Lcom/example/subjectline/subjectline/server/Progress;"), (0, .methodref 56 70), (0, .nameAndType 71 68), (0, u "undelivered"), (3, u "law"), (0, u "(IIIJ)Z")] 2

def k1m0 : Method := { name := "<init>", desc := "()V", sig := { parameters := [], returnType := none }, accessFlags := 1, code := none }
def k1c1 : Code := { maxStack := 2, maxLocals := 2, code := method_2_code, exceptionTable := #[], attributes := #[] }
def k1m1 : Method := { name := "status", desc := "(I)Lcom/example/subjectline/subjectline/server/Status;", sig := { parameters := [.int], returnType := some (.object "com/example/subjectline/subjectline/server/Status") }, accessFlags := 10, code := some k1c1 }
def k1c2 : Code := { maxStack := 7, maxLocals := 16, code := code, exceptionTable := #[], attributes := #[] }
def k1m2 : Method := { name := "law", desc := "(IIIJ)Z", sig := { parameters := [.int, .int, .int, .long], returnType := some .boolean }, accessFlags := 9, code := some k1c2 }
/-- com/example/subjectline/subjectline/server/ProgressCallbacksSentPinLaw -/
def k1 : Class := { plain "com/example/subjectline/subjectline/server/ProgressCallbacksSentPinLaw" (some 0) with
  accessFlags := 49
  interfaces := #[]
  cf := some (fileOf pool1 27 #[] #[{ accessFlags := 1, nameIndex := 5, descriptorIndex := 6, attributes := #[] }, { accessFlags := 10, nameIndex := 30, descriptorIndex := 31, attributes := #[] }, { accessFlags := 9, nameIndex := 75, descriptorIndex := 76, attributes := #[] }] 49 2 #[] #[])
  fields := #[]
  methods := #[k1m0, k1m1, k1m2]
  instanceTypes := #[]
  staticTypes := #[]
  resolved := Array.replicate 79 none
  statics := none }

def pool2 : Array CpInfo := pool [(1, .class_ 2), (0, u "java/lang/constant/Constable"), (0, .class_ 4), (0, u "java/lang/Object")] 6

/-- java/lang/constant/Constable -/
def k2 : Class := { plain "java/lang/constant/Constable" (some 0) with
  accessFlags := 1537
  interfaces := #[]
  cf := some (fileOf pool2 1 #[] #[] 1537 3 #[] #[])
  fields := #[]
  methods := #[]
  instanceTypes := #[]
  staticTypes := #[]
  resolved := Array.replicate 11 none
  statics := none }

def pool3 : Array CpInfo := pool [(1, .class_ 2), (0, u "java/lang/Comparable"), (0, .class_ 4), (0, u "java/lang/Object")] 7

/-- java/lang/Comparable -/
def k3 : Class := { plain "java/lang/Comparable" (some 0) with
  accessFlags := 1537
  interfaces := #[]
  cf := some (fileOf pool3 1 #[] #[] 1537 3 #[] #[])
  fields := #[]
  methods := #[]
  instanceTypes := #[]
  staticTypes := #[]
  resolved := Array.replicate 12 none
  statics := none }

def pool4 : Array CpInfo := pool [(1, .class_ 2), (0, u "java/io/Serializable"), (0, .class_ 4), (0, u "java/lang/Object")] 2

/-- java/io/Serializable -/
def k4 : Class := { plain "java/io/Serializable" (some 0) with
  accessFlags := 1537
  interfaces := #[]
  cf := some (fileOf pool4 1 #[] #[] 1537 3 #[] #[])
  fields := #[]
  methods := #[]
  instanceTypes := #[]
  staticTypes := #[]
  resolved := Array.replicate 7 none
  statics := none }

def pool5 : Array CpInfo := pool [(2, .class_ 4), (1, u "java/lang/Enum"), (0, u "name"), (0, u "Ljava/lang/String;"), (0, .fieldref 2 8), (0, .nameAndType 9 10), (0, u "ordinal"), (0, u "I"), (1, .class_ 14), (1, u "java/lang/Object"), (4, u "hash"), (86, .class_ 108), (1, u "java/lang/Enum$EnumDesc"), (2, .class_ 112), (0, u "java/lang/constant/Constable"), (0, .class_ 114), (0, u "java/lang/Comparable"), (0, .class_ 116), (0, u "java/io/Serializable"), (9, u "()I")] 77

def k5c0 : Code := { maxStack := 1, maxLocals := 1, code := jdk_37_method_2_code, exceptionTable := #[], attributes := #[] }
def k5m0 : Method := { name := "ordinal", desc := "()I", sig := { parameters := [], returnType := some .int }, accessFlags := 17, code := some k5c0 }
/-- java/lang/Enum -/
def k5 : Class := { plain "java/lang/Enum" (some 0) with
  accessFlags := 1057
  interfaces := #[2, 3, 4]
  cf := some (fileOf pool5 2 #[.nestMembers #[106]] #[{ accessFlags := 17, nameIndex := 9, descriptorIndex := 126, attributes := #[] }] 1057 12 #[111, 113, 115] #[{ accessFlags := 18, nameIndex := 5, descriptorIndex := 6, attributes := #[] }, { accessFlags := 18, nameIndex := 9, descriptorIndex := 10, attributes := #[] }, { accessFlags := 2, nameIndex := 19, descriptorIndex := 10, attributes := #[] }])
  fields := #[{ name := "name", type := (.object "java/lang/String"), accessFlags := 18, slot := 0, constantValue := 0 }, { name := "ordinal", type := .int, accessFlags := 18, slot := 1, constantValue := 0 }, { name := "hash", type := .int, accessFlags := 2, slot := 2, constantValue := 0 }]
  methods := #[k5m0]
  instanceTypes := #[(.object "java/lang/String"), .int, .int]
  staticTypes := #[]
  resolved := Array.replicate 204 none
  statics := none }

def pool6 : Array CpInfo := pool [(1, .class_ 2), (0, u "com/example/subjectline/subjectline/server/Status"), (2, u "RECEIVED"), (0, u "Lcom/example/subjectline/subjectline/server/Status;"), (2, u "COMPLETED"), (2, u "FAILED"), (2, u "NOTIFIED"), (2, u "UNDELIVERABLE"), (2, u "$VALUES"), (0, u "[Lcom/example/subjectline/subjectline/server/Status;"), (6, .class_ 31), (1, u "java/lang/Enum"), (8, u "previous"), (18, u "code"), (0, u "Ljava/lang/String;"), (2, u "BY_CODE"), (0, u "Ljava/util/Map;"), (14, u "ENDS"), (0, u "[Z"), (6, u "RETRYABLE"), (0, u "Ljava/util/Set;")] 112

/-- com/example/subjectline/subjectline/server/Status -/
def k6 : Class := { plain "com/example/subjectline/subjectline/server/Status" (some 5) with
  accessFlags := 16433
  interfaces := #[]
  cf := some (fileOf pool6 1 #[] #[] 16433 29 #[] #[{ accessFlags := 16409, nameIndex := 5, descriptorIndex := 6, attributes := #[] }, { accessFlags := 16409, nameIndex := 9, descriptorIndex := 6, attributes := #[] }, { accessFlags := 16409, nameIndex := 12, descriptorIndex := 6, attributes := #[] }, { accessFlags := 16409, nameIndex := 15, descriptorIndex := 6, attributes := #[] }, { accessFlags := 16409, nameIndex := 18, descriptorIndex := 6, attributes := #[] }, { accessFlags := 26, nameIndex := 87, descriptorIndex := 88, attributes := #[] }, { accessFlags := 26, nameIndex := 63, descriptorIndex := 64, attributes := #[] }, { accessFlags := 26, nameIndex := 79, descriptorIndex := 80, attributes := #[] }, { accessFlags := 18, nameIndex := 40, descriptorIndex := 6, attributes := #[] }, { accessFlags := 18, nameIndex := 59, descriptorIndex := 60, attributes := #[] }, { accessFlags := 4122, nameIndex := 21, descriptorIndex := 22, attributes := #[] }])
  fields := #[{ name := "RECEIVED", type := (.object "com/example/subjectline/subjectline/server/Status"), accessFlags := 16409, slot := 0, constantValue := 0 }, { name := "COMPLETED", type := (.object "com/example/subjectline/subjectline/server/Status"), accessFlags := 16409, slot := 1, constantValue := 0 }, { name := "FAILED", type := (.object "com/example/subjectline/subjectline/server/Status"), accessFlags := 16409, slot := 2, constantValue := 0 }, { name := "NOTIFIED", type := (.object "com/example/subjectline/subjectline/server/Status"), accessFlags := 16409, slot := 3, constantValue := 0 }, { name := "UNDELIVERABLE", type := (.object "com/example/subjectline/subjectline/server/Status"), accessFlags := 16409, slot := 4, constantValue := 0 }, { name := "RETRYABLE", type := (.object "java/util/Set"), accessFlags := 26, slot := 5, constantValue := 0 }, { name := "BY_CODE", type := (.object "java/util/Map"), accessFlags := 26, slot := 6, constantValue := 0 }, { name := "ENDS", type := (.array .boolean), accessFlags := 26, slot := 7, constantValue := 0 }, { name := "previous", type := (.object "com/example/subjectline/subjectline/server/Status"), accessFlags := 18, slot := 3, constantValue := 0 }, { name := "code", type := (.object "java/lang/String"), accessFlags := 18, slot := 4, constantValue := 0 }, { name := "$VALUES", type := (.array (.object "com/example/subjectline/subjectline/server/Status")), accessFlags := 4122, slot := 8, constantValue := 0 }]
  methods := #[]
  instanceTypes := #[(.object "java/lang/String"), .int, .int, (.object "com/example/subjectline/subjectline/server/Status"), (.object "java/lang/String")]
  staticTypes := #[(.object "com/example/subjectline/subjectline/server/Status"), (.object "com/example/subjectline/subjectline/server/Status"), (.object "com/example/subjectline/subjectline/server/Status"), (.object "com/example/subjectline/subjectline/server/Status"), (.object "com/example/subjectline/subjectline/server/Status"), (.object "java/util/Set"), (.object "java/util/Map"), (.array .boolean), (.array (.object "com/example/subjectline/subjectline/server/Status"))]
  resolved := Array.replicate 201 none
  statics := some 0 }

def pool7 : Array CpInfo := pool [(1, .fieldref 2 3), (0, .class_ 4), (0, .nameAndType 5 6), (0, u "java/util/Optional"), (0, u "EMPTY"), (0, u "Ljava/util/Optional;"), (0, .methodref 8 9), (0, .class_ 10), (0, .nameAndType 11 12), (0, u "java/lang/Object"), (0, u "<init>"), (0, u "()V"), (0, .fieldref 2 14), (0, .nameAndType 15 16), (0, u "value"), (0, u "Ljava/lang/Object;"), (0, .methodref 18 19), (0, .class_ 20), (0, .nameAndType 21 22), (0, u "java/util/Objects"), (0, u "requireNonNull"), (0, u "(Ljava/lang/Object;)Ljava/lang/Object;"), (0, .methodref 2 24), (0, .nameAndType 11 25), (0, u "(Ljava/lang/Object;)V"), (19, u "isEmpty"), (0, u "()Z"), (8, u "empty"), (0, u "()Ljava/util/Optional;"), (8, u "(Ljava/lang/Object;)Ljava/util/Optional;"), (2, u "isPresent"), (13, u "of")] 104

def k7c0 : Code := { maxStack := 1, maxLocals := 1, code := jdk_32_method_1_code, exceptionTable := #[], attributes := #[] }
def k7m0 : Method := { name := "empty", desc := "()Ljava/util/Optional;", sig := { parameters := [], returnType := some (.object "java/util/Optional") }, accessFlags := 9, code := some k7c0 }
def k7c1 : Code := { maxStack := 2, maxLocals := 2, code := jdk_32_method_2_code, exceptionTable := #[], attributes := #[] }
def k7m1 : Method := { name := "<init>", desc := "(Ljava/lang/Object;)V", sig := { parameters := [(.object "java/lang/Object")], returnType := none }, accessFlags := 2, code := some k7c1 }
def k7c2 : Code := { maxStack := 3, maxLocals := 1, code := jdk_32_method_3_code, exceptionTable := #[], attributes := #[] }
def k7m2 : Method := { name := "of", desc := "(Ljava/lang/Object;)Ljava/util/Optional;", sig := { parameters := [(.object "java/lang/Object")], returnType := some (.object "java/util/Optional") }, accessFlags := 9, code := some k7c2 }
def k7c3 : Code := { maxStack := 1, maxLocals := 1, code := jdk_32_method_6_code, exceptionTable := #[], attributes := #[] }
def k7m3 : Method := { name := "isPresent", desc := "()Z", sig := { parameters := [], returnType := some .boolean }, accessFlags := 1, code := some k7c3 }
def k7c4 : Code := { maxStack := 1, maxLocals := 1, code := jdk_32_method_7_code, exceptionTable := #[], attributes := #[] }
def k7m4 : Method := { name := "isEmpty", desc := "()Z", sig := { parameters := [], returnType := some .boolean }, accessFlags := 1, code := some k7c4 }
/-- java/util/Optional -/
def k7 : Class := { plain "java/util/Optional" (some 0) with
  accessFlags := 49
  interfaces := #[]
  cf := some (fileOf pool7 2 #[] #[{ accessFlags := 9, nameIndex := 55, descriptorIndex := 56, attributes := #[] }, { accessFlags := 2, nameIndex := 11, descriptorIndex := 25, attributes := #[] }, { accessFlags := 9, nameIndex := 82, descriptorIndex := 65, attributes := #[] }, { accessFlags := 1, nameIndex := 68, descriptorIndex := 46, attributes := #[] }, { accessFlags := 1, nameIndex := 45, descriptorIndex := 46, attributes := #[] }] 49 8 #[] #[{ accessFlags := 26, nameIndex := 5, descriptorIndex := 6, attributes := #[] }, { accessFlags := 18, nameIndex := 15, descriptorIndex := 16, attributes := #[] }])
  fields := #[{ name := "EMPTY", type := (.object "java/util/Optional"), accessFlags := 26, slot := 0, constantValue := 0 }, { name := "value", type := (.object "java/lang/Object"), accessFlags := 18, slot := 0, constantValue := 0 }]
  methods := #[k7m0, k7m1, k7m2, k7m3, k7m4]
  instanceTypes := #[(.object "java/lang/Object")]
  staticTypes := #[(.object "java/util/Optional")]
  resolved := Array.replicate 187 none
  statics := some 1 }

def pool8 : Array CpInfo := pool [(4, .class_ 6), (1, u "java/time/temporal/TemporalAccessor"), (95, .class_ 103), (0, u "java/lang/Object")] 21

/-- java/time/temporal/TemporalAccessor -/
def k8 : Class := { plain "java/time/temporal/TemporalAccessor" (some 0) with
  accessFlags := 1537
  interfaces := #[]
  cf := some (fileOf pool8 4 #[] #[] 1537 102 #[] #[])
  fields := #[]
  methods := #[]
  instanceTypes := #[]
  staticTypes := #[]
  resolved := Array.replicate 125 none
  statics := none }

def pool9 : Array CpInfo := pool [(22, .class_ 24), (1, u "java/time/temporal/Temporal"), (2, .class_ 28), (0, u "java/lang/Object"), (0, .class_ 30), (0, u "java/time/temporal/TemporalAccessor")] 25

/-- java/time/temporal/Temporal -/
def k9 : Class := { plain "java/time/temporal/Temporal" (some 0) with
  accessFlags := 1537
  interfaces := #[8]
  cf := some (fileOf pool9 22 #[] #[] 1537 27 #[29] #[])
  fields := #[]
  methods := #[]
  instanceTypes := #[]
  staticTypes := #[]
  resolved := Array.replicate 56 none
  statics := none }

def pool10 : Array CpInfo := pool [(1, .class_ 2), (0, u "java/time/temporal/TemporalAdjuster"), (0, .class_ 4), (0, u "java/lang/Object")] 6

/-- java/time/temporal/TemporalAdjuster -/
def k10 : Class := { plain "java/time/temporal/TemporalAdjuster" (some 0) with
  accessFlags := 1537
  interfaces := #[]
  cf := some (fileOf pool10 1 #[] #[] 1537 3 #[] #[])
  fields := #[]
  methods := #[]
  instanceTypes := #[]
  staticTypes := #[]
  resolved := Array.replicate 11 none
  statics := none }

def pool11 : Array CpInfo := pool [(20, .methodref 21 22), (0, .class_ 23), (0, .nameAndType 24 25), (0, u "java/time/Instant"), (0, u "create"), (0, u "(JI)Ljava/time/Instant;"), (44, u "ofEpochSecond"), (6, .nameAndType 78 79), (0, u "<init>"), (0, u "()V"), (41, .fieldref 21 122), (0, .nameAndType 123 124), (0, u "EPOCH"), (0, u "Ljava/time/Instant;"), (0, .long 18415187059542332416), (1, .long 31556889864403199), (6, .methodref 21 135), (0, .nameAndType 78 136), (0, u "(JI)V"), (0, .methodref 138 77), (0, .class_ 139), (0, u "java/lang/Object"), (0, .fieldref 21 141), (0, .nameAndType 142 143), (0, u "seconds"), (0, u "J"), (0, .fieldref 21 145), (0, .nameAndType 146 147), (0, u "nanos"), (0, u "I"), (28, .class_ 178), (1, u "java/time/temporal/Temporal"), (3, .class_ 184), (1, u "java/time/Instant$1"), (23, .class_ 210), (1, u "java/time/temporal/TemporalAdjuster"), (36, u "(J)Ljava/time/Instant;"), (175, u "MIN"), (4, u "MAX"), (0, .class_ 430), (0, u "java/lang/Comparable"), (0, .class_ 432), (0, u "java/io/Serializable"), (0, u "MIN_SECOND"), (1, u "MAX_SECOND"), (0, u "serialVersionUID")] 142

def k11c0 : Code := { maxStack := 3, maxLocals := 2, code := jdk_2320_method_3_code, exceptionTable := #[], attributes := #[] }
def k11m0 : Method := { name := "ofEpochSecond", desc := "(J)Ljava/time/Instant;", sig := { parameters := [.long], returnType := some (.object "java/time/Instant") }, accessFlags := 9, code := some k11c0 }
def k11c1 : Code := { maxStack := 5, maxLocals := 3, code := jdk_2320_method_8_code, exceptionTable := #[], attributes := #[] }
def k11m1 : Method := { name := "create", desc := "(JI)Ljava/time/Instant;", sig := { parameters := [.long, .int], returnType := some (.object "java/time/Instant") }, accessFlags := 10, code := some k11c1 }
def k11c2 : Code := { maxStack := 3, maxLocals := 4, code := jdk_2320_method_9_code, exceptionTable := #[], attributes := #[] }
def k11m2 : Method := { name := "<init>", desc := "(JI)V", sig := { parameters := [.long, .int], returnType := none }, accessFlags := 2, code := some k11c2 }
/-- java/time/Instant -/
def k11 : Class := { plain "java/time/Instant" (some 0) with
  accessFlags := 49
  interfaces := #[9, 10, 3, 4]
  cf := some (fileOf pool11 21 #[.nestMembers #[182]] #[{ accessFlags := 9, nameIndex := 70, descriptorIndex := 247, attributes := #[] }, { accessFlags := 10, nameIndex := 24, descriptorIndex := 25, attributes := #[] }, { accessFlags := 2, nameIndex := 78, descriptorIndex := 136, attributes := #[] }] 49 138 #[176, 208, 429, 431] #[{ accessFlags := 25, nameIndex := 123, descriptorIndex := 124, attributes := #[] }, { accessFlags := 26, nameIndex := 433, descriptorIndex := 143, attributes := #[] }, { accessFlags := 26, nameIndex := 435, descriptorIndex := 143, attributes := #[] }, { accessFlags := 25, nameIndex := 423, descriptorIndex := 124, attributes := #[] }, { accessFlags := 25, nameIndex := 428, descriptorIndex := 124, attributes := #[] }, { accessFlags := 26, nameIndex := 436, descriptorIndex := 143, attributes := #[] }, { accessFlags := 18, nameIndex := 142, descriptorIndex := 143, attributes := #[] }, { accessFlags := 18, nameIndex := 146, descriptorIndex := 147, attributes := #[] }])
  fields := #[{ name := "EPOCH", type := (.object "java/time/Instant"), accessFlags := 25, slot := 0, constantValue := 0 }, { name := "MIN_SECOND", type := .long, accessFlags := 26, slot := 1, constantValue := 0 }, { name := "MAX_SECOND", type := .long, accessFlags := 26, slot := 2, constantValue := 0 }, { name := "MIN", type := (.object "java/time/Instant"), accessFlags := 25, slot := 3, constantValue := 0 }, { name := "MAX", type := (.object "java/time/Instant"), accessFlags := 25, slot := 4, constantValue := 0 }, { name := "serialVersionUID", type := .long, accessFlags := 26, slot := 5, constantValue := 0 }, { name := "seconds", type := .long, accessFlags := 18, slot := 0, constantValue := 0 }, { name := "nanos", type := .int, accessFlags := 18, slot := 1, constantValue := 0 }]
  methods := #[k11m0, k11m1, k11m2]
  instanceTypes := #[.long, .int]
  staticTypes := #[(.object "java/time/Instant"), .long, .long, (.object "java/time/Instant"), (.object "java/time/Instant"), .long]
  resolved := Array.replicate 579 none
  statics := some 2 }

def pool12 : Array CpInfo := pool [(2, .class_ 4), (1, u "java/lang/Object"), (0, u "<init>"), (0, u "()V"), (35, .class_ 44), (1, u "java/util/Objects"), (0, u "requireNonNull"), (0, u "(Ljava/lang/Object;)Ljava/lang/Object;")] 137

def k12m0 : Method := { name := "<init>", desc := "()V", sig := { parameters := [], returnType := none }, accessFlags := 2, code := none }
def k12c1 : Code := { maxStack := 2, maxLocals := 1, code := jdk_31_method_10_code, exceptionTable := #[], attributes := #[] }
def k12m1 : Method := { name := "requireNonNull", desc := "(Ljava/lang/Object;)Ljava/lang/Object;", sig := { parameters := [(.object "java/lang/Object")], returnType := some (.object "java/lang/Object") }, accessFlags := 9, code := some k12c1 }
/-- java/util/Objects -/
def k12 : Class := { plain "java/util/Objects" (some 0) with
  accessFlags := 49
  interfaces := #[]
  cf := some (fileOf pool12 42 #[] #[{ accessFlags := 2, nameIndex := 5, descriptorIndex := 6, attributes := #[] }, { accessFlags := 9, nameIndex := 45, descriptorIndex := 46, attributes := #[] }] 49 2 #[] #[])
  fields := #[]
  methods := #[k12m0, k12m1]
  instanceTypes := #[]
  staticTypes := #[]
  resolved := Array.replicate 184 none
  statics := none }

def pool13 : Array CpInfo := pool [(1, .methodref 2 3), (0, .class_ 4), (0, .nameAndType 5 6), (0, u "java/lang/Object"), (0, u "<init>"), (0, u "()V"), (0, .class_ 8), (0, u "java/lang/Record")] 13

def k13c0 : Code := { maxStack := 1, maxLocals := 1, code := jdk_30_method_1_code, exceptionTable := #[], attributes := #[] }
def k13m0 : Method := { name := "<init>", desc := "()V", sig := { parameters := [], returnType := none }, accessFlags := 4, code := some k13c0 }
/-- java/lang/Record -/
def k13 : Class := { plain "java/lang/Record" (some 0) with
  accessFlags := 1057
  interfaces := #[]
  cf := some (fileOf pool13 7 #[] #[{ accessFlags := 4, nameIndex := 5, descriptorIndex := 6, attributes := #[] }] 1057 2 #[] #[])
  fields := #[]
  methods := #[k13m0]
  instanceTypes := #[]
  staticTypes := #[]
  resolved := Array.replicate 22 none
  statics := none }

def pool14 : Array CpInfo := pool [(1, .methodref 2 3), (0, .class_ 4), (0, .nameAndType 5 6), (0, u "java/lang/Record"), (0, u "<init>"), (0, u "()V"), (0, .fieldref 8 9), (0, .class_ 10), (0, .nameAndType 11 12), (0, u "com/example/subjectline/subjectline/server/Progress"), (0, u "status"), (0, u "Lcom/example/subjectline/subjectline/server/Status;"), (0, .fieldref 8 14), (0, .nameAndType 15 16), (0, u "data"), (0, u "Ljava/util/Optional;"), (0, .fieldref 8 18), (0, .nameAndType 19 20), (0, u "undeliveredCallbacks"), (0, u "I"), (0, .fieldref 8 22), (0, .nameAndType 23 16), (0, u "lastUndeliveredAt"), (0, .fieldref 8 25), (0, .nameAndType 26 16), (0, u "callingSince"), (0, .fieldref 8 28), (0, .nameAndType 29 30), (0, u "PLAIN"), (0, u "[Lcom/example/subjectline/subjectline/server/Progress;"), (0, .methodref 32 33), (0, .class_ 34), (0, .nameAndType 35 36), (0, u "com/example/subjectline/subjectline/server/Status"), (0, u "ordinal"), (0, u "()I"), (0, .methodref 8 38), (0, .nameAndType 39 40), (0, u "of"), (0, u "(Lcom/example/subjectline/subjectline/server/Status;Ljava/util/Optional;ILjava/util/Optional;Ljava/util/Optional;)Lcom/example/subjectline/subjectline/server/Progress;"), (0, .methodref 42 43), (0, .class_ 44), (0, .nameAndType 45 46), (0, u "java/util/Optional"), (0, u "isPresent"), (0, u "()Z"), (0, .methodref 42 48), (0, .nameAndType 49 50), (0, u "empty"), (0, u "()Ljava/util/Optional;"), (13, .methodref 42 65), (0, .nameAndType 66 46), (0, u "isEmpty"), (0, .methodref 8 68), (0, .nameAndType 69 70), (0, u "plain"), (0, u "(Lcom/example/subjectline/subjectline/server/Status;)Lcom/example/subjectline/subjectline/server/Progress;"), (0, .methodref 8 72), (0, .nameAndType 5 73), (0, u "(Lcom/example/subjectline/subjectline/server/Status;Ljava/util/Optional;ILjava/util/Optional;Ljava/util/Optional;)V"), (42, u "RECEIVED"), (2, u "Lcom/example/subjectline/subjectline/server/Progress;"), (11, u "calling"), (0, u "(Ljava/util/Optional;)Lcom/example/subjectline/subjectline/server/Progress;"), (2, u "undelivered"), (0, u "callbacksSent")] 56

def k14c0 : Code := { maxStack := 2, maxLocals := 6, code := prog_50_method_1_code, exceptionTable := #[], attributes := #[] }
def k14m0 : Method := { name := "<init>", desc := "(Lcom/example/subjectline/subjectline/server/Status;Ljava/util/Optional;ILjava/util/Optional;Ljava/util/Optional;)V", sig := { parameters := [(.object "com/example/subjectline/subjectline/server/Status"), (.object "java/util/Optional"), .int, (.object "java/util/Optional"), (.object "java/util/Optional")], returnType := none }, accessFlags := 1, code := some k14c0 }
def k14c1 : Code := { maxStack := 2, maxLocals := 1, code := prog_50_method_2_code, exceptionTable := #[], attributes := #[] }
def k14m1 : Method := { name := "plain", desc := "(Lcom/example/subjectline/subjectline/server/Status;)Lcom/example/subjectline/subjectline/server/Progress;", sig := { parameters := [(.object "com/example/subjectline/subjectline/server/Status")], returnType := some (.object "com/example/subjectline/subjectline/server/Progress") }, accessFlags := 8, code := some k14c1 }
def k14c2 : Code := { maxStack := 5, maxLocals := 2, code := prog_50_method_5_code, exceptionTable := #[], attributes := #[] }
def k14m2 : Method := { name := "calling", desc := "(Ljava/util/Optional;)Lcom/example/subjectline/subjectline/server/Progress;", sig := { parameters := [(.object "java/util/Optional")], returnType := some (.object "com/example/subjectline/subjectline/server/Progress") }, accessFlags := 0, code := some k14c2 }
def k14c3 : Code := { maxStack := 5, maxLocals := 2, code := prog_50_method_6_code, exceptionTable := #[], attributes := #[] }
def k14m3 : Method := { name := "undelivered", desc := "(Ljava/util/Optional;)Lcom/example/subjectline/subjectline/server/Progress;", sig := { parameters := [(.object "java/util/Optional")], returnType := some (.object "com/example/subjectline/subjectline/server/Progress") }, accessFlags := 0, code := some k14c3 }
def k14c4 : Code := { maxStack := 2, maxLocals := 1, code := prog_50_method_7_code, exceptionTable := #[], attributes := #[] }
def k14m4 : Method := { name := "callbacksSent", desc := "()I", sig := { parameters := [], returnType := some .int }, accessFlags := 0, code := some k14c4 }
def k14c5 : Code := { maxStack := 7, maxLocals := 5, code := prog_50_method_9_code, exceptionTable := #[], attributes := #[] }
def k14m5 : Method := { name := "of", desc := "(Lcom/example/subjectline/subjectline/server/Status;Ljava/util/Optional;ILjava/util/Optional;Ljava/util/Optional;)Lcom/example/subjectline/subjectline/server/Progress;", sig := { parameters := [(.object "com/example/subjectline/subjectline/server/Status"), (.object "java/util/Optional"), .int, (.object "java/util/Optional"), (.object "java/util/Optional")], returnType := some (.object "com/example/subjectline/subjectline/server/Progress") }, accessFlags := 8, code := some k14c5 }
/-- com/example/subjectline/subjectline/server/Progress -/
def k14 : Class := { plain "com/example/subjectline/subjectline/server/Progress" (some 13) with
  accessFlags := 49
  interfaces := #[]
  cf := some (fileOf pool14 8 #[] #[{ accessFlags := 1, nameIndex := 5, descriptorIndex := 73, attributes := #[] }, { accessFlags := 8, nameIndex := 69, descriptorIndex := 70, attributes := #[] }, { accessFlags := 0, nameIndex := 131, descriptorIndex := 132, attributes := #[] }, { accessFlags := 0, nameIndex := 135, descriptorIndex := 132, attributes := #[] }, { accessFlags := 0, nameIndex := 136, descriptorIndex := 36, attributes := #[] }, { accessFlags := 8, nameIndex := 39, descriptorIndex := 40, attributes := #[] }] 49 2 #[] #[{ accessFlags := 18, nameIndex := 11, descriptorIndex := 12, attributes := #[] }, { accessFlags := 18, nameIndex := 15, descriptorIndex := 16, attributes := #[] }, { accessFlags := 18, nameIndex := 19, descriptorIndex := 20, attributes := #[] }, { accessFlags := 18, nameIndex := 23, descriptorIndex := 16, attributes := #[] }, { accessFlags := 18, nameIndex := 26, descriptorIndex := 16, attributes := #[] }, { accessFlags := 26, nameIndex := 29, descriptorIndex := 30, attributes := #[] }, { accessFlags := 24, nameIndex := 116, descriptorIndex := 119, attributes := #[] }])
  fields := #[{ name := "status", type := (.object "com/example/subjectline/subjectline/server/Status"), accessFlags := 18, slot := 0, constantValue := 0 }, { name := "data", type := (.object "java/util/Optional"), accessFlags := 18, slot := 1, constantValue := 0 }, { name := "undeliveredCallbacks", type := .int, accessFlags := 18, slot := 2, constantValue := 0 }, { name := "lastUndeliveredAt", type := (.object "java/util/Optional"), accessFlags := 18, slot := 3, constantValue := 0 }, { name := "callingSince", type := (.object "java/util/Optional"), accessFlags := 18, slot := 4, constantValue := 0 }, { name := "PLAIN", type := (.array (.object "com/example/subjectline/subjectline/server/Progress")), accessFlags := 26, slot := 0, constantValue := 0 }, { name := "RECEIVED", type := (.object "com/example/subjectline/subjectline/server/Progress"), accessFlags := 24, slot := 1, constantValue := 0 }]
  methods := #[k14m0, k14m1, k14m2, k14m3, k14m4, k14m5]
  instanceTypes := #[(.object "com/example/subjectline/subjectline/server/Status"), (.object "java/util/Optional"), .int, (.object "java/util/Optional"), (.object "java/util/Optional")]
  staticTypes := #[(.array (.object "com/example/subjectline/subjectline/server/Progress")), (.object "com/example/subjectline/subjectline/server/Progress")]
  resolved := Array.replicate 193 none
  statics := some 3 }

def pool15 : Array CpInfo := pool [(2, .class_ 4), (1, u "java/lang/CharSequence"), (42, .class_ 48), (0, u "java/lang/CharSequence$1CodePointIterator"), (10, .class_ 60), (0, u "java/lang/CharSequence$1CharIterator"), (5, .class_ 67), (0, u "java/lang/Object")] 63

/-- java/lang/CharSequence -/
def k15 : Class := { plain "java/lang/CharSequence" (some 0) with
  accessFlags := 1537
  interfaces := #[]
  cf := some (fileOf pool15 2 #[.nestMembers #[47, 59]] #[] 1537 66 #[] #[])
  fields := #[]
  methods := #[]
  instanceTypes := #[]
  staticTypes := #[]
  resolved := Array.replicate 131 none
  statics := none }

def pool16 : Array CpInfo := pool [(1, .class_ 2), (0, u "java/lang/constant/ConstantDesc"), (0, .class_ 4), (0, u "java/lang/Object")] 32

/-- java/lang/constant/ConstantDesc -/
def k16 : Class := { plain "java/lang/constant/ConstantDesc" (some 0) with
  accessFlags := 1537
  interfaces := #[]
  cf := some (fileOf pool16 1 #[] #[] 1537 3 #[] #[])
  fields := #[]
  methods := #[]
  instanceTypes := #[]
  staticTypes := #[]
  resolved := Array.replicate 37 none
  statics := none }

def pool17 : Array CpInfo := pool [(1, .methodref 2 3), (0, .class_ 4), (0, .nameAndType 5 6), (0, u "java/lang/Object"), (0, u "<init>"), (0, u "()V"), (2, .fieldref 10 11), (0, .class_ 12), (0, .nameAndType 13 14), (0, u "java/lang/String"), (0, u "value"), (0, u "[B"), (0, .fieldref 10 16), (0, .nameAndType 17 18), (0, u "coder"), (0, u "B"), (2, u "hash"), (0, u "I"), (2, u "hashIsZero"), (0, u "Z"), (11, .fieldref 10 39), (0, .nameAndType 40 26), (0, u "COMPACT_STRINGS"), (12, u "toBytes"), (53, .class_ 109), (1, u "java/lang/StringLatin1"), (99, .methodref 10 210), (0, .nameAndType 5 211), (0, u "([BB)V"), (157, u "(C)Z"), (205, .class_ 576), (0, u "java/lang/CharSequence"), (22, u "CASE_INSENSITIVE_ORDER"), (0, u "Ljava/util/Comparator;"), (181, u "valueOf"), (0, u "(C)Ljava/lang/String;"), (231, .methodref 107 1016), (0, .nameAndType 1017 369), (0, u "canEncode"), (0, .methodref 107 1019), (0, .nameAndType 53 1020), (0, u "(C)[B"), (80, u "serialPersistentFields"), (0, u "[Ljava/io/ObjectStreamField;"), (0, .class_ 1104), (0, u "java/lang/String$CaseInsensitiveComparator"), (1, .class_ 1107), (0, u "java/io/Serializable"), (0, .class_ 1109), (0, u "java/lang/Comparable"), (0, .class_ 1111), (0, u "java/lang/constant/Constable"), (0, .class_ 1113), (0, u "java/lang/constant/ConstantDesc"), (2, u "serialVersionUID"), (0, u "J"), (3, u "REPL"), (0, u "C"), (2, u "LATIN1"), (1, u "UTF16")] 323

def k17m0 : Method := { name := "<init>", desc := "()V", sig := { parameters := [], returnType := none }, accessFlags := 1, code := none }
def k17c1 : Code := { maxStack := 4, maxLocals := 1, code := jdk_42_method_139_code, exceptionTable := #[], attributes := #[] }
def k17m1 : Method := { name := "valueOf", desc := "(C)Ljava/lang/String;", sig := { parameters := [.char], returnType := some (.object "java/lang/String") }, accessFlags := 9, code := some k17c1 }
def k17c2 : Code := { maxStack := 2, maxLocals := 3, code := jdk_42_method_151_code, exceptionTable := #[], attributes := #[] }
def k17m2 : Method := { name := "<init>", desc := "([BB)V", sig := { parameters := [(.array .byte), .byte], returnType := none }, accessFlags := 0, code := some k17c2 }
/-- java/lang/String -/
def k17 : Class := { plain "java/lang/String" (some 0) with
  accessFlags := 49
  interfaces := #[4, 3, 15, 2, 16]
  cf := some (fileOf pool17 10 #[.nestMembers #[1103]] #[{ accessFlags := 1, nameIndex := 5, descriptorIndex := 6, attributes := #[] }, { accessFlags := 9, nameIndex := 782, descriptorIndex := 783, attributes := #[] }, { accessFlags := 0, nameIndex := 5, descriptorIndex := 211, attributes := #[] }] 49 2 #[1106, 1108, 575, 1110, 1112] #[{ accessFlags := 18, nameIndex := 13, descriptorIndex := 14, attributes := #[] }, { accessFlags := 18, nameIndex := 17, descriptorIndex := 18, attributes := #[] }, { accessFlags := 2, nameIndex := 21, descriptorIndex := 22, attributes := #[] }, { accessFlags := 2, nameIndex := 25, descriptorIndex := 26, attributes := #[] }, { accessFlags := 26, nameIndex := 1116, descriptorIndex := 1117, attributes := #[] }, { accessFlags := 24, nameIndex := 40, descriptorIndex := 26, attributes := #[] }, { accessFlags := 26, nameIndex := 1101, descriptorIndex := 1102, attributes := #[] }, { accessFlags := 26, nameIndex := 1121, descriptorIndex := 1122, attributes := #[] }, { accessFlags := 25, nameIndex := 599, descriptorIndex := 600, attributes := #[] }, { accessFlags := 24, nameIndex := 1125, descriptorIndex := 18, attributes := #[] }, { accessFlags := 24, nameIndex := 1127, descriptorIndex := 18, attributes := #[] }])
  fields := #[{ name := "value", type := (.array .byte), accessFlags := 18, slot := 0, constantValue := 0 }, { name := "coder", type := .byte, accessFlags := 18, slot := 1, constantValue := 0 }, { name := "hash", type := .int, accessFlags := 2, slot := 2, constantValue := 0 }, { name := "hashIsZero", type := .boolean, accessFlags := 2, slot := 3, constantValue := 0 }, { name := "serialVersionUID", type := .long, accessFlags := 26, slot := 0, constantValue := 0 }, { name := "COMPACT_STRINGS", type := .boolean, accessFlags := 24, slot := 1, constantValue := 0 }, { name := "serialPersistentFields", type := (.array (.object "java/io/ObjectStreamField")), accessFlags := 26, slot := 2, constantValue := 0 }, { name := "REPL", type := .char, accessFlags := 26, slot := 3, constantValue := 0 }, { name := "CASE_INSENSITIVE_ORDER", type := (.object "java/util/Comparator"), accessFlags := 25, slot := 4, constantValue := 0 }, { name := "LATIN1", type := .byte, accessFlags := 24, slot := 5, constantValue := 0 }, { name := "UTF16", type := .byte, accessFlags := 24, slot := 6, constantValue := 0 }]
  methods := #[k17m0, k17m1, k17m2]
  instanceTypes := #[(.array .byte), .byte, .int, .boolean]
  staticTypes := #[.long, .boolean, (.array (.object "java/io/ObjectStreamField")), .char, (.object "java/util/Comparator"), .byte, .byte]
  resolved := Array.replicate 1451 none
  statics := some 4 }

def pool18 : Array CpInfo := pool [(4, .class_ 6), (1, u "java/lang/Object"), (0, u "<init>"), (0, u "()V"), (5, .class_ 16), (1, u "java/lang/StringLatin1"), (73, u "canEncode"), (14, u "(C)Z"), (15, u "$assertionsDisabled"), (0, u "Z"), (98, .class_ 223), (1, u "java/lang/StringLatin1$LinesSpliterator"), (156, u "toBytes"), (1, u "(C)[B"), (7, .class_ 391), (0, u "java/lang/StringLatin1$CharsSpliterator")] 3

def k18m0 : Method := { name := "<init>", desc := "()V", sig := { parameters := [], returnType := none }, accessFlags := 0, code := none }
def k18c1 : Code := { maxStack := 2, maxLocals := 1, code := jdk_43_method_3_code, exceptionTable := #[], attributes := #[] }
def k18m1 : Method := { name := "canEncode", desc := "(C)Z", sig := { parameters := [.char], returnType := some .boolean }, accessFlags := 9, code := some k18c1 }
def k18c2 : Code := { maxStack := 4, maxLocals := 1, code := jdk_43_method_46_code, exceptionTable := #[], attributes := #[] }
def k18m2 : Method := { name := "toBytes", desc := "(C)[B", sig := { parameters := [.char], returnType := some (.array .byte) }, accessFlags := 9, code := some k18c2 }
/-- java/lang/StringLatin1 -/
def k18 : Class := { plain "java/lang/StringLatin1" (some 0) with
  accessFlags := 48
  interfaces := #[]
  cf := some (fileOf pool18 14 #[.nestMembers #[390, 221]] #[{ accessFlags := 0, nameIndex := 7, descriptorIndex := 8, attributes := #[] }, { accessFlags := 9, nameIndex := 90, descriptorIndex := 105, attributes := #[] }, { accessFlags := 9, nameIndex := 380, descriptorIndex := 382, attributes := #[] }] 48 4 #[] #[{ accessFlags := 4120, nameIndex := 121, descriptorIndex := 122, attributes := #[] }])
  fields := #[{ name := "$assertionsDisabled", type := .boolean, accessFlags := 4120, slot := 0, constantValue := 0 }]
  methods := #[k18m0, k18m1, k18m2]
  instanceTypes := #[]
  staticTypes := #[.boolean]
  resolved := Array.replicate 395 none
  statics := none }

def pool19 : Array CpInfo := pool [(2, .class_ 4), (1, u "java/lang/Object"), (0, u "<init>"), (0, u "()V"), (17, .class_ 26), (1, u "jdk/internal/util/Preconditions"), (28, .class_ 56), (0, u "jdk/internal/util/Preconditions$4"), (57, .class_ 115), (0, u "jdk/internal/util/Preconditions$1"), (7, u "SIOOBE_FORMATTER"), (0, u "Ljava/util/function/BiFunction;"), (0, .class_ 126), (0, u "jdk/internal/util/Preconditions$2"), (3, u "AIOOBE_FORMATTER"), (0, .class_ 132), (0, u "jdk/internal/util/Preconditions$3"), (3, u "IOOBE_FORMATTER")] 57

def k19m0 : Method := { name := "<init>", desc := "()V", sig := { parameters := [], returnType := none }, accessFlags := 1, code := none }
/-- jdk/internal/util/Preconditions -/
def k19 : Class := { plain "jdk/internal/util/Preconditions" (some 0) with
  accessFlags := 33
  interfaces := #[]
  cf := some (fileOf pool19 24 #[.nestMembers #[55, 131, 125, 114]] #[{ accessFlags := 1, nameIndex := 5, descriptorIndex := 6, attributes := #[] }] 33 2 #[] #[{ accessFlags := 25, nameIndex := 123, descriptorIndex := 124, attributes := #[] }, { accessFlags := 25, nameIndex := 130, descriptorIndex := 124, attributes := #[] }, { accessFlags := 25, nameIndex := 136, descriptorIndex := 124, attributes := #[] }])
  fields := #[{ name := "SIOOBE_FORMATTER", type := (.object "java/util/function/BiFunction"), accessFlags := 25, slot := 0, constantValue := 0 }, { name := "AIOOBE_FORMATTER", type := (.object "java/util/function/BiFunction"), accessFlags := 25, slot := 1, constantValue := 0 }, { name := "IOOBE_FORMATTER", type := (.object "java/util/function/BiFunction"), accessFlags := 25, slot := 2, constantValue := 0 }]
  methods := #[k19m0]
  instanceTypes := #[]
  staticTypes := #[(.object "java/util/function/BiFunction"), (.object "java/util/function/BiFunction"), (.object "java/util/function/BiFunction")]
  resolved := Array.replicate 194 none
  statics := some 5 }

def pool20 : Array CpInfo := pool [(9, u "<init>"), (6, .class_ 18), (1, u "java/lang/Object"), (0, u "()V"), (1, .class_ 23), (1, u "jdk/internal/util/ArraysSupport"), (0, u "LOG2_ARRAY_LONG_INDEX_SCALE"), (0, u "I"), (2, u "U"), (0, u "Ljdk/internal/misc/Unsafe;"), (8, u "BIG_ENDIAN"), (0, u "Z"), (8, u "LOG2_BYTE_BIT_SIZE"), (4, u "LOG2_ARRAY_INT_INDEX_SCALE"), (54, u "JLA"), (0, u "Ljdk/internal/access/JavaLangAccess;"), (11, u "LOG2_ARRAY_BOOLEAN_INDEX_SCALE"), (9, u "LOG2_ARRAY_BYTE_INDEX_SCALE"), (5, u "LOG2_ARRAY_CHAR_INDEX_SCALE"), (5, u "LOG2_ARRAY_SHORT_INDEX_SCALE"), (18, u "LOG2_ARRAY_FLOAT_INDEX_SCALE"), (24, u "LOG2_ARRAY_DOUBLE_INDEX_SCALE"), (89, u "T_BOOLEAN"), (2, u "T_CHAR"), (1, u "T_FLOAT"), (1, u "T_DOUBLE"), (1, u "T_BYTE"), (1, u "T_SHORT"), (1, u "T_INT"), (1, u "T_LONG"), (1, u "SOFT_MAX_ARRAY_LENGTH")] 83

def k20m0 : Method := { name := "<init>", desc := "()V", sig := { parameters := [], returnType := none }, accessFlags := 2, code := none }
/-- jdk/internal/util/ArraysSupport -/
def k20 : Class := { plain "jdk/internal/util/ArraysSupport" (some 0) with
  accessFlags := 33
  interfaces := #[]
  cf := some (fileOf pool20 21 #[] #[{ accessFlags := 2, nameIndex := 9, descriptorIndex := 19, attributes := #[] }] 33 16 #[] #[{ accessFlags := 24, nameIndex := 28, descriptorIndex := 29, attributes := #[] }, { accessFlags := 26, nameIndex := 38, descriptorIndex := 39, attributes := #[] }, { accessFlags := 25, nameIndex := 121, descriptorIndex := 25, attributes := #[] }, { accessFlags := 25, nameIndex := 131, descriptorIndex := 25, attributes := #[] }, { accessFlags := 25, nameIndex := 137, descriptorIndex := 25, attributes := #[] }, { accessFlags := 25, nameIndex := 143, descriptorIndex := 25, attributes := #[] }, { accessFlags := 25, nameIndex := 53, descriptorIndex := 25, attributes := #[] }, { accessFlags := 25, nameIndex := 24, descriptorIndex := 25, attributes := #[] }, { accessFlags := 25, nameIndex := 162, descriptorIndex := 25, attributes := #[] }, { accessFlags := 25, nameIndex := 187, descriptorIndex := 25, attributes := #[] }, { accessFlags := 26, nameIndex := 48, descriptorIndex := 25, attributes := #[] }, { accessFlags := 25, nameIndex := 277, descriptorIndex := 25, attributes := #[] }, { accessFlags := 25, nameIndex := 280, descriptorIndex := 25, attributes := #[] }, { accessFlags := 25, nameIndex := 282, descriptorIndex := 25, attributes := #[] }, { accessFlags := 25, nameIndex := 284, descriptorIndex := 25, attributes := #[] }, { accessFlags := 25, nameIndex := 286, descriptorIndex := 25, attributes := #[] }, { accessFlags := 25, nameIndex := 288, descriptorIndex := 25, attributes := #[] }, { accessFlags := 25, nameIndex := 290, descriptorIndex := 25, attributes := #[] }, { accessFlags := 25, nameIndex := 292, descriptorIndex := 25, attributes := #[] }, { accessFlags := 26, nameIndex := 108, descriptorIndex := 109, attributes := #[] }, { accessFlags := 25, nameIndex := 294, descriptorIndex := 25, attributes := #[] }])
  fields := #[{ name := "U", type := (.object "jdk/internal/misc/Unsafe"), accessFlags := 24, slot := 0, constantValue := 0 }, { name := "BIG_ENDIAN", type := .boolean, accessFlags := 26, slot := 1, constantValue := 0 }, { name := "LOG2_ARRAY_BOOLEAN_INDEX_SCALE", type := .int, accessFlags := 25, slot := 2, constantValue := 0 }, { name := "LOG2_ARRAY_BYTE_INDEX_SCALE", type := .int, accessFlags := 25, slot := 3, constantValue := 0 }, { name := "LOG2_ARRAY_CHAR_INDEX_SCALE", type := .int, accessFlags := 25, slot := 4, constantValue := 0 }, { name := "LOG2_ARRAY_SHORT_INDEX_SCALE", type := .int, accessFlags := 25, slot := 5, constantValue := 0 }, { name := "LOG2_ARRAY_INT_INDEX_SCALE", type := .int, accessFlags := 25, slot := 6, constantValue := 0 }, { name := "LOG2_ARRAY_LONG_INDEX_SCALE", type := .int, accessFlags := 25, slot := 7, constantValue := 0 }, { name := "LOG2_ARRAY_FLOAT_INDEX_SCALE", type := .int, accessFlags := 25, slot := 8, constantValue := 0 }, { name := "LOG2_ARRAY_DOUBLE_INDEX_SCALE", type := .int, accessFlags := 25, slot := 9, constantValue := 0 }, { name := "LOG2_BYTE_BIT_SIZE", type := .int, accessFlags := 26, slot := 10, constantValue := 0 }, { name := "T_BOOLEAN", type := .int, accessFlags := 25, slot := 11, constantValue := 0 }, { name := "T_CHAR", type := .int, accessFlags := 25, slot := 12, constantValue := 0 }, { name := "T_FLOAT", type := .int, accessFlags := 25, slot := 13, constantValue := 0 }, { name := "T_DOUBLE", type := .int, accessFlags := 25, slot := 14, constantValue := 0 }, { name := "T_BYTE", type := .int, accessFlags := 25, slot := 15, constantValue := 0 }, { name := "T_SHORT", type := .int, accessFlags := 25, slot := 16, constantValue := 0 }, { name := "T_INT", type := .int, accessFlags := 25, slot := 17, constantValue := 0 }, { name := "T_LONG", type := .int, accessFlags := 25, slot := 18, constantValue := 0 }, { name := "JLA", type := (.object "jdk/internal/access/JavaLangAccess"), accessFlags := 26, slot := 19, constantValue := 0 }, { name := "SOFT_MAX_ARRAY_LENGTH", type := .int, accessFlags := 25, slot := 20, constantValue := 0 }]
  methods := #[k20m0]
  instanceTypes := #[]
  staticTypes := #[(.object "jdk/internal/misc/Unsafe"), .boolean, .int, .int, .int, .int, .int, .int, .int, .int, .int, .int, .int, .int, .int, .int, .int, .int, .int, (.object "jdk/internal/access/JavaLangAccess"), .int]
  resolved := Array.replicate 378 none
  statics := none }

def pool21 : Array CpInfo := pool [(1, u "java/lang/Cloneable"), (0, .class_ 1), (0, u "java/lang/Object"), (0, .class_ 3)] 3

/-- java/lang/Cloneable -/
def k21 : Class := { plain "java/lang/Cloneable" (some 0) with
  accessFlags := 1537
  interfaces := #[]
  cf := some (fileOf pool21 2 #[] #[] 1537 4 #[] #[])
  fields := #[]
  methods := #[]
  instanceTypes := #[]
  staticTypes := #[]
  resolved := Array.replicate 8 none
  statics := none }

/-- the primitive byte -/
def k22 : Class := { plain "byte" none with kind := .primitive 'B', accessFlags := 0x411 }
/-- [B -/
def k23 : Class := { plain "[B" (some 0) with kind := .array 22 .byte, interfaces := #[21, 4], accessFlags := 1041 }

/-- the primitive int -/
def k24 : Class := { plain "int" none with kind := .primitive 'I', accessFlags := 0x411 }
/-- [I -/
def k25 : Class := { plain "[I" (some 0) with kind := .array 24 .int, interfaces := #[21, 4], accessFlags := 1041 }

/-- [Lcom/example/subjectline/subjectline/server/Progress; -/
def k26 : Class := { plain "[Lcom/example/subjectline/subjectline/server/Progress;" (some 0) with kind := .array 14 (.object "com/example/subjectline/subjectline/server/Progress"), interfaces := #[21, 4], accessFlags := 1041 }

def heap : Heap := #[{ cls := 6, slots := #[.ref 13, .ref 14, .ref 15, .ref 16, .ref 17, .null, .null, .null, .null], vm := .statics 6 },
  { cls := 7, slots := #[.ref 7], vm := .statics 7 },
  { cls := 11, slots := #[.ref 18, .long 0, .long 0, .null, .null, .long 0], vm := .statics 11 },
  { cls := 14, slots := #[.ref 6, .null], vm := .statics 14 },
  { cls := 17, slots := #[.long 0, .int 1, .null, .int 0, .null, .int 0, .int 0], vm := .statics 17 },
  { cls := 19, slots := #[.null, .null, .null], vm := .statics 19 },
  { cls := 26, slots := #[.ref 8, .ref 9, .ref 10, .ref 11, .ref 12], vm := .none },
  { cls := 7, slots := #[.null], vm := .none },
  { cls := 14, slots := #[.null, .null, .int 0, .null, .ref 7], vm := .none },
  { cls := 14, slots := #[.null, .null, .int 0, .null, .ref 7], vm := .none },
  { cls := 14, slots := #[.null, .null, .int 0, .null, .ref 7], vm := .none },
  { cls := 14, slots := #[.null, .null, .int 0, .null, .ref 7], vm := .none },
  { cls := 14, slots := #[.null, .null, .int 0, .null, .ref 7], vm := .none },
  { cls := 6, slots := #[.null, .int 0, .int 0, .null, .null], vm := .none },
  { cls := 6, slots := #[.null, .int 1, .int 0, .null, .null], vm := .none },
  { cls := 6, slots := #[.null, .int 2, .int 0, .null, .null], vm := .none },
  { cls := 6, slots := #[.null, .int 3, .int 0, .null, .null], vm := .none },
  { cls := 6, slots := #[.null, .int 4, .int 0, .null, .null], vm := .none },
  { cls := 11, slots := #[.long 0, .int 0], vm := .none }]
def classes : Array Class := #[k0, k1, k2, k3, k4, k5, k6, k7, k8, k9, k10, k11, k12, k13, k14, k15, k16, k17, k18, k19, k20, k21, k22, k23, k24, k25, k26]
def interned : List (Array UInt16 × Addr) := []
def slotsUsed : Nat := 86
def theMethod : MethodId := ⟨1, 2⟩
def args0 : Array Value := #[.int 0, .int 5, .int 7, .long 5]
def aboutOver (below : List Frame) : State where
  vm := { classes := classes, interned := interned.toArray }
  heap := heap
  slotsUsed := slotsUsed
  threads := #[{ frames := .invoking theMethod args0 :: below }]
def below0 : List Frame := [.native { method := ⟨0, 0⟩, args := #[] }]
def about1 : State := aboutOver below0
def p0 : Program := .bare "" "" ""
def e0 : Env := launch0.env 0 0 0
theorem w_frames : about1.frames = Frame.invoking theMethod args0 :: below0 := rfl
set_option maxRecDepth 65536 in
theorem w_args : argsFit about1.vm theMethod args0 = true := by decide +kernel
set_option maxRecDepth 65536 in
theorem w_heap : heapFits about1 = true := by decide +kernel
set_option maxRecDepth 65536 in
theorem w_runnable : about1.curStatus? = some .runnable := by decide +kernel
set_option maxRecDepth 65536 in
theorem w_alone : about1.alone = true := by decide +kernel
set_option maxRecDepth 65536 in
theorem w_named : about1.methodNamed? x = some theMethod := by decide +kernel
set_option maxRecDepth 65536 in
theorem w_hears : about1.hears theMethod below0 = true := by decide +kernel
set_option maxRecDepth 65536 in
theorem w_ripe : about1.ripe theMethod args0 below0 = true := by decide +kernel
theorem w_running : about1.status = .running := rfl
set_option maxRecDepth 65536 in
theorem w_room : about1.hasRoom e0.platform room_1 = true :=
  launch0.hasRoom_least _ room_1 (by decide +kernel) (by decide +kernel) (by decide +kernel) (by decide +kernel) (by decide +kernel) (by decide +kernel)
theorem allAtoms_all (ts : List Jvm.Cond) (a : Array Jvm.Value) (st : Jvm.State) : (allAtoms ts).before a st = ts.all (fun c => c.before a st) := by
  induction ts with
  | nil => rfl
  | cons c t ih =>
    show (Jvm.Cond.and c (allAtoms t)).before a st = _
    rw [Jvm.Cond.before_and, ih, List.all_cons]
def words1 : List Jvm.Cond := Jvm.Cond.code x code maxLocals ret :: tables_1
/-- a 'code' word, met by the world's own term for the bytes: nothing is compared byte by byte -/
theorem code_word {y : MethodName} {bytes : ByteArray} {mx : Nat} {rt : Option FieldType} {a : Array Value} {s : State} {m : MethodId} {meth : Method} {c : Code} (h1 : s.methodNamed? y = some m) (h2 : s.vm.method? m = some meth) (h3 : meth.code = some c) (h4 : c.code = bytes)
    (h5 : (c.maxLocals == mx && c.exceptionTable.isEmpty && decide (c.maxStack ≤ mostOperands) && decide (meth.sig.returnType = rt) && !meth.locks && decide (parseMethodDescriptor y.desc = some meth.sig)) = true) : (Jvm.Cond.code y bytes mx rt).before a s = true := by
  simp only [Bool.and_eq_true, beq_iff_eq, Bool.not_eq_true', decide_eq_true_eq] at h5
  obtain ⟨⟨⟨⟨⟨g1, g2⟩, g3⟩, g4⟩, g5⟩, g6⟩ := h5
  simp [Cond.before, Cond.holds, Cond.value, h1, h2, h3, h4, g1, g2, g3, g4, g5, g6]
def isCode : Jvm.Cond → Bool
  | .code _ _ _ _ => true
  | _ => false
theorem all_split {L : List Jvm.Cond} {P : Jvm.Cond → Bool} (h1 : L.all (fun c => isCode c || P c) = true) (h2 : ∀ c ∈ L.filter isCode, P c = true) : L.all P = true := by
  refine List.all_eq_true.mpr fun c hc => ?_
  have h := List.all_eq_true.mp h1 c hc
  rcases Bool.eq_false_or_eq_true (isCode c) with hi | hi
  · exact h2 c (List.mem_filter.mpr ⟨hc, hi⟩)
  · simpa [hi] using h
set_option maxRecDepth 65536 in
theorem w_c0 : (Jvm.Cond.code x code maxLocals ret).before args0 about1 = true := code_word (m := ⟨1, 2⟩) (meth := k1m2) (c := k1c2) (by decide +kernel) rfl rfl rfl (by decide +kernel)
set_option maxRecDepth 65536 in
theorem w_c1 : (Jvm.Cond.code ({ cls := "com/example/subjectline/subjectline/server/ProgressCallbacksSentPinLaw", name := "status", desc := "(I)Lcom/example/subjectline/subjectline/server/Status;" } : Jvm.MethodName) method_2_code (2 : Nat) (Option.some (Jvm.ClassFile.FieldType.object "com/example/subjectline/subjectline/server/Status"))).before args0 about1 = true := code_word (m := ⟨1, 1⟩) (meth := k1m1) (c := k1c1) (by decide +kernel) rfl rfl rfl (by decide +kernel)
set_option maxRecDepth 65536 in
theorem w_c2 : (Jvm.Cond.code ({ cls := "java/util/Optional", name := "empty", desc := "()Ljava/util/Optional;" } : Jvm.MethodName) jdk_32_method_1_code (1 : Nat) (Option.some (Jvm.ClassFile.FieldType.object "java/util/Optional"))).before args0 about1 = true := code_word (m := ⟨7, 0⟩) (meth := k7m0) (c := k7c0) (by decide +kernel) rfl rfl rfl (by decide +kernel)
set_option maxRecDepth 65536 in
theorem w_c3 : (Jvm.Cond.code ({ cls := "java/time/Instant", name := "ofEpochSecond", desc := "(J)Ljava/time/Instant;" } : Jvm.MethodName) jdk_2320_method_3_code (2 : Nat) (Option.some (Jvm.ClassFile.FieldType.object "java/time/Instant"))).before args0 about1 = true := code_word (m := ⟨11, 0⟩) (meth := k11m0) (c := k11c0) (by decide +kernel) rfl rfl rfl (by decide +kernel)
set_option maxRecDepth 65536 in
theorem w_c4 : (Jvm.Cond.code ({ cls := "java/time/Instant", name := "create", desc := "(JI)Ljava/time/Instant;" } : Jvm.MethodName) jdk_2320_method_8_code (3 : Nat) (Option.some (Jvm.ClassFile.FieldType.object "java/time/Instant"))).before args0 about1 = true := code_word (m := ⟨11, 1⟩) (meth := k11m1) (c := k11c1) (by decide +kernel) rfl rfl rfl (by decide +kernel)
set_option maxRecDepth 65536 in
theorem w_c5 : (Jvm.Cond.code ({ cls := "java/time/Instant", name := "<init>", desc := "(JI)V" } : Jvm.MethodName) jdk_2320_method_9_code (4 : Nat) (Option.none : Option Jvm.ClassFile.FieldType)).before args0 about1 = true := code_word (m := ⟨11, 2⟩) (meth := k11m2) (c := k11c2) (by decide +kernel) rfl rfl rfl (by decide +kernel)
set_option maxRecDepth 65536 in
theorem w_c6 : (Jvm.Cond.code ({ cls := "java/lang/Object", name := "<init>", desc := "()V" } : Jvm.MethodName) object_method_1_code (1 : Nat) (Option.none : Option Jvm.ClassFile.FieldType)).before args0 about1 = true := code_word (m := ⟨0, 0⟩) (meth := k0m0) (c := k0c0) (by decide +kernel) rfl rfl rfl (by decide +kernel)
set_option maxRecDepth 65536 in
theorem w_c7 : (Jvm.Cond.code ({ cls := "java/util/Optional", name := "of", desc := "(Ljava/lang/Object;)Ljava/util/Optional;" } : Jvm.MethodName) jdk_32_method_3_code (1 : Nat) (Option.some (Jvm.ClassFile.FieldType.object "java/util/Optional"))).before args0 about1 = true := code_word (m := ⟨7, 2⟩) (meth := k7m2) (c := k7c2) (by decide +kernel) rfl rfl rfl (by decide +kernel)
set_option maxRecDepth 65536 in
theorem w_c8 : (Jvm.Cond.code ({ cls := "java/util/Objects", name := "requireNonNull", desc := "(Ljava/lang/Object;)Ljava/lang/Object;" } : Jvm.MethodName) jdk_31_method_10_code (1 : Nat) (Option.some (Jvm.ClassFile.FieldType.object "java/lang/Object"))).before args0 about1 = true := code_word (m := ⟨12, 1⟩) (meth := k12m1) (c := k12c1) (by decide +kernel) rfl rfl rfl (by decide +kernel)
set_option maxRecDepth 65536 in
theorem w_c9 : (Jvm.Cond.code ({ cls := "java/util/Optional", name := "<init>", desc := "(Ljava/lang/Object;)V" } : Jvm.MethodName) jdk_32_method_2_code (2 : Nat) (Option.none : Option Jvm.ClassFile.FieldType)).before args0 about1 = true := code_word (m := ⟨7, 1⟩) (meth := k7m1) (c := k7c1) (by decide +kernel) rfl rfl rfl (by decide +kernel)
set_option maxRecDepth 65536 in
theorem w_c10 : (Jvm.Cond.code ({ cls := "com/example/subjectline/subjectline/server/Progress", name := "<init>", desc := "(Lcom/example/subjectline/subjectline/server/Status;Ljava/util/Optional;ILjava/util/Optional;Ljava/util/Optional;)V" } : Jvm.MethodName) prog_50_method_1_code (6 : Nat) (Option.none : Option Jvm.ClassFile.FieldType)).before args0 about1 = true := code_word (m := ⟨14, 0⟩) (meth := k14m0) (c := k14c0) (by decide +kernel) rfl rfl rfl (by decide +kernel)
set_option maxRecDepth 65536 in
theorem w_c11 : (Jvm.Cond.code ({ cls := "java/lang/Record", name := "<init>", desc := "()V" } : Jvm.MethodName) jdk_30_method_1_code (1 : Nat) (Option.none : Option Jvm.ClassFile.FieldType)).before args0 about1 = true := code_word (m := ⟨13, 0⟩) (meth := k13m0) (c := k13c0) (by decide +kernel) rfl rfl rfl (by decide +kernel)
set_option maxRecDepth 65536 in
theorem w_c12 : (Jvm.Cond.code ({ cls := "com/example/subjectline/subjectline/server/Progress", name := "callbacksSent", desc := "()I" } : Jvm.MethodName) prog_50_method_7_code (1 : Nat) (Option.some Jvm.ClassFile.FieldType.int)).before args0 about1 = true := code_word (m := ⟨14, 4⟩) (meth := k14m4) (c := k14c4) (by decide +kernel) rfl rfl rfl (by decide +kernel)
set_option maxRecDepth 65536 in
theorem w_c13 : (Jvm.Cond.code ({ cls := "java/util/Optional", name := "isPresent", desc := "()Z" } : Jvm.MethodName) jdk_32_method_6_code (1 : Nat) (Option.some Jvm.ClassFile.FieldType.boolean)).before args0 about1 = true := code_word (m := ⟨7, 3⟩) (meth := k7m3) (c := k7c3) (by decide +kernel) rfl rfl rfl (by decide +kernel)
set_option maxRecDepth 65536 in
theorem w_c14 : (Jvm.Cond.code ({ cls := "com/example/subjectline/subjectline/server/Progress", name := "calling", desc := "(Ljava/util/Optional;)Lcom/example/subjectline/subjectline/server/Progress;" } : Jvm.MethodName) prog_50_method_5_code (2 : Nat) (Option.some (Jvm.ClassFile.FieldType.object "com/example/subjectline/subjectline/server/Progress"))).before args0 about1 = true := code_word (m := ⟨14, 2⟩) (meth := k14m2) (c := k14c2) (by decide +kernel) rfl rfl rfl (by decide +kernel)
set_option maxRecDepth 65536 in
theorem w_c15 : (Jvm.Cond.code ({ cls := "com/example/subjectline/subjectline/server/Progress", name := "of", desc := "(Lcom/example/subjectline/subjectline/server/Status;Ljava/util/Optional;ILjava/util/Optional;Ljava/util/Optional;)Lcom/example/subjectline/subjectline/server/Progress;" } : Jvm.MethodName) prog_50_method_9_code (5 : Nat) (Option.some (Jvm.ClassFile.FieldType.object "com/example/subjectline/subjectline/server/Progress"))).before args0 about1 = true := code_word (m := ⟨14, 5⟩) (meth := k14m5) (c := k14c5) (by decide +kernel) rfl rfl rfl (by decide +kernel)
set_option maxRecDepth 65536 in
theorem w_c16 : (Jvm.Cond.code ({ cls := "java/util/Optional", name := "isEmpty", desc := "()Z" } : Jvm.MethodName) jdk_32_method_7_code (1 : Nat) (Option.some Jvm.ClassFile.FieldType.boolean)).before args0 about1 = true := code_word (m := ⟨7, 4⟩) (meth := k7m4) (c := k7c4) (by decide +kernel) rfl rfl rfl (by decide +kernel)
set_option maxRecDepth 65536 in
theorem w_c17 : (Jvm.Cond.code ({ cls := "com/example/subjectline/subjectline/server/Progress", name := "undelivered", desc := "(Ljava/util/Optional;)Lcom/example/subjectline/subjectline/server/Progress;" } : Jvm.MethodName) prog_50_method_6_code (2 : Nat) (Option.some (Jvm.ClassFile.FieldType.object "com/example/subjectline/subjectline/server/Progress"))).before args0 about1 = true := code_word (m := ⟨14, 3⟩) (meth := k14m3) (c := k14c3) (by decide +kernel) rfl rfl rfl (by decide +kernel)
set_option maxRecDepth 65536 in
theorem w_c18 : (Jvm.Cond.code ({ cls := "java/lang/String", name := "valueOf", desc := "(C)Ljava/lang/String;" } : Jvm.MethodName) jdk_42_method_139_code (1 : Nat) (Option.some (Jvm.ClassFile.FieldType.object "java/lang/String"))).before args0 about1 = true := code_word (m := ⟨17, 1⟩) (meth := k17m1) (c := k17c1) (by decide +kernel) rfl rfl rfl (by decide +kernel)
set_option maxRecDepth 65536 in
theorem w_c19 : (Jvm.Cond.code ({ cls := "java/lang/StringLatin1", name := "canEncode", desc := "(C)Z" } : Jvm.MethodName) jdk_43_method_3_code (1 : Nat) (Option.some Jvm.ClassFile.FieldType.boolean)).before args0 about1 = true := code_word (m := ⟨18, 1⟩) (meth := k18m1) (c := k18c1) (by decide +kernel) rfl rfl rfl (by decide +kernel)
set_option maxRecDepth 65536 in
theorem w_c20 : (Jvm.Cond.code ({ cls := "java/lang/StringLatin1", name := "toBytes", desc := "(C)[B" } : Jvm.MethodName) jdk_43_method_46_code (1 : Nat) (Option.some (Jvm.ClassFile.FieldType.array Jvm.ClassFile.FieldType.byte))).before args0 about1 = true := code_word (m := ⟨18, 2⟩) (meth := k18m2) (c := k18c2) (by decide +kernel) rfl rfl rfl (by decide +kernel)
set_option maxRecDepth 65536 in
theorem w_c21 : (Jvm.Cond.code ({ cls := "java/lang/String", name := "<init>", desc := "([BB)V" } : Jvm.MethodName) jdk_42_method_151_code (3 : Nat) (Option.none : Option Jvm.ClassFile.FieldType)).before args0 about1 = true := code_word (m := ⟨17, 2⟩) (meth := k17m2) (c := k17c2) (by decide +kernel) rfl rfl rfl (by decide +kernel)
set_option maxRecDepth 65536 in
theorem w_c22 : (Jvm.Cond.code ({ cls := "com/example/subjectline/subjectline/server/Progress", name := "plain", desc := "(Lcom/example/subjectline/subjectline/server/Status;)Lcom/example/subjectline/subjectline/server/Progress;" } : Jvm.MethodName) prog_50_method_2_code (1 : Nat) (Option.some (Jvm.ClassFile.FieldType.object "com/example/subjectline/subjectline/server/Progress"))).before args0 about1 = true := code_word (m := ⟨14, 1⟩) (meth := k14m1) (c := k14c1) (by decide +kernel) rfl rfl rfl (by decide +kernel)
set_option maxRecDepth 65536 in
theorem w_c23 : (Jvm.Cond.code ({ cls := "java/lang/Enum", name := "ordinal", desc := "()I" } : Jvm.MethodName) jdk_37_method_2_code (1 : Nat) (Option.some Jvm.ClassFile.FieldType.int)).before args0 about1 = true := code_word (m := ⟨5, 0⟩) (meth := k5m0) (c := k5c0) (by decide +kernel) rfl rfl rfl (by decide +kernel)
def codes1 : List Jvm.Cond := [Jvm.Cond.code x code maxLocals ret, Jvm.Cond.code ({ cls := "com/example/subjectline/subjectline/server/ProgressCallbacksSentPinLaw", name := "status", desc := "(I)Lcom/example/subjectline/subjectline/server/Status;" } : Jvm.MethodName) method_2_code (2 : Nat) (Option.some (Jvm.ClassFile.FieldType.object "com/example/subjectline/subjectline/server/Status")), Jvm.Cond.code ({ cls := "java/util/Optional", name := "empty", desc := "()Ljava/util/Optional;" } : Jvm.MethodName) jdk_32_method_1_code (1 : Nat) (Option.some (Jvm.ClassFile.FieldType.object "java/util/Optional")), Jvm.Cond.code ({ cls := "java/time/Instant", name := "ofEpochSecond", desc := "(J)Ljava/time/Instant;" } : Jvm.MethodName) jdk_2320_method_3_code (2 : Nat) (Option.some (Jvm.ClassFile.FieldType.object "java/time/Instant")), Jvm.Cond.code ({ cls := "java/time/Instant", name := "create", desc := "(JI)Ljava/time/Instant;" } : Jvm.MethodName) jdk_2320_method_8_code (3 : Nat) (Option.some (Jvm.ClassFile.FieldType.object "java/time/Instant")), Jvm.Cond.code ({ cls := "java/time/Instant", name := "<init>", desc := "(JI)V" } : Jvm.MethodName) jdk_2320_method_9_code (4 : Nat) (Option.none : Option Jvm.ClassFile.FieldType), Jvm.Cond.code ({ cls := "java/lang/Object", name := "<init>", desc := "()V" } : Jvm.MethodName) object_method_1_code (1 : Nat) (Option.none : Option Jvm.ClassFile.FieldType), Jvm.Cond.code ({ cls := "java/util/Optional", name := "of", desc := "(Ljava/lang/Object;)Ljava/util/Optional;" } : Jvm.MethodName) jdk_32_method_3_code (1 : Nat) (Option.some (Jvm.ClassFile.FieldType.object "java/util/Optional")), Jvm.Cond.code ({ cls := "java/util/Objects", name := "requireNonNull", desc := "(Ljava/lang/Object;)Ljava/lang/Object;" } : Jvm.MethodName) jdk_31_method_10_code (1 : Nat) (Option.some (Jvm.ClassFile.FieldType.object "java/lang/Object")), Jvm.Cond.code ({ cls := "java/util/Optional", name := "<init>", desc := "(Ljava/lang/Object;)V" } : Jvm.MethodName) jdk_32_method_2_code (2 : Nat) (Option.none : Option Jvm.ClassFile.FieldType), Jvm.Cond.code ({ cls := "com/example/subjectline/subjectline/server/Progress", name := "<init>", desc := "(Lcom/example/subjectline/subjectline/server/Status;Ljava/util/Optional;ILjava/util/Optional;Ljava/util/Optional;)V" } : Jvm.MethodName) prog_50_method_1_code (6 : Nat) (Option.none : Option Jvm.ClassFile.FieldType), Jvm.Cond.code ({ cls := "java/lang/Record", name := "<init>", desc := "()V" } : Jvm.MethodName) jdk_30_method_1_code (1 : Nat) (Option.none : Option Jvm.ClassFile.FieldType), Jvm.Cond.code ({ cls := "com/example/subjectline/subjectline/server/Progress", name := "callbacksSent", desc := "()I" } : Jvm.MethodName) prog_50_method_7_code (1 : Nat) (Option.some Jvm.ClassFile.FieldType.int), Jvm.Cond.code ({ cls := "java/util/Optional", name := "isPresent", desc := "()Z" } : Jvm.MethodName) jdk_32_method_6_code (1 : Nat) (Option.some Jvm.ClassFile.FieldType.boolean), Jvm.Cond.code ({ cls := "com/example/subjectline/subjectline/server/Progress", name := "calling", desc := "(Ljava/util/Optional;)Lcom/example/subjectline/subjectline/server/Progress;" } : Jvm.MethodName) prog_50_method_5_code (2 : Nat) (Option.some (Jvm.ClassFile.FieldType.object "com/example/subjectline/subjectline/server/Progress")), Jvm.Cond.code ({ cls := "com/example/subjectline/subjectline/server/Progress", name := "of", desc := "(Lcom/example/subjectline/subjectline/server/Status;Ljava/util/Optional;ILjava/util/Optional;Ljava/util/Optional;)Lcom/example/subjectline/subjectline/server/Progress;" } : Jvm.MethodName) prog_50_method_9_code (5 : Nat) (Option.some (Jvm.ClassFile.FieldType.object "com/example/subjectline/subjectline/server/Progress")), Jvm.Cond.code ({ cls := "java/util/Optional", name := "isEmpty", desc := "()Z" } : Jvm.MethodName) jdk_32_method_7_code (1 : Nat) (Option.some Jvm.ClassFile.FieldType.boolean), Jvm.Cond.code ({ cls := "com/example/subjectline/subjectline/server/Progress", name := "undelivered", desc := "(Ljava/util/Optional;)Lcom/example/subjectline/subjectline/server/Progress;" } : Jvm.MethodName) prog_50_method_6_code (2 : Nat) (Option.some (Jvm.ClassFile.FieldType.object "com/example/subjectline/subjectline/server/Progress")), Jvm.Cond.code ({ cls := "java/lang/String", name := "valueOf", desc := "(C)Ljava/lang/String;" } : Jvm.MethodName) jdk_42_method_139_code (1 : Nat) (Option.some (Jvm.ClassFile.FieldType.object "java/lang/String")), Jvm.Cond.code ({ cls := "java/lang/StringLatin1", name := "canEncode", desc := "(C)Z" } : Jvm.MethodName) jdk_43_method_3_code (1 : Nat) (Option.some Jvm.ClassFile.FieldType.boolean), Jvm.Cond.code ({ cls := "java/lang/StringLatin1", name := "toBytes", desc := "(C)[B" } : Jvm.MethodName) jdk_43_method_46_code (1 : Nat) (Option.some (Jvm.ClassFile.FieldType.array Jvm.ClassFile.FieldType.byte)), Jvm.Cond.code ({ cls := "java/lang/String", name := "<init>", desc := "([BB)V" } : Jvm.MethodName) jdk_42_method_151_code (3 : Nat) (Option.none : Option Jvm.ClassFile.FieldType), Jvm.Cond.code ({ cls := "com/example/subjectline/subjectline/server/Progress", name := "plain", desc := "(Lcom/example/subjectline/subjectline/server/Status;)Lcom/example/subjectline/subjectline/server/Progress;" } : Jvm.MethodName) prog_50_method_2_code (1 : Nat) (Option.some (Jvm.ClassFile.FieldType.object "com/example/subjectline/subjectline/server/Progress")), Jvm.Cond.code ({ cls := "java/lang/Enum", name := "ordinal", desc := "()I" } : Jvm.MethodName) jdk_37_method_2_code (1 : Nat) (Option.some Jvm.ClassFile.FieldType.int)]
set_option maxRecDepth 65536 in
theorem codes_eq : words1.filter isCode = codes1 := rfl
theorem w_codes : ∀ c ∈ words1.filter isCode, c.before args0 about1 = true := by
  rw [codes_eq]
  intro c hc
  simp only [codes1, List.mem_cons, List.not_mem_nil, or_false] at hc
  rcases hc with rfl | rfl | rfl | rfl | rfl | rfl | rfl | rfl | rfl | rfl | rfl | rfl | rfl | rfl | rfl | rfl | rfl | rfl | rfl | rfl | rfl | rfl | rfl | rfl
  · exact w_c0
  · exact w_c1
  · exact w_c2
  · exact w_c3
  · exact w_c4
  · exact w_c5
  · exact w_c6
  · exact w_c7
  · exact w_c8
  · exact w_c9
  · exact w_c10
  · exact w_c11
  · exact w_c12
  · exact w_c13
  · exact w_c14
  · exact w_c15
  · exact w_c16
  · exact w_c17
  · exact w_c18
  · exact w_c19
  · exact w_c20
  · exact w_c21
  · exact w_c22
  · exact w_c23
set_option maxRecDepth 65536 in
theorem w_t1 : (words1.take 24).all (fun c => isCode c || c.before args0 about1) = true := by decide +kernel
set_option maxRecDepth 65536 in
theorem w_t2 : ((words1.drop 24).take 24).all (fun c => isCode c || c.before args0 about1) = true := by decide +kernel
set_option maxRecDepth 65536 in
theorem w_t3 : (((words1.drop 24).drop 24).take 24).all (fun c => isCode c || c.before args0 about1) = true := by decide +kernel
set_option maxRecDepth 65536 in
theorem w_t4 : ((((words1.drop 24).drop 24).drop 24).take 24).all (fun c => isCode c || c.before args0 about1) = true := by decide +kernel
set_option maxRecDepth 65536 in
theorem w_t5 : (((((words1.drop 24).drop 24).drop 24).drop 24).take 24).all (fun c => isCode c || c.before args0 about1) = true := by decide +kernel
set_option maxRecDepth 65536 in
theorem w_t6 : ((((((words1.drop 24).drop 24).drop 24).drop 24).drop 24).take 24).all (fun c => isCode c || c.before args0 about1) = true := by decide +kernel
set_option maxRecDepth 65536 in
theorem w_t7 : ((((((words1.drop 24).drop 24).drop 24).drop 24).drop 24).drop 24).all (fun c => isCode c || c.before args0 about1) = true := by decide +kernel
theorem w_tables : (allAtoms (Jvm.Cond.code x code maxLocals ret :: tables_1)).before args0 about1 = true := by
  rw [allAtoms_all]
  show words1.all (fun c => c.before args0 about1) = true
  refine all_split ?_ w_codes
  rw [← List.take_append_drop 24 words1, List.all_append, w_t1, ← List.take_append_drop 24 (words1.drop 24), List.all_append, w_t2, ← List.take_append_drop 24 ((words1.drop 24).drop 24), List.all_append, w_t3, ← List.take_append_drop 24 (((words1.drop 24).drop 24).drop 24), List.all_append, w_t4, ← List.take_append_drop 24 ((((words1.drop 24).drop 24).drop 24).drop 24), List.all_append, w_t5, ← List.take_append_drop 24 (((((words1.drop 24).drop 24).drop 24).drop 24).drop 24), List.all_append, w_t6, w_t7]
  rfl
set_option maxRecDepth 65536 in
theorem w_rest : rest_1_c.before args0 about1 = true := by decide +kernel
set_option maxRecDepth 65536 in
theorem w_case : (Jvm.Cond.and given_1 narrow_1).before args0 about1 = true := by decide +kernel
theorem w_applies : (headSpec (Jvm.Cond.code x code maxLocals ret :: tables_1) room_1).applies x e0.platform about1 = true :=
  (Spec.applies_iff w_frames).mpr ⟨w_running, w_runnable, w_alone, w_named, w_hears, w_ripe, w_room, w_tables⟩
theorem atStart : AtStart classFile x code maxLocals ret World_1 tables_1 room_1 Calls_1 rest_1 Pre_1 launch0 p0 e0 about1 theMethod args0 below0 :=
  ⟨lists_1, trivial, launch0.admits_env _ _ _, launch0.least_env, fairChoices_fair.cas, fairChoices_fair.clock, w_frames, w_args, w_heap, w_applies, trivial, w_rest, w_case⟩
end start1
theorem witness_1 : WitnessClaimed_1 := ⟨start1.p0, start1.e0, start1.about1, start1.theMethod, start1.args0, start1.below0, start1.atStart⟩
end Jvm.Pilot.@@N@@
