import JvmDerived
import JvmDerived.Pilot.@@N@@Statement
import JvmDerived.Pilot.@@N@@Code
set_option linter.unusedVariables false
set_option linter.unusedSimpArgs false
@@BLOCK:NumsL.lean.txt@@
namespace Jvm.RoadKit
open Sem ClassFile Op Lib Jvm.Stand Jvm.Free Jvm.LawKit
section New
variable {p : Program} {l : Launch} {e : Env} {R : Room} {s : State} {m : MethodId} {args : Array Value} {below : List Frame} {meth : Method} {c : Code} {T : State} {locs : List Loc} {cells slots : Nat}
theorem retI (X : Stand p l e R s m args below meth c T locs cells slots) (hx : p.tables.exec = Jvm.exec) {pc : Nat} {Ls : Array Slot} {z : Int32} {rest : List Value} (hret : meth.sig.returnType = some .int) (hd : decode c.code pc = .ok (.ireturn, 1)) {fs : List Frame}
    (hl : ∀ (f : JFrame) (acts : List Action), f.method = m → f.locked = none → f.entered = [] → (doReturn e (T.setTop f) acts (some (.int z))).1 = T.setFrames fs) : Steps p.tables e below (T.setTop (mkF m pc Ls (.int z :: rest))) (T.setFrames fs) := by
  have hm' : T.vm.method? m = some meth := X.method'
  have hn : narrow .int (.int z) = .int z := rfl
  show Steps p.tables e below (T.setTop { method := m, pc := pc, locals := Ls, stack := _ :: rest, locked := none }) _
  jvm_step X.here [X.here.top, hx, hd, hm', hret, hn]
  first | (intro acts; rw [hl _ acts rfl rfl rfl]) | rw [hl _ _ rfl rfl rfl]
  exact Steps.refl _
end New
theorem own_sta_keep {Z : State} {h h' : Heap} {C n d : String} {v : Value} {ws : List Addr} (F : Sta Z h C n d v) (K : Keep h h' ws) (q : ∀ x ∈ ws, ∀ cell : Cell, h[x]? = some cell → cell.vm.isStatics = false) : Sta Z h' C n d v := by
  obtain ⟨cf, i, k, f, st, cell, h1, h2, h3, h4, h5, h6, h7⟩ := F
  exact ⟨cf, i, k, f, st, cell, h1, h2, h3, h4, K.2.1 st cell h5 (fun hm => by rw [q st hm cell h5] at h6; cases h6), h6, h7⟩
/-- a class that is none of the interfaces -/
def NoFace (Z : State) (N : String) : Prop := ∃ (c : ClassId) (k : Class), Z.vm.findClass N = some c ∧ Z.vm.classes[c]? = some k ∧ k.isInterface = false
theorem own_noface {Z : State} {a0 : Array Value} {C : String} {y : MethodName} (w : (Cond.selects C y y).before a0 Z = true) : NoFace Z y.cls := by
  obtain ⟨c2, r2, m2, q1, q2, q3, q4, kP, hkP, hkPi⟩ := Cond.selects_spec w
  exact ⟨m2.cls, kP, findClass_of_methodNamed q3, hkP, hkPi⟩
theorem own_same {Z : State} {a0 : Array Value} {y : MethodName} (F : NoFace Z y.cls) (wi : (Cond.instanceMethod y).before a0 Z = true) (hy : y.cls ≠ "java/lang/invoke/MethodHandle" ∧ y.cls ≠ "java/lang/invoke/VarHandle") : (Cond.sameMethod y.cls y.cls y.name y.desc).before a0 Z = true := by
  obtain ⟨c, k, h1, h2, h3⟩ := F
  obtain ⟨mk, methM, hnamed, hmethM, -, -⟩ := Cond.instanceMethod_spec wi
  have hfound : Z.methodFound? y.cls y.name y.desc = some mk := State.methodFound?_of_named hnamed hy
  have hn : Z.methodNamed? ⟨y.cls, y.name, y.desc⟩ = some mk := hnamed
  simp only [Cond.before, Cond.holds, Cond.value, h1, hfound, hn, h2]
  simp; exact h3
theorem own_psel {Z : State} {a0 : Array Value} {y : MethodName} (F : NoFace Z y.cls) (wi : (Cond.instanceMethod y).before a0 Z = true) (wp : (Cond.privateMethod y).before a0 Z = true) (hy : y.cls ≠ "java/lang/invoke/MethodHandle" ∧ y.cls ≠ "java/lang/invoke/VarHandle") : (Cond.selects y.cls y y).before a0 Z = true := by
  obtain ⟨c, k, h1, h2, h3⟩ := F
  exact selects_self_of_private h1 h2 h3 (Cond.privateMethod_at wp) wi hy
/-- from A the run goes on as from B -/
def Rch (tb : Tables) (e : Env) (below : List Frame) (A B : State) : Prop := ∀ t, Steps tb e below B t → Steps tb e below A t
end Jvm.RoadKit
namespace Jvm.Pilot.@@N@@
open Jvm Jvm.ClassFile Sem Op Lib Jvm.Free Jvm.Stand Jvm.LawKit Jvm.RoadKit Bundle Jvm.Pilot.@@N@@.Jvm.D
theorem own_inb {j z : Int32} (hj : ¬ j < 0) (h : j < z) : ¬ j < 0 ∧ j < z := ⟨hj, h⟩
theorem own_cap {z : Int32} (h : ¬ (4 : Int32) < z) : z.toNatClampNeg ≤ 4 := by
  have e : (4 : Int32).toInt = 4 := by decide
  rw [Int32.lt_iff_toInt_lt] at h
  simp only [Int32.toNatClampNeg]; omega
theorem own_pl {j z : Int32} (hj : ¬ j < 0) (h : j < z) (hz : ¬ (4 : Int32) < z) : j.toNatClampNeg < 4 := by
  have e : (4 : Int32).toInt = 4 := by decide
  have q := nat_of hj
  rw [Int32.lt_iff_toInt_lt] at h hz; omega
theorem own_hit {vs : List Value} {i : Nat} {v d : Value} (h : i < vs.length) : (vs.set i v).getD i d = v := by simp [h]
theorem own_miss {vs : List Value} {i j : Nat} {v d : Value} (h : i ≠ j) : (vs.set i v).getD j d = vs.getD j d := by simp [List.getD_eq_getElem?_getD, List.getElem?_set, h]
theorem own_z4 (i : Nat) : ([(.int (0 : Int32)), (.int (0 : Int32)), (.int (0 : Int32)), (.int (0 : Int32))] : List Value).getD i (.int (0 : Int32)) = .int (0 : Int32) := by
  match i with
  | 0 => rfl
  | 1 => rfl
  | 2 => rfl
  | 3 => rfl
  | n + 4 => rfl
theorem d1_0 : decode prog_16_method_1_code 0 = .ok (.aload_n 0, 1) := by decide +kernel
theorem d1_1 : decode prog_16_method_1_code 1 = .ok (.invokespecial 1, 3) := by decide +kernel
theorem d1_4 : decode prog_16_method_1_code 4 = .ok (.aload_n 0, 1) := by decide +kernel
theorem d1_5 : decode prog_16_method_1_code 5 = .ok (.iload_n 1, 1) := by decide +kernel
theorem d1_6 : decode prog_16_method_1_code 6 = .ok (.newarray .int, 2) := by decide +kernel
theorem d1_8 : decode prog_16_method_1_code 8 = .ok (.putfield 7, 3) := by decide +kernel
theorem d1_11 : decode prog_16_method_1_code 11 = .ok (.aload_n 0, 1) := by decide +kernel
theorem d1_12 : decode prog_16_method_1_code 12 = .ok (.iload_n 1, 1) := by decide +kernel
theorem d1_13 : decode prog_16_method_1_code 13 = .ok (.newarray .int, 2) := by decide +kernel
theorem d1_15 : decode prog_16_method_1_code 15 = .ok (.putfield 13, 3) := by decide +kernel
theorem d1_18 : decode prog_16_method_1_code 18 = .ok (.aload_n 0, 1) := by decide +kernel
theorem d1_19 : decode prog_16_method_1_code 19 = .ok (.iload_n 1, 1) := by decide +kernel
theorem d1_20 : decode prog_16_method_1_code 20 = .ok (.anewarray 16, 3) := by decide +kernel
theorem d1_23 : decode prog_16_method_1_code 23 = .ok (.putfield 18, 3) := by decide +kernel
theorem d1_26 : decode prog_16_method_1_code 26 = .ok (.aload_n 0, 1) := by decide +kernel
theorem d1_27 : decode prog_16_method_1_code 27 = .ok (.iload_n 1, 1) := by decide +kernel
theorem d1_28 : decode prog_16_method_1_code 28 = .ok (.anewarray 22, 3) := by decide +kernel
theorem d1_31 : decode prog_16_method_1_code 31 = .ok (.putfield 24, 3) := by decide +kernel
theorem d1_34 : decode prog_16_method_1_code 34 = .ok (.aload_n 0, 1) := by decide +kernel
theorem d1_35 : decode prog_16_method_1_code 35 = .ok (.iload_n 1, 1) := by decide +kernel
theorem d1_36 : decode prog_16_method_1_code 36 = .ok (.anewarray 28, 3) := by decide +kernel
theorem d1_39 : decode prog_16_method_1_code 39 = .ok (.putfield 30, 3) := by decide +kernel
theorem d1_42 : decode prog_16_method_1_code 42 = .ok (.return_, 1) := by decide +kernel
theorem pn_0 : plainName "com/example/prudent_spot/prudentspot/placement/Fleet" = true := by first | (simp [plainName, overriddenIn]; done) | decide +kernel
theorem ef_1 (m : MethodId) (x0 : Addr) (x1 : Int32) : entryFrame m #[(.ref x0), (.int x1)] 2 = mkF m 0 #[.val (.ref x0), .val (.int x1)] [] := by first | (simp [entryFrame, mkF, argsToLocals, Value.category]; done) | rfl
def Q1 (Z : State) (f : Addr) (z : Int32) (h0 : Heap) (n0 : Nat) (v : Option Value) (h : Heap) (L : List Loc) : Prop := ∃ (ca ta le ld : Addr) (kc kt ke kd : ClassId), v = none ∧ Fr n0 L ∧ Keep h0 h [f] ∧ Exa Z h f "com/example/prudent_spot/prudentspot/placement/Fleet" ∧ Fld Z h f "com/example/prudent_spot/prudentspot/placement/Fleet" "cores" "[I" (.ref ca) ∧ Fld Z h f "com/example/prudent_spot/prudentspot/placement/Fleet" "taken" "[I" (.ref ta) ∧ Fld Z h f "com/example/prudent_spot/prudentspot/placement/Fleet" "lastEvent" "[Ljava/time/Instant;" (.ref le) ∧ Fld Z h f "com/example/prudent_spot/prudentspot/placement/Fleet" "lastDirection" "[Lcom/example/prudent_spot/prudentspot/capacity/Direction;" (.ref ld) ∧ Arv Z h ca kc .int z [(.int (0 : Int32)), (.int (0 : Int32)), (.int (0 : Int32)), (.int (0 : Int32))] (.int (0 : Int32)) ∧ Arv Z h ta kt .int z [(.int (0 : Int32)), (.int (0 : Int32)), (.int (0 : Int32)), (.int (0 : Int32))] (.int (0 : Int32)) ∧ Arv Z h le ke (.object "java/time/Instant") z [.null, .null, .null, .null] .null ∧ Arv Z h ld kd (.object "com/example/prudent_spot/prudentspot/capacity/Direction") z [.null, .null, .null, .null] .null ∧ Ovr Z kd "com/example/prudent_spot/prudentspot/capacity/Direction" ∧ n0 ≤ ca ∧ n0 ≤ ta ∧ n0 ≤ le ∧ n0 ≤ ld ∧ h0.size ≤ ca ∧ h0.size ≤ ta ∧ h0.size ≤ le ∧ h0.size ≤ ld ∧ f ≠ ca ∧ f ≠ ta ∧ f ≠ le ∧ f ≠ ld ∧ ca ≠ ta ∧ ca ≠ le ∧ ca ≠ ld ∧ ta ≠ le ∧ ta ≠ ld ∧ le ≠ ld
set_option maxRecDepth 65536 in
set_option maxHeartbeats 40000000 in
theorem rm1 (l : Launch) (Z : State) (a0 : Array Value) (hw : ∀ d ∈ tables_1, d.before a0 Z = true) (ws : List Jvm.Cond) (f : Addr) (z : Int32) (h0 : Heap) (n0 : Nat) (Z0 : n0 ≤ h0.size) (E1 : Exa Z h0 f "com/example/prudent_spot/prudentspot/placement/Fleet") (gf : n0 ≤ f) (hz : ¬ z < 0) (hz4 : ¬ (4 : Int32) < z) (F0 : Fld Z h0 f "com/example/prudent_spot/prudentspot/placement/Fleet" "cores" "[I" .null) (F1 : Fld Z h0 f "com/example/prudent_spot/prudentspot/placement/Fleet" "taken" "[I" .null) (F2 : Fld Z h0 f "com/example/prudent_spot/prudentspot/placement/Fleet" "lastEvent" "[Ljava/time/Instant;" .null) (F3 : Fld Z h0 f "com/example/prudent_spot/prudentspot/placement/Fleet" "lastDirection" "[Lcom/example/prudent_spot/prudentspot/capacity/Direction;" .null) (F4 : Fld Z h0 f "com/example/prudent_spot/prudentspot/placement/Fleet" "sinceChange" "[Ljava/time/Duration;" .null) :
    MetFree l (⟨"com/example/prudent_spot/prudentspot/placement/Fleet", "<init>", "(I)V"⟩ : MethodName) (head1 (Jvm.Cond.code (⟨"com/example/prudent_spot/prudentspot/placement/Fleet", "<init>", "(I)V"⟩ : MethodName) prog_16_method_1_code 2 none :: ws) ({ frames := 1, cells := 5, slots := 20, locals := 13 } : Room)) (fun aA U => aA = #[(.ref f), (.int z)] ∧ Z.Warmed39 U.vm ∧ U.heap = h0) (fun _ _ _ _ _ => True) (fun _ U oO U' => ∃ vV LL, oO = .returned vV ∧ Q1 Z f z h0 n0 vV U'.heap LL ∧ FrameEnd U oO U' LL ({ frames := 1, cells := 5, slots := 20, locals := 13 } : Room).cells ({ frames := 1, cells := 5, slots := 20, locals := 13 } : Room).slots) := by
  refine MetFree.of_bodySF (plainFor_of_name pn_0) hisR ?_
  intro p e s m args below meth c s₁ Bd hml0 hP hK
  obtain ⟨rfl, hZ, hh⟩ := hP
  have hx := Bd.exec
  have hby := Bd.bytes
  have hml : c.maxLocals = 2 := hml0
  have hown : s.vm.findClass "com/example/prudent_spot/prudentspot/placement/Fleet" = some m.cls := findClass_of_methodNamed Bd.named
  have hnm := (name_of_methodNamed Bd.named Bd.method).1
  have X0 : Stand p l e ({ frames := 1, cells := 5, slots := 20, locals := 13 } : Room) s m #[(.ref f), (.int z)] below meth c s₁ [] 0 0 := Stand.of_body Bd
  have e0 : s₁.heap = h0 := by rw [← hh, Bd.state]; rfl
  have N0 := Fr.nil n0
  have K0 : Keep h0 h0 [f] := Keep.refl _ _
  have pre0 : Rch p.tables e below (s₁.setTop (entryFrame m #[(.ref f), (.int z)] 2)) (s₁.setTop (mkF m 0 #[.val (.ref f), .val (.int z)] [])) := fun tgt ktg => castTop (ef_1 m f z) ktg
  have pre1 : Rch p.tables e below (s₁.setTop (entryFrame m #[(.ref f), (.int z)] 2)) (s₁.setTop (mkF m 1 #[.val (.ref f), .val (.int z)] [(.ref f)])) := fun tgt ktg => pre0 tgt (by
    show Steps p.tables e below (s₁.setTop (mkF m 0 #[.val (.ref f), .val (.int z)] [])) _
    refine XS.aloadN X0.here hx rfl (hb hby d1_0) rfl rfl ?_
    exact ktg)
  obtain ⟨T2, X2, e2, st2⟩ := initO X0 hx hZ hown (hw _ (List.mem_of_getElem? (i := 10) rfl)) (hw _ (List.mem_of_getElem? (i := 11) rfl)) (hw _ (List.mem_of_getElem? (i := 12) rfl)) e0 (g := (mkF m 1 #[.val (.ref f), .val (.int z)] [(.ref f)])) rfl (by rw [hml]; rfl) rfl (hb hby d1_1) (by decide) (W := 0) (by show 2 * 0 + _ ≤ _; exact Nat.le_of_eq rfl) (by decide)
  have pre2 : Rch p.tables e below (s₁.setTop (entryFrame m #[(.ref f), (.int z)] 2)) (T2.setTop (mkF m 4 #[.val (.ref f), .val (.int z)] [])) := fun tgt ktg => pre1 tgt (st2 tgt ktg)
  have pre3 : Rch p.tables e below (s₁.setTop (entryFrame m #[(.ref f), (.int z)] 2)) (T2.setTop (mkF m 6 #[.val (.ref f), .val (.int z)] [(.int z), (.ref f)])) := fun tgt ktg => pre2 tgt (by
    show Steps p.tables e below (T2.setTop (mkF m 4 #[.val (.ref f), .val (.int z)] [])) _
    refine XS.aloadN X2.here hx rfl (hb hby d1_4) rfl rfl ?_
    show Steps p.tables e below (T2.setTop (mkF m 5 #[.val (.ref f), .val (.int z)] [(.ref f)])) _
    refine XS.iloadN X2.here hx rfl (hb hby d1_5) rfl ?_
    exact ktg)
  obtain ⟨T4, h4, k4, X4, e4, E4, A4, st4⟩ := newP X2 hx hZ (hw _ (List.mem_of_getElem? (i := 13) rfl)) e2 (g := (mkF m 6 #[.val (.ref f), .val (.int z)] [(.int z), (.ref f)])) rfl (hb hby d1_6) rfl hz (cap := 4) (own_cap hz4) (by decide) (by decide) (by decide)
  obtain ⟨ca, g4⟩ : ∃ nm_, nm_ = h0.size := ⟨_, rfl⟩
  rw [← g4] at A4 st4
  have ne_f_ca : f ≠ ca := Nat.ne_of_lt (Nat.lt_of_lt_of_le E1.lt (Nat.le_of_eq g4.symm))
  have g_ca : n0 ≤ ca := Nat.le_trans Z0 (Nat.le_of_eq g4.symm)
  have sz_ca : h0.size ≤ ca := Nat.le_trans K0.1 (Nat.le_of_eq g4.symm)
  have pre4 : Rch p.tables e below (s₁.setTop (entryFrame m #[(.ref f), (.int z)] 2)) (T4.setTop (mkF m 8 #[.val (.ref f), .val (.int z)] [(.ref ca), (.ref f)])) := fun tgt ktg => pre3 tgt (st4 tgt ktg)
  have f5 : Exa Z h4 f "com/example/prudent_spot/prudentspot/placement/Fleet" := E1.ext E4
  have f6 : Fld Z h4 f "com/example/prudent_spot/prudentspot/placement/Fleet" "cores" "[I" .null := F0.ext E4
  have f7 : Fld Z h4 f "com/example/prudent_spot/prudentspot/placement/Fleet" "taken" "[I" .null := F1.ext E4
  have f8 : Fld Z h4 f "com/example/prudent_spot/prudentspot/placement/Fleet" "lastEvent" "[Ljava/time/Instant;" .null := F2.ext E4
  have f9 : Fld Z h4 f "com/example/prudent_spot/prudentspot/placement/Fleet" "lastDirection" "[Lcom/example/prudent_spot/prudentspot/capacity/Direction;" .null := F3.ext E4
  have f10 : Fld Z h4 f "com/example/prudent_spot/prudentspot/placement/Fleet" "sinceChange" "[Ljava/time/Duration;" .null := F4.ext E4
  have z11 : n0 ≤ h4.size := Nat.le_trans Z0 E4.1
  have K12 : Keep h0 h4 [f] := K0.ext E4
  have f13 : Arv Z h4 ca k4 .int z [(.int (0 : Int32)), (.int (0 : Int32)), (.int (0 : Int32)), (.int (0 : Int32))] (.int (0 : Int32)) := (Arv.new A4 hz).pad (pad_rep [] (.int (0 : Int32)) 4)
  obtain ⟨T14, h14, X14, e14, W14, st14⟩ := putF X4 hx hZ hown (host := "") (Or.inl (hw _ (List.mem_of_getElem? (i := 14) rfl))) Via.refl e4 f6 f5 (Or.inr ⟨(hw _ (List.mem_of_getElem? (i := 15) rfl)), rfl, hnm⟩) (hw _ (List.mem_of_getElem? (i := 5) rfl)) (ty := (.array .int)) (by decide) rfl rfl (g := (mkF m 8 #[.val (.ref f), .val (.int z)] [(.ref ca), (.ref f)])) rfl rfl (hb hby d1_8)
  have pre14 : Rch p.tables e below (s₁.setTop (entryFrame m #[(.ref f), (.int z)] 2)) (T14.setTop (mkF m 11 #[.val (.ref f), .val (.int z)] [])) := fun tgt ktg => pre4 tgt (st14 tgt ktg)
  have f15 : Exa Z h14 f "com/example/prudent_spot/prudentspot/placement/Fleet" := f5.wr W14
  have f16 : Fld Z h14 f "com/example/prudent_spot/prudentspot/placement/Fleet" "taken" "[I" .null := f7.other W14 (Or.inr (slot_ne (Or.inr (hw _ (List.mem_of_getElem? (i := 17) rfl))) (Or.inr (hw _ (List.mem_of_getElem? (i := 15) rfl))) (by decide) (t := (.array .int)) (t' := (.array .int)) (by decide) (by decide)))
  have f17 : Fld Z h14 f "com/example/prudent_spot/prudentspot/placement/Fleet" "lastEvent" "[Ljava/time/Instant;" .null := f8.other W14 (Or.inr (slot_ne (Or.inr (hw _ (List.mem_of_getElem? (i := 21) rfl))) (Or.inr (hw _ (List.mem_of_getElem? (i := 15) rfl))) (by decide) (t := (.array (.object "java/time/Instant"))) (t' := (.array .int)) (by decide) (by decide)))
  have f18 : Fld Z h14 f "com/example/prudent_spot/prudentspot/placement/Fleet" "lastDirection" "[Lcom/example/prudent_spot/prudentspot/capacity/Direction;" .null := f9.other W14 (Or.inr (slot_ne (Or.inr (hw _ (List.mem_of_getElem? (i := 25) rfl))) (Or.inr (hw _ (List.mem_of_getElem? (i := 15) rfl))) (by decide) (t := (.array (.object "com/example/prudent_spot/prudentspot/capacity/Direction"))) (t' := (.array .int)) (by decide) (by decide)))
  have f19 : Fld Z h14 f "com/example/prudent_spot/prudentspot/placement/Fleet" "sinceChange" "[Ljava/time/Duration;" .null := f10.other W14 (Or.inr (slot_ne (Or.inr (hw _ (List.mem_of_getElem? (i := 29) rfl))) (Or.inr (hw _ (List.mem_of_getElem? (i := 15) rfl))) (by decide) (t := (.array (.object "java/time/Duration"))) (t' := (.array .int)) (by decide) (by decide)))
  have f20 : Arv Z h14 ca k4 .int z [(.int (0 : Int32)), (.int (0 : Int32)), (.int (0 : Int32)), (.int (0 : Int32))] (.int (0 : Int32)) := f13.other W14 (Ne.symm ne_f_ca)
  have z21 : n0 ≤ h14.size := Nat.le_trans z11 (Keep.of_wr W14).1
  have K22 : Keep h0 h14 [f] := K12.wr W14 (Or.inl (List.mem_of_getElem? (i := 0) rfl))
  have f23 : Fld Z h14 f "com/example/prudent_spot/prudentspot/placement/Fleet" "cores" "[I" (.ref ca) := f6.same W14
  have N24 := Fr.snoc X14 N0 gf
  have pre25 : Rch p.tables e below (s₁.setTop (entryFrame m #[(.ref f), (.int z)] 2)) (T14.setTop (mkF m 13 #[.val (.ref f), .val (.int z)] [(.int z), (.ref f)])) := fun tgt ktg => pre14 tgt (by
    show Steps p.tables e below (T14.setTop (mkF m 11 #[.val (.ref f), .val (.int z)] [])) _
    refine XS.aloadN X14.here hx rfl (hb hby d1_11) rfl rfl ?_
    show Steps p.tables e below (T14.setTop (mkF m 12 #[.val (.ref f), .val (.int z)] [(.ref f)])) _
    refine XS.iloadN X14.here hx rfl (hb hby d1_12) rfl ?_
    exact ktg)
  obtain ⟨T26, h26, k26, X26, e26, E26, A26, st26⟩ := newP X14 hx hZ (hw _ (List.mem_of_getElem? (i := 13) rfl)) e14 (g := (mkF m 13 #[.val (.ref f), .val (.int z)] [(.int z), (.ref f)])) rfl (hb hby d1_13) rfl hz (cap := 4) (own_cap hz4) (by decide) (by decide) (by decide)
  obtain ⟨ta, g26⟩ : ∃ nm_, nm_ = h14.size := ⟨_, rfl⟩
  rw [← g26] at A26 st26
  have ne_f_ta : f ≠ ta := Nat.ne_of_lt (Nat.lt_of_lt_of_le f15.lt (Nat.le_of_eq g26.symm))
  have ne_ca_ta : ca ≠ ta := Nat.ne_of_lt (Nat.lt_of_lt_of_le f20.lt (Nat.le_of_eq g26.symm))
  have g_ta : n0 ≤ ta := Nat.le_trans z21 (Nat.le_of_eq g26.symm)
  have sz_ta : h0.size ≤ ta := Nat.le_trans K22.1 (Nat.le_of_eq g26.symm)
  have pre26 : Rch p.tables e below (s₁.setTop (entryFrame m #[(.ref f), (.int z)] 2)) (T26.setTop (mkF m 15 #[.val (.ref f), .val (.int z)] [(.ref ta), (.ref f)])) := fun tgt ktg => pre25 tgt (st26 tgt ktg)
  have f27 : Exa Z h26 f "com/example/prudent_spot/prudentspot/placement/Fleet" := f15.ext E26
  have f28 : Fld Z h26 f "com/example/prudent_spot/prudentspot/placement/Fleet" "taken" "[I" .null := f16.ext E26
  have f29 : Fld Z h26 f "com/example/prudent_spot/prudentspot/placement/Fleet" "lastEvent" "[Ljava/time/Instant;" .null := f17.ext E26
  have f30 : Fld Z h26 f "com/example/prudent_spot/prudentspot/placement/Fleet" "lastDirection" "[Lcom/example/prudent_spot/prudentspot/capacity/Direction;" .null := f18.ext E26
  have f31 : Fld Z h26 f "com/example/prudent_spot/prudentspot/placement/Fleet" "sinceChange" "[Ljava/time/Duration;" .null := f19.ext E26
  have f32 : Arv Z h26 ca k4 .int z [(.int (0 : Int32)), (.int (0 : Int32)), (.int (0 : Int32)), (.int (0 : Int32))] (.int (0 : Int32)) := f20.ext E26
  have f33 : Fld Z h26 f "com/example/prudent_spot/prudentspot/placement/Fleet" "cores" "[I" (.ref ca) := f23.ext E26
  have z34 : n0 ≤ h26.size := Nat.le_trans z21 E26.1
  have K35 : Keep h0 h26 [f] := K22.ext E26
  have f36 : Arv Z h26 ta k26 .int z [(.int (0 : Int32)), (.int (0 : Int32)), (.int (0 : Int32)), (.int (0 : Int32))] (.int (0 : Int32)) := (Arv.new A26 hz).pad (pad_rep [] (.int (0 : Int32)) 4)
  obtain ⟨T37, h37, X37, e37, W37, st37⟩ := putF X26 hx hZ hown (host := "") (Or.inl (hw _ (List.mem_of_getElem? (i := 16) rfl))) Via.refl e26 f28 f27 (Or.inr ⟨(hw _ (List.mem_of_getElem? (i := 17) rfl)), rfl, hnm⟩) (hw _ (List.mem_of_getElem? (i := 5) rfl)) (ty := (.array .int)) (by decide) rfl rfl (g := (mkF m 15 #[.val (.ref f), .val (.int z)] [(.ref ta), (.ref f)])) rfl rfl (hb hby d1_15)
  have pre37 : Rch p.tables e below (s₁.setTop (entryFrame m #[(.ref f), (.int z)] 2)) (T37.setTop (mkF m 18 #[.val (.ref f), .val (.int z)] [])) := fun tgt ktg => pre26 tgt (st37 tgt ktg)
  have f38 : Exa Z h37 f "com/example/prudent_spot/prudentspot/placement/Fleet" := f27.wr W37
  have f39 : Fld Z h37 f "com/example/prudent_spot/prudentspot/placement/Fleet" "lastEvent" "[Ljava/time/Instant;" .null := f29.other W37 (Or.inr (slot_ne (Or.inr (hw _ (List.mem_of_getElem? (i := 21) rfl))) (Or.inr (hw _ (List.mem_of_getElem? (i := 17) rfl))) (by decide) (t := (.array (.object "java/time/Instant"))) (t' := (.array .int)) (by decide) (by decide)))
  have f40 : Fld Z h37 f "com/example/prudent_spot/prudentspot/placement/Fleet" "lastDirection" "[Lcom/example/prudent_spot/prudentspot/capacity/Direction;" .null := f30.other W37 (Or.inr (slot_ne (Or.inr (hw _ (List.mem_of_getElem? (i := 25) rfl))) (Or.inr (hw _ (List.mem_of_getElem? (i := 17) rfl))) (by decide) (t := (.array (.object "com/example/prudent_spot/prudentspot/capacity/Direction"))) (t' := (.array .int)) (by decide) (by decide)))
  have f41 : Fld Z h37 f "com/example/prudent_spot/prudentspot/placement/Fleet" "sinceChange" "[Ljava/time/Duration;" .null := f31.other W37 (Or.inr (slot_ne (Or.inr (hw _ (List.mem_of_getElem? (i := 29) rfl))) (Or.inr (hw _ (List.mem_of_getElem? (i := 17) rfl))) (by decide) (t := (.array (.object "java/time/Duration"))) (t' := (.array .int)) (by decide) (by decide)))
  have f42 : Arv Z h37 ca k4 .int z [(.int (0 : Int32)), (.int (0 : Int32)), (.int (0 : Int32)), (.int (0 : Int32))] (.int (0 : Int32)) := f32.other W37 (Ne.symm ne_f_ca)
  have f43 : Fld Z h37 f "com/example/prudent_spot/prudentspot/placement/Fleet" "cores" "[I" (.ref ca) := f33.other W37 (Or.inr (slot_ne (Or.inr (hw _ (List.mem_of_getElem? (i := 15) rfl))) (Or.inr (hw _ (List.mem_of_getElem? (i := 17) rfl))) (by decide) (t := (.array .int)) (t' := (.array .int)) (by decide) (by decide)))
  have f44 : Arv Z h37 ta k26 .int z [(.int (0 : Int32)), (.int (0 : Int32)), (.int (0 : Int32)), (.int (0 : Int32))] (.int (0 : Int32)) := f36.other W37 (Ne.symm ne_f_ta)
  have z45 : n0 ≤ h37.size := Nat.le_trans z34 (Keep.of_wr W37).1
  have K46 : Keep h0 h37 [f] := K35.wr W37 (Or.inl (List.mem_of_getElem? (i := 0) rfl))
  have f47 : Fld Z h37 f "com/example/prudent_spot/prudentspot/placement/Fleet" "taken" "[I" (.ref ta) := f28.same W37
  have N48 := Fr.snoc X37 N24 gf
  have pre49 : Rch p.tables e below (s₁.setTop (entryFrame m #[(.ref f), (.int z)] 2)) (T37.setTop (mkF m 20 #[.val (.ref f), .val (.int z)] [(.int z), (.ref f)])) := fun tgt ktg => pre37 tgt (by
    show Steps p.tables e below (T37.setTop (mkF m 18 #[.val (.ref f), .val (.int z)] [])) _
    refine XS.aloadN X37.here hx rfl (hb hby d1_18) rfl rfl ?_
    show Steps p.tables e below (T37.setTop (mkF m 19 #[.val (.ref f), .val (.int z)] [(.ref f)])) _
    refine XS.iloadN X37.here hx rfl (hb hby d1_19) rfl ?_
    exact ktg)
  obtain ⟨T50, h50, k50, X50, e50, E50, A50, O50, st50⟩ := newR X37 hx hZ hown (hw _ (List.mem_of_getElem? (i := 18) rfl)) (hw _ (List.mem_of_getElem? (i := 19) rfl)) e37 (g := (mkF m 20 #[.val (.ref f), .val (.int z)] [(.int z), (.ref f)])) rfl (hb hby d1_20) rfl hz (cap := 4) (own_cap hz4) (by decide) (by decide) (by decide)
  obtain ⟨le, g50⟩ : ∃ nm_, nm_ = h37.size := ⟨_, rfl⟩
  rw [← g50] at A50 st50
  have ne_f_le : f ≠ le := Nat.ne_of_lt (Nat.lt_of_lt_of_le f38.lt (Nat.le_of_eq g50.symm))
  have ne_ca_le : ca ≠ le := Nat.ne_of_lt (Nat.lt_of_lt_of_le f42.lt (Nat.le_of_eq g50.symm))
  have ne_ta_le : ta ≠ le := Nat.ne_of_lt (Nat.lt_of_lt_of_le f44.lt (Nat.le_of_eq g50.symm))
  have g_le : n0 ≤ le := Nat.le_trans z45 (Nat.le_of_eq g50.symm)
  have sz_le : h0.size ≤ le := Nat.le_trans K46.1 (Nat.le_of_eq g50.symm)
  have pre50 : Rch p.tables e below (s₁.setTop (entryFrame m #[(.ref f), (.int z)] 2)) (T50.setTop (mkF m 23 #[.val (.ref f), .val (.int z)] [(.ref le), (.ref f)])) := fun tgt ktg => pre49 tgt (st50 tgt ktg)
  have f51 : Exa Z h50 f "com/example/prudent_spot/prudentspot/placement/Fleet" := f38.ext E50
  have f52 : Fld Z h50 f "com/example/prudent_spot/prudentspot/placement/Fleet" "lastEvent" "[Ljava/time/Instant;" .null := f39.ext E50
  have f53 : Fld Z h50 f "com/example/prudent_spot/prudentspot/placement/Fleet" "lastDirection" "[Lcom/example/prudent_spot/prudentspot/capacity/Direction;" .null := f40.ext E50
  have f54 : Fld Z h50 f "com/example/prudent_spot/prudentspot/placement/Fleet" "sinceChange" "[Ljava/time/Duration;" .null := f41.ext E50
  have f55 : Arv Z h50 ca k4 .int z [(.int (0 : Int32)), (.int (0 : Int32)), (.int (0 : Int32)), (.int (0 : Int32))] (.int (0 : Int32)) := f42.ext E50
  have f56 : Fld Z h50 f "com/example/prudent_spot/prudentspot/placement/Fleet" "cores" "[I" (.ref ca) := f43.ext E50
  have f57 : Arv Z h50 ta k26 .int z [(.int (0 : Int32)), (.int (0 : Int32)), (.int (0 : Int32)), (.int (0 : Int32))] (.int (0 : Int32)) := f44.ext E50
  have f58 : Fld Z h50 f "com/example/prudent_spot/prudentspot/placement/Fleet" "taken" "[I" (.ref ta) := f47.ext E50
  have z59 : n0 ≤ h50.size := Nat.le_trans z45 E50.1
  have K60 : Keep h0 h50 [f] := K46.ext E50
  have f61 : Arv Z h50 le k50 (.object "java/time/Instant") z [.null, .null, .null, .null] .null := (Arv.new A50 hz).pad (pad_rep [] .null 4)
  obtain ⟨T62, h62, X62, e62, W62, st62⟩ := putF X50 hx hZ hown (host := "") (Or.inl (hw _ (List.mem_of_getElem? (i := 20) rfl))) Via.refl e50 f52 f51 (Or.inr ⟨(hw _ (List.mem_of_getElem? (i := 21) rfl)), rfl, hnm⟩) (hw _ (List.mem_of_getElem? (i := 5) rfl)) (ty := (.array (.object "java/time/Instant"))) (by decide) rfl rfl (g := (mkF m 23 #[.val (.ref f), .val (.int z)] [(.ref le), (.ref f)])) rfl rfl (hb hby d1_23)
  have pre62 : Rch p.tables e below (s₁.setTop (entryFrame m #[(.ref f), (.int z)] 2)) (T62.setTop (mkF m 26 #[.val (.ref f), .val (.int z)] [])) := fun tgt ktg => pre50 tgt (st62 tgt ktg)
  have f63 : Exa Z h62 f "com/example/prudent_spot/prudentspot/placement/Fleet" := f51.wr W62
  have f64 : Fld Z h62 f "com/example/prudent_spot/prudentspot/placement/Fleet" "lastDirection" "[Lcom/example/prudent_spot/prudentspot/capacity/Direction;" .null := f53.other W62 (Or.inr (slot_ne (Or.inr (hw _ (List.mem_of_getElem? (i := 25) rfl))) (Or.inr (hw _ (List.mem_of_getElem? (i := 21) rfl))) (by decide) (t := (.array (.object "com/example/prudent_spot/prudentspot/capacity/Direction"))) (t' := (.array (.object "java/time/Instant"))) (by decide) (by decide)))
  have f65 : Fld Z h62 f "com/example/prudent_spot/prudentspot/placement/Fleet" "sinceChange" "[Ljava/time/Duration;" .null := f54.other W62 (Or.inr (slot_ne (Or.inr (hw _ (List.mem_of_getElem? (i := 29) rfl))) (Or.inr (hw _ (List.mem_of_getElem? (i := 21) rfl))) (by decide) (t := (.array (.object "java/time/Duration"))) (t' := (.array (.object "java/time/Instant"))) (by decide) (by decide)))
  have f66 : Arv Z h62 ca k4 .int z [(.int (0 : Int32)), (.int (0 : Int32)), (.int (0 : Int32)), (.int (0 : Int32))] (.int (0 : Int32)) := f55.other W62 (Ne.symm ne_f_ca)
  have f67 : Fld Z h62 f "com/example/prudent_spot/prudentspot/placement/Fleet" "cores" "[I" (.ref ca) := f56.other W62 (Or.inr (slot_ne (Or.inr (hw _ (List.mem_of_getElem? (i := 15) rfl))) (Or.inr (hw _ (List.mem_of_getElem? (i := 21) rfl))) (by decide) (t := (.array .int)) (t' := (.array (.object "java/time/Instant"))) (by decide) (by decide)))
  have f68 : Arv Z h62 ta k26 .int z [(.int (0 : Int32)), (.int (0 : Int32)), (.int (0 : Int32)), (.int (0 : Int32))] (.int (0 : Int32)) := f57.other W62 (Ne.symm ne_f_ta)
  have f69 : Fld Z h62 f "com/example/prudent_spot/prudentspot/placement/Fleet" "taken" "[I" (.ref ta) := f58.other W62 (Or.inr (slot_ne (Or.inr (hw _ (List.mem_of_getElem? (i := 17) rfl))) (Or.inr (hw _ (List.mem_of_getElem? (i := 21) rfl))) (by decide) (t := (.array .int)) (t' := (.array (.object "java/time/Instant"))) (by decide) (by decide)))
  have f70 : Arv Z h62 le k50 (.object "java/time/Instant") z [.null, .null, .null, .null] .null := f61.other W62 (Ne.symm ne_f_le)
  have z71 : n0 ≤ h62.size := Nat.le_trans z59 (Keep.of_wr W62).1
  have K72 : Keep h0 h62 [f] := K60.wr W62 (Or.inl (List.mem_of_getElem? (i := 0) rfl))
  have f73 : Fld Z h62 f "com/example/prudent_spot/prudentspot/placement/Fleet" "lastEvent" "[Ljava/time/Instant;" (.ref le) := f52.same W62
  have N74 := Fr.snoc X62 N48 gf
  have pre75 : Rch p.tables e below (s₁.setTop (entryFrame m #[(.ref f), (.int z)] 2)) (T62.setTop (mkF m 28 #[.val (.ref f), .val (.int z)] [(.int z), (.ref f)])) := fun tgt ktg => pre62 tgt (by
    show Steps p.tables e below (T62.setTop (mkF m 26 #[.val (.ref f), .val (.int z)] [])) _
    refine XS.aloadN X62.here hx rfl (hb hby d1_26) rfl rfl ?_
    show Steps p.tables e below (T62.setTop (mkF m 27 #[.val (.ref f), .val (.int z)] [(.ref f)])) _
    refine XS.iloadN X62.here hx rfl (hb hby d1_27) rfl ?_
    exact ktg)
  obtain ⟨T76, h76, k76, X76, e76, E76, A76, O76, st76⟩ := newR X62 hx hZ hown (hw _ (List.mem_of_getElem? (i := 22) rfl)) (hw _ (List.mem_of_getElem? (i := 23) rfl)) e62 (g := (mkF m 28 #[.val (.ref f), .val (.int z)] [(.int z), (.ref f)])) rfl (hb hby d1_28) rfl hz (cap := 4) (own_cap hz4) (by decide) (by decide) (by decide)
  obtain ⟨ld, g76⟩ : ∃ nm_, nm_ = h62.size := ⟨_, rfl⟩
  rw [← g76] at A76 st76
  have ne_f_ld : f ≠ ld := Nat.ne_of_lt (Nat.lt_of_lt_of_le f63.lt (Nat.le_of_eq g76.symm))
  have ne_ca_ld : ca ≠ ld := Nat.ne_of_lt (Nat.lt_of_lt_of_le f66.lt (Nat.le_of_eq g76.symm))
  have ne_ta_ld : ta ≠ ld := Nat.ne_of_lt (Nat.lt_of_lt_of_le f68.lt (Nat.le_of_eq g76.symm))
  have ne_le_ld : le ≠ ld := Nat.ne_of_lt (Nat.lt_of_lt_of_le f70.lt (Nat.le_of_eq g76.symm))
  have g_ld : n0 ≤ ld := Nat.le_trans z71 (Nat.le_of_eq g76.symm)
  have sz_ld : h0.size ≤ ld := Nat.le_trans K72.1 (Nat.le_of_eq g76.symm)
  have pre76 : Rch p.tables e below (s₁.setTop (entryFrame m #[(.ref f), (.int z)] 2)) (T76.setTop (mkF m 31 #[.val (.ref f), .val (.int z)] [(.ref ld), (.ref f)])) := fun tgt ktg => pre75 tgt (st76 tgt ktg)
  have f77 : Exa Z h76 f "com/example/prudent_spot/prudentspot/placement/Fleet" := f63.ext E76
  have f78 : Fld Z h76 f "com/example/prudent_spot/prudentspot/placement/Fleet" "lastDirection" "[Lcom/example/prudent_spot/prudentspot/capacity/Direction;" .null := f64.ext E76
  have f79 : Fld Z h76 f "com/example/prudent_spot/prudentspot/placement/Fleet" "sinceChange" "[Ljava/time/Duration;" .null := f65.ext E76
  have f80 : Arv Z h76 ca k4 .int z [(.int (0 : Int32)), (.int (0 : Int32)), (.int (0 : Int32)), (.int (0 : Int32))] (.int (0 : Int32)) := f66.ext E76
  have f81 : Fld Z h76 f "com/example/prudent_spot/prudentspot/placement/Fleet" "cores" "[I" (.ref ca) := f67.ext E76
  have f82 : Arv Z h76 ta k26 .int z [(.int (0 : Int32)), (.int (0 : Int32)), (.int (0 : Int32)), (.int (0 : Int32))] (.int (0 : Int32)) := f68.ext E76
  have f83 : Fld Z h76 f "com/example/prudent_spot/prudentspot/placement/Fleet" "taken" "[I" (.ref ta) := f69.ext E76
  have f84 : Arv Z h76 le k50 (.object "java/time/Instant") z [.null, .null, .null, .null] .null := f70.ext E76
  have f85 : Fld Z h76 f "com/example/prudent_spot/prudentspot/placement/Fleet" "lastEvent" "[Ljava/time/Instant;" (.ref le) := f73.ext E76
  have z86 : n0 ≤ h76.size := Nat.le_trans z71 E76.1
  have K87 : Keep h0 h76 [f] := K72.ext E76
  have f88 : Arv Z h76 ld k76 (.object "com/example/prudent_spot/prudentspot/capacity/Direction") z [.null, .null, .null, .null] .null := (Arv.new A76 hz).pad (pad_rep [] .null 4)
  obtain ⟨T89, h89, X89, e89, W89, st89⟩ := putF X76 hx hZ hown (host := "") (Or.inl (hw _ (List.mem_of_getElem? (i := 24) rfl))) Via.refl e76 f78 f77 (Or.inr ⟨(hw _ (List.mem_of_getElem? (i := 25) rfl)), rfl, hnm⟩) (hw _ (List.mem_of_getElem? (i := 5) rfl)) (ty := (.array (.object "com/example/prudent_spot/prudentspot/capacity/Direction"))) (by decide) rfl rfl (g := (mkF m 31 #[.val (.ref f), .val (.int z)] [(.ref ld), (.ref f)])) rfl rfl (hb hby d1_31)
  have pre89 : Rch p.tables e below (s₁.setTop (entryFrame m #[(.ref f), (.int z)] 2)) (T89.setTop (mkF m 34 #[.val (.ref f), .val (.int z)] [])) := fun tgt ktg => pre76 tgt (st89 tgt ktg)
  have f90 : Exa Z h89 f "com/example/prudent_spot/prudentspot/placement/Fleet" := f77.wr W89
  have f91 : Fld Z h89 f "com/example/prudent_spot/prudentspot/placement/Fleet" "sinceChange" "[Ljava/time/Duration;" .null := f79.other W89 (Or.inr (slot_ne (Or.inr (hw _ (List.mem_of_getElem? (i := 29) rfl))) (Or.inr (hw _ (List.mem_of_getElem? (i := 25) rfl))) (by decide) (t := (.array (.object "java/time/Duration"))) (t' := (.array (.object "com/example/prudent_spot/prudentspot/capacity/Direction"))) (by decide) (by decide)))
  have f92 : Arv Z h89 ca k4 .int z [(.int (0 : Int32)), (.int (0 : Int32)), (.int (0 : Int32)), (.int (0 : Int32))] (.int (0 : Int32)) := f80.other W89 (Ne.symm ne_f_ca)
  have f93 : Fld Z h89 f "com/example/prudent_spot/prudentspot/placement/Fleet" "cores" "[I" (.ref ca) := f81.other W89 (Or.inr (slot_ne (Or.inr (hw _ (List.mem_of_getElem? (i := 15) rfl))) (Or.inr (hw _ (List.mem_of_getElem? (i := 25) rfl))) (by decide) (t := (.array .int)) (t' := (.array (.object "com/example/prudent_spot/prudentspot/capacity/Direction"))) (by decide) (by decide)))
  have f94 : Arv Z h89 ta k26 .int z [(.int (0 : Int32)), (.int (0 : Int32)), (.int (0 : Int32)), (.int (0 : Int32))] (.int (0 : Int32)) := f82.other W89 (Ne.symm ne_f_ta)
  have f95 : Fld Z h89 f "com/example/prudent_spot/prudentspot/placement/Fleet" "taken" "[I" (.ref ta) := f83.other W89 (Or.inr (slot_ne (Or.inr (hw _ (List.mem_of_getElem? (i := 17) rfl))) (Or.inr (hw _ (List.mem_of_getElem? (i := 25) rfl))) (by decide) (t := (.array .int)) (t' := (.array (.object "com/example/prudent_spot/prudentspot/capacity/Direction"))) (by decide) (by decide)))
  have f96 : Arv Z h89 le k50 (.object "java/time/Instant") z [.null, .null, .null, .null] .null := f84.other W89 (Ne.symm ne_f_le)
  have f97 : Fld Z h89 f "com/example/prudent_spot/prudentspot/placement/Fleet" "lastEvent" "[Ljava/time/Instant;" (.ref le) := f85.other W89 (Or.inr (slot_ne (Or.inr (hw _ (List.mem_of_getElem? (i := 21) rfl))) (Or.inr (hw _ (List.mem_of_getElem? (i := 25) rfl))) (by decide) (t := (.array (.object "java/time/Instant"))) (t' := (.array (.object "com/example/prudent_spot/prudentspot/capacity/Direction"))) (by decide) (by decide)))
  have f98 : Arv Z h89 ld k76 (.object "com/example/prudent_spot/prudentspot/capacity/Direction") z [.null, .null, .null, .null] .null := f88.other W89 (Ne.symm ne_f_ld)
  have z99 : n0 ≤ h89.size := Nat.le_trans z86 (Keep.of_wr W89).1
  have K100 : Keep h0 h89 [f] := K87.wr W89 (Or.inl (List.mem_of_getElem? (i := 0) rfl))
  have f101 : Fld Z h89 f "com/example/prudent_spot/prudentspot/placement/Fleet" "lastDirection" "[Lcom/example/prudent_spot/prudentspot/capacity/Direction;" (.ref ld) := f78.same W89
  have N102 := Fr.snoc X89 N74 gf
  have pre103 : Rch p.tables e below (s₁.setTop (entryFrame m #[(.ref f), (.int z)] 2)) (T89.setTop (mkF m 36 #[.val (.ref f), .val (.int z)] [(.int z), (.ref f)])) := fun tgt ktg => pre89 tgt (by
    show Steps p.tables e below (T89.setTop (mkF m 34 #[.val (.ref f), .val (.int z)] [])) _
    refine XS.aloadN X89.here hx rfl (hb hby d1_34) rfl rfl ?_
    show Steps p.tables e below (T89.setTop (mkF m 35 #[.val (.ref f), .val (.int z)] [(.ref f)])) _
    refine XS.iloadN X89.here hx rfl (hb hby d1_35) rfl ?_
    exact ktg)
  obtain ⟨T104, h104, k104, X104, e104, E104, A104, O104, st104⟩ := newR X89 hx hZ hown (hw _ (List.mem_of_getElem? (i := 26) rfl)) (hw _ (List.mem_of_getElem? (i := 27) rfl)) e89 (g := (mkF m 36 #[.val (.ref f), .val (.int z)] [(.int z), (.ref f)])) rfl (hb hby d1_36) rfl hz (cap := 4) (own_cap hz4) (by decide) (by decide) (by decide)
  obtain ⟨sc, g104⟩ : ∃ nm_, nm_ = h89.size := ⟨_, rfl⟩
  rw [← g104] at A104 st104
  have ne_f_sc : f ≠ sc := Nat.ne_of_lt (Nat.lt_of_lt_of_le f90.lt (Nat.le_of_eq g104.symm))
  have ne_ca_sc : ca ≠ sc := Nat.ne_of_lt (Nat.lt_of_lt_of_le f92.lt (Nat.le_of_eq g104.symm))
  have ne_ta_sc : ta ≠ sc := Nat.ne_of_lt (Nat.lt_of_lt_of_le f94.lt (Nat.le_of_eq g104.symm))
  have ne_le_sc : le ≠ sc := Nat.ne_of_lt (Nat.lt_of_lt_of_le f96.lt (Nat.le_of_eq g104.symm))
  have ne_ld_sc : ld ≠ sc := Nat.ne_of_lt (Nat.lt_of_lt_of_le f98.lt (Nat.le_of_eq g104.symm))
  have g_sc : n0 ≤ sc := Nat.le_trans z99 (Nat.le_of_eq g104.symm)
  have sz_sc : h0.size ≤ sc := Nat.le_trans K100.1 (Nat.le_of_eq g104.symm)
  have pre104 : Rch p.tables e below (s₁.setTop (entryFrame m #[(.ref f), (.int z)] 2)) (T104.setTop (mkF m 39 #[.val (.ref f), .val (.int z)] [(.ref sc), (.ref f)])) := fun tgt ktg => pre103 tgt (st104 tgt ktg)
  have f105 : Exa Z h104 f "com/example/prudent_spot/prudentspot/placement/Fleet" := f90.ext E104
  have f106 : Fld Z h104 f "com/example/prudent_spot/prudentspot/placement/Fleet" "sinceChange" "[Ljava/time/Duration;" .null := f91.ext E104
  have f107 : Arv Z h104 ca k4 .int z [(.int (0 : Int32)), (.int (0 : Int32)), (.int (0 : Int32)), (.int (0 : Int32))] (.int (0 : Int32)) := f92.ext E104
  have f108 : Fld Z h104 f "com/example/prudent_spot/prudentspot/placement/Fleet" "cores" "[I" (.ref ca) := f93.ext E104
  have f109 : Arv Z h104 ta k26 .int z [(.int (0 : Int32)), (.int (0 : Int32)), (.int (0 : Int32)), (.int (0 : Int32))] (.int (0 : Int32)) := f94.ext E104
  have f110 : Fld Z h104 f "com/example/prudent_spot/prudentspot/placement/Fleet" "taken" "[I" (.ref ta) := f95.ext E104
  have f111 : Arv Z h104 le k50 (.object "java/time/Instant") z [.null, .null, .null, .null] .null := f96.ext E104
  have f112 : Fld Z h104 f "com/example/prudent_spot/prudentspot/placement/Fleet" "lastEvent" "[Ljava/time/Instant;" (.ref le) := f97.ext E104
  have f113 : Arv Z h104 ld k76 (.object "com/example/prudent_spot/prudentspot/capacity/Direction") z [.null, .null, .null, .null] .null := f98.ext E104
  have f114 : Fld Z h104 f "com/example/prudent_spot/prudentspot/placement/Fleet" "lastDirection" "[Lcom/example/prudent_spot/prudentspot/capacity/Direction;" (.ref ld) := f101.ext E104
  have z115 : n0 ≤ h104.size := Nat.le_trans z99 E104.1
  have K116 : Keep h0 h104 [f] := K100.ext E104
  have f117 : Arv Z h104 sc k104 (.object "java/time/Duration") z [.null, .null, .null, .null] .null := (Arv.new A104 hz).pad (pad_rep [] .null 4)
  obtain ⟨T118, h118, X118, e118, W118, st118⟩ := putF X104 hx hZ hown (host := "") (Or.inl (hw _ (List.mem_of_getElem? (i := 28) rfl))) Via.refl e104 f106 f105 (Or.inr ⟨(hw _ (List.mem_of_getElem? (i := 29) rfl)), rfl, hnm⟩) (hw _ (List.mem_of_getElem? (i := 5) rfl)) (ty := (.array (.object "java/time/Duration"))) (by decide) rfl rfl (g := (mkF m 39 #[.val (.ref f), .val (.int z)] [(.ref sc), (.ref f)])) rfl rfl (hb hby d1_39)
  have pre118 : Rch p.tables e below (s₁.setTop (entryFrame m #[(.ref f), (.int z)] 2)) (T118.setTop (mkF m 42 #[.val (.ref f), .val (.int z)] [])) := fun tgt ktg => pre104 tgt (st118 tgt ktg)
  have f119 : Exa Z h118 f "com/example/prudent_spot/prudentspot/placement/Fleet" := f105.wr W118
  have f120 : Arv Z h118 ca k4 .int z [(.int (0 : Int32)), (.int (0 : Int32)), (.int (0 : Int32)), (.int (0 : Int32))] (.int (0 : Int32)) := f107.other W118 (Ne.symm ne_f_ca)
  have f121 : Fld Z h118 f "com/example/prudent_spot/prudentspot/placement/Fleet" "cores" "[I" (.ref ca) := f108.other W118 (Or.inr (slot_ne (Or.inr (hw _ (List.mem_of_getElem? (i := 15) rfl))) (Or.inr (hw _ (List.mem_of_getElem? (i := 29) rfl))) (by decide) (t := (.array .int)) (t' := (.array (.object "java/time/Duration"))) (by decide) (by decide)))
  have f122 : Arv Z h118 ta k26 .int z [(.int (0 : Int32)), (.int (0 : Int32)), (.int (0 : Int32)), (.int (0 : Int32))] (.int (0 : Int32)) := f109.other W118 (Ne.symm ne_f_ta)
  have f123 : Fld Z h118 f "com/example/prudent_spot/prudentspot/placement/Fleet" "taken" "[I" (.ref ta) := f110.other W118 (Or.inr (slot_ne (Or.inr (hw _ (List.mem_of_getElem? (i := 17) rfl))) (Or.inr (hw _ (List.mem_of_getElem? (i := 29) rfl))) (by decide) (t := (.array .int)) (t' := (.array (.object "java/time/Duration"))) (by decide) (by decide)))
  have f124 : Arv Z h118 le k50 (.object "java/time/Instant") z [.null, .null, .null, .null] .null := f111.other W118 (Ne.symm ne_f_le)
  have f125 : Fld Z h118 f "com/example/prudent_spot/prudentspot/placement/Fleet" "lastEvent" "[Ljava/time/Instant;" (.ref le) := f112.other W118 (Or.inr (slot_ne (Or.inr (hw _ (List.mem_of_getElem? (i := 21) rfl))) (Or.inr (hw _ (List.mem_of_getElem? (i := 29) rfl))) (by decide) (t := (.array (.object "java/time/Instant"))) (t' := (.array (.object "java/time/Duration"))) (by decide) (by decide)))
  have f126 : Arv Z h118 ld k76 (.object "com/example/prudent_spot/prudentspot/capacity/Direction") z [.null, .null, .null, .null] .null := f113.other W118 (Ne.symm ne_f_ld)
  have f127 : Fld Z h118 f "com/example/prudent_spot/prudentspot/placement/Fleet" "lastDirection" "[Lcom/example/prudent_spot/prudentspot/capacity/Direction;" (.ref ld) := f114.other W118 (Or.inr (slot_ne (Or.inr (hw _ (List.mem_of_getElem? (i := 25) rfl))) (Or.inr (hw _ (List.mem_of_getElem? (i := 29) rfl))) (by decide) (t := (.array (.object "com/example/prudent_spot/prudentspot/capacity/Direction"))) (t' := (.array (.object "java/time/Duration"))) (by decide) (by decide)))
  have f128 : Arv Z h118 sc k104 (.object "java/time/Duration") z [.null, .null, .null, .null] .null := f117.other W118 (Ne.symm ne_f_sc)
  have z129 : n0 ≤ h118.size := Nat.le_trans z115 (Keep.of_wr W118).1
  have K130 : Keep h0 h118 [f] := K116.wr W118 (Or.inl (List.mem_of_getElem? (i := 0) rfl))
  have f131 : Fld Z h118 f "com/example/prudent_spot/prudentspot/placement/Fleet" "sinceChange" "[Ljava/time/Duration;" (.ref sc) := f106.same W118
  have N132 := Fr.snoc X118 N102 gf
  obtain ⟨fs, hr, hrun, hended, hW, hsame⟩ := X118.leave (v := none) (fun _ => rfl)
  refine ⟨_, _, pre118 _ ?_, hrun, hended, _, _, rfl, ?_, ⟨_, rfl⟩, hW, hsame.mono (by decide) (by decide)⟩
  · show Steps p.tables e below (T118.setTop (mkF m 42 #[.val (.ref f), .val (.int z)] [])) _
    exact X118.returnOut hx Bd.returns (hb hby d1_42) hr
  · show Q1 Z f z h0 n0 _ T118.heap _
    rw [e118]
    exact ⟨ca, ta, le, ld, k4, k26, k50, k76, rfl, N132, K130, f119, f121, f123, f125, f127, f120, f122, f124, f126, O76, g_ca, g_ta, g_le, g_ld, sz_ca, sz_ta, sz_le, sz_ld, ne_f_ca, ne_f_ta, ne_f_le, ne_f_ld, ne_ca_ta, ne_ca_le, ne_ca_ld, ne_ta_le, ne_ta_ld, ne_le_ld⟩
theorem d3_0 : decode prog_16_method_7_code 0 = .ok (.aload_n 0, 1) := by decide +kernel
theorem d3_1 : decode prog_16_method_7_code 1 = .ok (.getfield 7, 3) := by decide +kernel
theorem d3_4 : decode prog_16_method_7_code 4 = .ok (.iload_n 1, 1) := by decide +kernel
theorem d3_5 : decode prog_16_method_7_code 5 = .ok (.iaload, 1) := by decide +kernel
theorem d3_6 : decode prog_16_method_7_code 6 = .ok (.aload_n 0, 1) := by decide +kernel
theorem d3_7 : decode prog_16_method_7_code 7 = .ok (.getfield 13, 3) := by decide +kernel
theorem d3_10 : decode prog_16_method_7_code 10 = .ok (.iload_n 1, 1) := by decide +kernel
theorem d3_11 : decode prog_16_method_7_code 11 = .ok (.iaload, 1) := by decide +kernel
theorem d3_12 : decode prog_16_method_7_code 12 = .ok (.isub, 1) := by decide +kernel
theorem d3_13 : decode prog_16_method_7_code 13 = .ok (.ireturn, 1) := by decide +kernel
theorem ef_3 (m : MethodId) (x0 : Addr) (x1 : Int32) : entryFrame m #[(.ref x0), (.int x1)] 2 = mkF m 0 #[.val (.ref x0), .val (.int x1)] [] := by first | (simp [entryFrame, mkF, argsToLocals, Value.category]; done) | rfl
def Q3 (Z : State) (f : Addr) (j : Int32) (ca ta : Addr) (kc kt : ClassId) (z xv yv : Int32) (vc vt : List Value) (h0 : Heap) (n0 : Nat) (v : Option Value) (h : Heap) (L : List Loc) : Prop := v = some (.int (xv - yv)) ∧ Fr n0 L ∧ h = h0
set_option maxRecDepth 65536 in
set_option maxHeartbeats 40000000 in
theorem rm3 (l : Launch) (Z : State) (a0 : Array Value) (hw : ∀ d ∈ tables_1, d.before a0 Z = true) (ws : List Jvm.Cond) (f : Addr) (j : Int32) (ca ta : Addr) (kc kt : ClassId) (z xv yv : Int32) (vc vt : List Value) (h0 : Heap) (n0 : Nat) (Z0 : n0 ≤ h0.size) (F1 : Fld Z h0 f "com/example/prudent_spot/prudentspot/placement/Fleet" "cores" "[I" (.ref ca)) (F2 : Fld Z h0 f "com/example/prudent_spot/prudentspot/placement/Fleet" "taken" "[I" (.ref ta)) (A1 : Arv Z h0 ca kc .int z vc (.int (0 : Int32))) (A2 : Arv Z h0 ta kt .int z vt (.int (0 : Int32))) (hj : ¬ j < 0 ∧ j < z) (hx1 : vc.getD j.toNatClampNeg (.int (0 : Int32)) = .int xv) (hy1 : vt.getD j.toNatClampNeg (.int (0 : Int32)) = .int yv) :
    MetFree l (⟨"com/example/prudent_spot/prudentspot/placement/Fleet", "freeCores", "(I)I"⟩ : MethodName) (head1 (Jvm.Cond.code (⟨"com/example/prudent_spot/prudentspot/placement/Fleet", "freeCores", "(I)I"⟩ : MethodName) prog_16_method_7_code 2 (some .int) :: ws) ({ frames := 0, cells := 0, slots := 0, locals := 0 } : Room)) (fun aA U => aA = #[(.ref f), (.int j)] ∧ Z.Warmed39 U.vm ∧ U.heap = h0) (fun _ _ _ _ _ => True) (fun _ U oO U' => ∃ vV LL, oO = .returned vV ∧ Q3 Z f j ca ta kc kt z xv yv vc vt h0 n0 vV U'.heap LL ∧ FrameEnd U oO U' LL ({ frames := 0, cells := 0, slots := 0, locals := 0 } : Room).cells ({ frames := 0, cells := 0, slots := 0, locals := 0 } : Room).slots) := by
  refine MetFree.of_bodySF (plainFor_of_name pn_0) hisR ?_
  intro p e s m args below meth c s₁ Bd hml0 hP hK
  obtain ⟨rfl, hZ, hh⟩ := hP
  have hx := Bd.exec
  have hby := Bd.bytes
  have hml : c.maxLocals = 2 := hml0
  have hown : s.vm.findClass "com/example/prudent_spot/prudentspot/placement/Fleet" = some m.cls := findClass_of_methodNamed Bd.named
  have hnm := (name_of_methodNamed Bd.named Bd.method).1
  have X0 : Stand p l e ({ frames := 0, cells := 0, slots := 0, locals := 0 } : Room) s m #[(.ref f), (.int j)] below meth c s₁ [] 0 0 := Stand.of_body Bd
  have e0 : s₁.heap = h0 := by rw [← hh, Bd.state]; rfl
  have N0 := Fr.nil n0
  have K0 : Keep h0 h0 [] := Keep.refl _ _
  have pre0 : Rch p.tables e below (s₁.setTop (entryFrame m #[(.ref f), (.int j)] 2)) (s₁.setTop (mkF m 0 #[.val (.ref f), .val (.int j)] [])) := fun tgt ktg => castTop (ef_3 m f j) ktg
  have pre1 : Rch p.tables e below (s₁.setTop (entryFrame m #[(.ref f), (.int j)] 2)) (s₁.setTop (mkF m 1 #[.val (.ref f), .val (.int j)] [(.ref f)])) := fun tgt ktg => pre0 tgt (by
    show Steps p.tables e below (s₁.setTop (mkF m 0 #[.val (.ref f), .val (.int j)] [])) _
    refine XS.aloadN X0.here hx rfl (hb hby d3_0) rfl rfl ?_
    exact ktg)
  obtain ⟨T2, X2, e2, st2⟩ := getF X0 hx hZ hown (host := "") (Or.inl (hw _ (List.mem_of_getElem? (i := 14) rfl))) Via.refl e0 F1 (g := (mkF m 1 #[.val (.ref f), .val (.int j)] [(.ref f)])) rfl rfl (hb hby d3_1)
  have pre2 : Rch p.tables e below (s₁.setTop (entryFrame m #[(.ref f), (.int j)] 2)) (T2.setTop (mkF m 4 #[.val (.ref f), .val (.int j)] [(.ref ca)])) := fun tgt ktg => pre1 tgt (st2 tgt ktg)
  have pre3 : Rch p.tables e below (s₁.setTop (entryFrame m #[(.ref f), (.int j)] 2)) (T2.setTop (mkF m 5 #[.val (.ref f), .val (.int j)] [(.int j), (.ref ca)])) := fun tgt ktg => pre2 tgt (by
    show Steps p.tables e below (T2.setTop (mkF m 4 #[.val (.ref f), .val (.int j)] [(.ref ca)])) _
    refine XS.iloadN X2.here hx rfl (hb hby d3_4) rfl ?_
    exact ktg)
  obtain ⟨cl_4, Ar_4, q_4, S_4, N_4, H_4, G_4⟩ := id A1
  have hin_4 : ¬ (j < 0 ∨ cl_4.slots.size ≤ (j).toNatClampNeg) := inb_of S_4 hj
  have hat_4 : cl_4.slots[(j).toNatClampNeg]? = some (.int xv) := H_4.at hin_4 hx1
  have pre5 : Rch p.tables e below (s₁.setTop (entryFrame m #[(.ref f), (.int j)] 2)) (T2.setTop (mkF m 6 #[.val (.ref f), .val (.int j)] [(.int xv)])) := fun tgt ktg => pre3 tgt (X2.iaload hx (j := j) (v := (.int xv)) (by rw [e2]; exact Ar_4.1) (State.isArrayOf_alike hZ.alike Ar_4.2.1) Ar_4.2.2 hin_4 hat_4 (g := (mkF m 5 #[.val (.ref f), .val (.int j)] [(.int j), (.ref ca)])) rfl rfl (hb hby d3_5) _ ktg)
  have pre6 : Rch p.tables e below (s₁.setTop (entryFrame m #[(.ref f), (.int j)] 2)) (T2.setTop (mkF m 7 #[.val (.ref f), .val (.int j)] [(.ref f), (.int xv)])) := fun tgt ktg => pre5 tgt (by
    show Steps p.tables e below (T2.setTop (mkF m 6 #[.val (.ref f), .val (.int j)] [(.int xv)])) _
    refine XS.aloadN X2.here hx rfl (hb hby d3_6) rfl rfl ?_
    exact ktg)
  obtain ⟨T7, X7, e7, st7⟩ := getF X2 hx hZ hown (host := "") (Or.inl (hw _ (List.mem_of_getElem? (i := 16) rfl))) Via.refl e2 F2 (g := (mkF m 7 #[.val (.ref f), .val (.int j)] [(.ref f), (.int xv)])) rfl rfl (hb hby d3_7)
  have pre7 : Rch p.tables e below (s₁.setTop (entryFrame m #[(.ref f), (.int j)] 2)) (T7.setTop (mkF m 10 #[.val (.ref f), .val (.int j)] [(.ref ta), (.int xv)])) := fun tgt ktg => pre6 tgt (st7 tgt ktg)
  have pre8 : Rch p.tables e below (s₁.setTop (entryFrame m #[(.ref f), (.int j)] 2)) (T7.setTop (mkF m 11 #[.val (.ref f), .val (.int j)] [(.int j), (.ref ta), (.int xv)])) := fun tgt ktg => pre7 tgt (by
    show Steps p.tables e below (T7.setTop (mkF m 10 #[.val (.ref f), .val (.int j)] [(.ref ta), (.int xv)])) _
    refine XS.iloadN X7.here hx rfl (hb hby d3_10) rfl ?_
    exact ktg)
  obtain ⟨cl_9, Ar_9, q_9, S_9, N_9, H_9, G_9⟩ := id A2
  have hin_9 : ¬ (j < 0 ∨ cl_9.slots.size ≤ (j).toNatClampNeg) := inb_of S_9 hj
  have hat_9 : cl_9.slots[(j).toNatClampNeg]? = some (.int yv) := H_9.at hin_9 hy1
  have pre10 : Rch p.tables e below (s₁.setTop (entryFrame m #[(.ref f), (.int j)] 2)) (T7.setTop (mkF m 12 #[.val (.ref f), .val (.int j)] [(.int yv), (.int xv)])) := fun tgt ktg => pre8 tgt (X7.iaload hx (j := j) (v := (.int yv)) (by rw [e7]; exact Ar_9.1) (State.isArrayOf_alike hZ.alike Ar_9.2.1) Ar_9.2.2 hin_9 hat_9 (g := (mkF m 11 #[.val (.ref f), .val (.int j)] [(.int j), (.ref ta), (.int xv)])) rfl rfl (hb hby d3_11) _ ktg)
  have pre11 : Rch p.tables e below (s₁.setTop (entryFrame m #[(.ref f), (.int j)] 2)) (T7.setTop (mkF m 13 #[.val (.ref f), .val (.int j)] [(.int (xv - yv))])) := fun tgt ktg => pre10 tgt (by
    show Steps p.tables e below (T7.setTop (mkF m 12 #[.val (.ref f), .val (.int j)] [(.int yv), (.int xv)])) _
    refine XS.isub X7.here hx rfl (hb hby d3_12) rfl ?_
    exact ktg)
  obtain ⟨fs, hr, hrun, hended, hW, hsame⟩ := X7.leave (v := some (.int (xv - yv))) (fun h => by rw [Bd.returns] at h; cases h)
  refine ⟨_, _, pre11 _ ?_, hrun, hended, _, _, rfl, ?_, ⟨_, rfl⟩, hW, hsame.mono (by decide) (by decide)⟩
  · show Steps p.tables e below (T7.setTop (mkF m 13 #[.val (.ref f), .val (.int j)] [(.int (xv - yv))])) _
    exact retI X7 hx Bd.returns (hb hby d3_13) hr
  · show Q3 Z f j ca ta kc kt z xv yv vc vt h0 n0 _ T7.heap _
    rw [e7]
    exact ⟨rfl, N0, rfl⟩
theorem d5_0 : decode prog_16_method_5_code 0 = .ok (.aload_n 0, 1) := by decide +kernel
theorem d5_1 : decode prog_16_method_5_code 1 = .ok (.getfield 13, 3) := by decide +kernel
theorem d5_4 : decode prog_16_method_5_code 4 = .ok (.iload_n 1, 1) := by decide +kernel
theorem d5_5 : decode prog_16_method_5_code 5 = .ok (.dup2, 1) := by decide +kernel
theorem d5_6 : decode prog_16_method_5_code 6 = .ok (.iaload, 1) := by decide +kernel
theorem d5_7 : decode prog_16_method_5_code 7 = .ok (.iload_n 2, 1) := by decide +kernel
theorem d5_8 : decode prog_16_method_5_code 8 = .ok (.iadd, 1) := by decide +kernel
theorem d5_9 : decode prog_16_method_5_code 9 = .ok (.iastore, 1) := by decide +kernel
theorem d5_10 : decode prog_16_method_5_code 10 = .ok (.return_, 1) := by decide +kernel
theorem ef_5 (m : MethodId) (x0 : Addr) (x1 : Int32) (x2 : Int32) : entryFrame m #[(.ref x0), (.int x1), (.int x2)] 3 = mkF m 0 #[.val (.ref x0), .val (.int x1), .val (.int x2)] [] := by first | (simp [entryFrame, mkF, argsToLocals, Value.category]; done) | rfl
def Q5 (Z : State) (f : Addr) (j : Int32) (q : Int32) (ta : Addr) (kt : ClassId) (z yv : Int32) (vt : List Value) (h0 : Heap) (n0 : Nat) (v : Option Value) (h : Heap) (L : List Loc) : Prop := v = none ∧ Fr n0 L ∧ Keep h0 h [ta] ∧ Arv Z h ta kt .int z (vt.set j.toNatClampNeg (.int (yv + q))) (.int (0 : Int32))
set_option maxRecDepth 65536 in
set_option maxHeartbeats 40000000 in
theorem rm5 (l : Launch) (Z : State) (a0 : Array Value) (hw : ∀ d ∈ tables_1, d.before a0 Z = true) (ws : List Jvm.Cond) (f : Addr) (j : Int32) (q : Int32) (ta : Addr) (kt : ClassId) (z yv : Int32) (vt : List Value) (h0 : Heap) (n0 : Nat) (Z0 : n0 ≤ h0.size) (F2 : Fld Z h0 f "com/example/prudent_spot/prudentspot/placement/Fleet" "taken" "[I" (.ref ta)) (A2 : Arv Z h0 ta kt .int z vt (.int (0 : Int32))) (hj : ¬ j < 0 ∧ j < z) (hy1 : vt.getD j.toNatClampNeg (.int (0 : Int32)) = .int yv) (hl : j.toNatClampNeg < vt.length) (gt : n0 ≤ ta) (nft : f ≠ ta) :
    MetFree l (⟨"com/example/prudent_spot/prudentspot/placement/Fleet", "take", "(II)V"⟩ : MethodName) (head1 (Jvm.Cond.code (⟨"com/example/prudent_spot/prudentspot/placement/Fleet", "take", "(II)V"⟩ : MethodName) prog_16_method_5_code 3 none :: ws) ({ frames := 0, cells := 0, slots := 0, locals := 0 } : Room)) (fun aA U => aA = #[(.ref f), (.int j), (.int q)] ∧ Z.Warmed39 U.vm ∧ U.heap = h0) (fun _ _ _ _ _ => True) (fun _ U oO U' => ∃ vV LL, oO = .returned vV ∧ Q5 Z f j q ta kt z yv vt h0 n0 vV U'.heap LL ∧ FrameEnd U oO U' LL ({ frames := 0, cells := 0, slots := 0, locals := 0 } : Room).cells ({ frames := 0, cells := 0, slots := 0, locals := 0 } : Room).slots) := by
  refine MetFree.of_bodySF (plainFor_of_name pn_0) hisR ?_
  intro p e s m args below meth c s₁ Bd hml0 hP hK
  obtain ⟨rfl, hZ, hh⟩ := hP
  have hx := Bd.exec
  have hby := Bd.bytes
  have hml : c.maxLocals = 3 := hml0
  have hown : s.vm.findClass "com/example/prudent_spot/prudentspot/placement/Fleet" = some m.cls := findClass_of_methodNamed Bd.named
  have hnm := (name_of_methodNamed Bd.named Bd.method).1
  have X0 : Stand p l e ({ frames := 0, cells := 0, slots := 0, locals := 0 } : Room) s m #[(.ref f), (.int j), (.int q)] below meth c s₁ [] 0 0 := Stand.of_body Bd
  have e0 : s₁.heap = h0 := by rw [← hh, Bd.state]; rfl
  have N0 := Fr.nil n0
  have K0 : Keep h0 h0 [ta] := Keep.refl _ _
  have pre0 : Rch p.tables e below (s₁.setTop (entryFrame m #[(.ref f), (.int j), (.int q)] 3)) (s₁.setTop (mkF m 0 #[.val (.ref f), .val (.int j), .val (.int q)] [])) := fun tgt ktg => castTop (ef_5 m f j q) ktg
  have pre1 : Rch p.tables e below (s₁.setTop (entryFrame m #[(.ref f), (.int j), (.int q)] 3)) (s₁.setTop (mkF m 1 #[.val (.ref f), .val (.int j), .val (.int q)] [(.ref f)])) := fun tgt ktg => pre0 tgt (by
    show Steps p.tables e below (s₁.setTop (mkF m 0 #[.val (.ref f), .val (.int j), .val (.int q)] [])) _
    refine XS.aloadN X0.here hx rfl (hb hby d5_0) rfl rfl ?_
    exact ktg)
  obtain ⟨T2, X2, e2, st2⟩ := getF X0 hx hZ hown (host := "") (Or.inl (hw _ (List.mem_of_getElem? (i := 16) rfl))) Via.refl e0 F2 (g := (mkF m 1 #[.val (.ref f), .val (.int j), .val (.int q)] [(.ref f)])) rfl rfl (hb hby d5_1)
  have pre2 : Rch p.tables e below (s₁.setTop (entryFrame m #[(.ref f), (.int j), (.int q)] 3)) (T2.setTop (mkF m 4 #[.val (.ref f), .val (.int j), .val (.int q)] [(.ref ta)])) := fun tgt ktg => pre1 tgt (st2 tgt ktg)
  have pre3 : Rch p.tables e below (s₁.setTop (entryFrame m #[(.ref f), (.int j), (.int q)] 3)) (T2.setTop (mkF m 6 #[.val (.ref f), .val (.int j), .val (.int q)] [(.int j), (.ref ta), (.int j), (.ref ta)])) := fun tgt ktg => pre2 tgt (by
    show Steps p.tables e below (T2.setTop (mkF m 4 #[.val (.ref f), .val (.int j), .val (.int q)] [(.ref ta)])) _
    refine XS.iloadN X2.here hx rfl (hb hby d5_4) rfl ?_
    show Steps p.tables e below (T2.setTop (mkF m 5 #[.val (.ref f), .val (.int j), .val (.int q)] [(.int j), (.ref ta)])) _
    refine XT.dup2 X2.here hx rfl (hb hby d5_5) rfl rfl rfl ?_
    exact ktg)
  obtain ⟨cl_4, Ar_4, q_4, S_4, N_4, H_4, G_4⟩ := id A2
  have hin_4 : ¬ (j < 0 ∨ cl_4.slots.size ≤ (j).toNatClampNeg) := inb_of S_4 hj
  have hat_4 : cl_4.slots[(j).toNatClampNeg]? = some (.int yv) := H_4.at hin_4 hy1
  have pre5 : Rch p.tables e below (s₁.setTop (entryFrame m #[(.ref f), (.int j), (.int q)] 3)) (T2.setTop (mkF m 7 #[.val (.ref f), .val (.int j), .val (.int q)] [(.int yv), (.int j), (.ref ta)])) := fun tgt ktg => pre3 tgt (X2.iaload hx (j := j) (v := (.int yv)) (by rw [e2]; exact Ar_4.1) (State.isArrayOf_alike hZ.alike Ar_4.2.1) Ar_4.2.2 hin_4 hat_4 (g := (mkF m 6 #[.val (.ref f), .val (.int j), .val (.int q)] [(.int j), (.ref ta), (.int j), (.ref ta)])) rfl rfl (hb hby d5_6) _ ktg)
  have pre6 : Rch p.tables e below (s₁.setTop (entryFrame m #[(.ref f), (.int j), (.int q)] 3)) (T2.setTop (mkF m 9 #[.val (.ref f), .val (.int j), .val (.int q)] [(.int (yv + q)), (.int j), (.ref ta)])) := fun tgt ktg => pre5 tgt (by
    show Steps p.tables e below (T2.setTop (mkF m 7 #[.val (.ref f), .val (.int j), .val (.int q)] [(.int yv), (.int j), (.ref ta)])) _
    refine XS.iloadN X2.here hx rfl (hb hby d5_7) rfl ?_
    show Steps p.tables e below (T2.setTop (mkF m 8 #[.val (.ref f), .val (.int j), .val (.int q)] [(.int q), (.int yv), (.int j), (.ref ta)])) _
    refine XS.iadd X2.here hx rfl (hb hby d5_8) rfl ?_
    exact ktg)
  obtain ⟨cl_7, Ar_7, q_7, S_7, N_7, H_7, G_7⟩ := id A2
  have hin_7 : ¬ (j < 0 ∨ cl_7.slots.size ≤ (j).toNatClampNeg) := inb_of S_7 hj
  obtain ⟨T8, h8, X8, e8, W8, st8⟩ := stI X2 hx hZ e2 Ar_7 (j := j) hin_7 (g := (mkF m 9 #[.val (.ref f), .val (.int j), .val (.int q)] [(.int (yv + q)), (.int j), (.ref ta)])) rfl rfl (hb hby d5_9)
  have pre8 : Rch p.tables e below (s₁.setTop (entryFrame m #[(.ref f), (.int j), (.int q)] 3)) (T8.setTop (mkF m 10 #[.val (.ref f), .val (.int j), .val (.int q)] [])) := fun tgt ktg => pre6 tgt (st8 tgt ktg)
  have f9 : Fld Z h8 f "com/example/prudent_spot/prudentspot/placement/Fleet" "taken" "[I" (.ref ta) := F2.other W8 (Or.inl nft)
  have z10 : n0 ≤ h8.size := Nat.le_trans Z0 (Keep.of_wr W8).1
  have K11 : Keep h0 h8 [ta] := K0.wr W8 (Or.inl (List.mem_of_getElem? (i := 0) rfl))
  have f12 : Arv Z h8 ta kt .int z (vt.set j.toNatClampNeg (.int (yv + q))) (.int (0 : Int32)) := Arv.set Ar_7 q_7 S_7 N_7 H_7 G_7 rfl W8 j.toNatClampNeg rfl hl
  have N13 := Fr.snoc X8 N0 gt
  obtain ⟨fs, hr, hrun, hended, hW, hsame⟩ := X8.leave (v := none) (fun _ => rfl)
  refine ⟨_, _, pre8 _ ?_, hrun, hended, _, _, rfl, ?_, ⟨_, rfl⟩, hW, hsame.mono (by decide) (by decide)⟩
  · show Steps p.tables e below (T8.setTop (mkF m 10 #[.val (.ref f), .val (.int j), .val (.int q)] [])) _
    exact X8.returnOut hx Bd.returns (hb hby d5_10) hr
  · show Q5 Z f j q ta kt z yv vt h0 n0 _ T8.heap _
    rw [e8]
    exact ⟨rfl, N13, K11, f12⟩
theorem d6_0 : decode prog_16_method_6_code 0 = .ok (.aload_n 0, 1) := by decide +kernel
theorem d6_1 : decode prog_16_method_6_code 1 = .ok (.getfield 13, 3) := by decide +kernel
theorem d6_4 : decode prog_16_method_6_code 4 = .ok (.iload_n 1, 1) := by decide +kernel
theorem d6_5 : decode prog_16_method_6_code 5 = .ok (.dup2, 1) := by decide +kernel
theorem d6_6 : decode prog_16_method_6_code 6 = .ok (.iaload, 1) := by decide +kernel
theorem d6_7 : decode prog_16_method_6_code 7 = .ok (.iload_n 2, 1) := by decide +kernel
theorem d6_8 : decode prog_16_method_6_code 8 = .ok (.isub, 1) := by decide +kernel
theorem d6_9 : decode prog_16_method_6_code 9 = .ok (.iastore, 1) := by decide +kernel
theorem d6_10 : decode prog_16_method_6_code 10 = .ok (.return_, 1) := by decide +kernel
theorem ef_6 (m : MethodId) (x0 : Addr) (x1 : Int32) (x2 : Int32) : entryFrame m #[(.ref x0), (.int x1), (.int x2)] 3 = mkF m 0 #[.val (.ref x0), .val (.int x1), .val (.int x2)] [] := by first | (simp [entryFrame, mkF, argsToLocals, Value.category]; done) | rfl
def Q6 (Z : State) (f : Addr) (j : Int32) (q : Int32) (ta : Addr) (kt : ClassId) (z yv : Int32) (vt : List Value) (h0 : Heap) (n0 : Nat) (v : Option Value) (h : Heap) (L : List Loc) : Prop := v = none ∧ Fr n0 L ∧ Keep h0 h [ta] ∧ Arv Z h ta kt .int z (vt.set j.toNatClampNeg (.int (yv - q))) (.int (0 : Int32))
set_option maxRecDepth 65536 in
set_option maxHeartbeats 40000000 in
theorem rm6 (l : Launch) (Z : State) (a0 : Array Value) (hw : ∀ d ∈ tables_1, d.before a0 Z = true) (ws : List Jvm.Cond) (f : Addr) (j : Int32) (q : Int32) (ta : Addr) (kt : ClassId) (z yv : Int32) (vt : List Value) (h0 : Heap) (n0 : Nat) (Z0 : n0 ≤ h0.size) (F2 : Fld Z h0 f "com/example/prudent_spot/prudentspot/placement/Fleet" "taken" "[I" (.ref ta)) (A2 : Arv Z h0 ta kt .int z vt (.int (0 : Int32))) (hj : ¬ j < 0 ∧ j < z) (hy1 : vt.getD j.toNatClampNeg (.int (0 : Int32)) = .int yv) (hl : j.toNatClampNeg < vt.length) (gt : n0 ≤ ta) (nft : f ≠ ta) :
    MetFree l (⟨"com/example/prudent_spot/prudentspot/placement/Fleet", "release", "(II)V"⟩ : MethodName) (head1 (Jvm.Cond.code (⟨"com/example/prudent_spot/prudentspot/placement/Fleet", "release", "(II)V"⟩ : MethodName) prog_16_method_6_code 3 none :: ws) ({ frames := 0, cells := 0, slots := 0, locals := 0 } : Room)) (fun aA U => aA = #[(.ref f), (.int j), (.int q)] ∧ Z.Warmed39 U.vm ∧ U.heap = h0) (fun _ _ _ _ _ => True) (fun _ U oO U' => ∃ vV LL, oO = .returned vV ∧ Q6 Z f j q ta kt z yv vt h0 n0 vV U'.heap LL ∧ FrameEnd U oO U' LL ({ frames := 0, cells := 0, slots := 0, locals := 0 } : Room).cells ({ frames := 0, cells := 0, slots := 0, locals := 0 } : Room).slots) := by
  refine MetFree.of_bodySF (plainFor_of_name pn_0) hisR ?_
  intro p e s m args below meth c s₁ Bd hml0 hP hK
  obtain ⟨rfl, hZ, hh⟩ := hP
  have hx := Bd.exec
  have hby := Bd.bytes
  have hml : c.maxLocals = 3 := hml0
  have hown : s.vm.findClass "com/example/prudent_spot/prudentspot/placement/Fleet" = some m.cls := findClass_of_methodNamed Bd.named
  have hnm := (name_of_methodNamed Bd.named Bd.method).1
  have X0 : Stand p l e ({ frames := 0, cells := 0, slots := 0, locals := 0 } : Room) s m #[(.ref f), (.int j), (.int q)] below meth c s₁ [] 0 0 := Stand.of_body Bd
  have e0 : s₁.heap = h0 := by rw [← hh, Bd.state]; rfl
  have N0 := Fr.nil n0
  have K0 : Keep h0 h0 [ta] := Keep.refl _ _
  have pre0 : Rch p.tables e below (s₁.setTop (entryFrame m #[(.ref f), (.int j), (.int q)] 3)) (s₁.setTop (mkF m 0 #[.val (.ref f), .val (.int j), .val (.int q)] [])) := fun tgt ktg => castTop (ef_6 m f j q) ktg
  have pre1 : Rch p.tables e below (s₁.setTop (entryFrame m #[(.ref f), (.int j), (.int q)] 3)) (s₁.setTop (mkF m 1 #[.val (.ref f), .val (.int j), .val (.int q)] [(.ref f)])) := fun tgt ktg => pre0 tgt (by
    show Steps p.tables e below (s₁.setTop (mkF m 0 #[.val (.ref f), .val (.int j), .val (.int q)] [])) _
    refine XS.aloadN X0.here hx rfl (hb hby d6_0) rfl rfl ?_
    exact ktg)
  obtain ⟨T2, X2, e2, st2⟩ := getF X0 hx hZ hown (host := "") (Or.inl (hw _ (List.mem_of_getElem? (i := 16) rfl))) Via.refl e0 F2 (g := (mkF m 1 #[.val (.ref f), .val (.int j), .val (.int q)] [(.ref f)])) rfl rfl (hb hby d6_1)
  have pre2 : Rch p.tables e below (s₁.setTop (entryFrame m #[(.ref f), (.int j), (.int q)] 3)) (T2.setTop (mkF m 4 #[.val (.ref f), .val (.int j), .val (.int q)] [(.ref ta)])) := fun tgt ktg => pre1 tgt (st2 tgt ktg)
  have pre3 : Rch p.tables e below (s₁.setTop (entryFrame m #[(.ref f), (.int j), (.int q)] 3)) (T2.setTop (mkF m 6 #[.val (.ref f), .val (.int j), .val (.int q)] [(.int j), (.ref ta), (.int j), (.ref ta)])) := fun tgt ktg => pre2 tgt (by
    show Steps p.tables e below (T2.setTop (mkF m 4 #[.val (.ref f), .val (.int j), .val (.int q)] [(.ref ta)])) _
    refine XS.iloadN X2.here hx rfl (hb hby d6_4) rfl ?_
    show Steps p.tables e below (T2.setTop (mkF m 5 #[.val (.ref f), .val (.int j), .val (.int q)] [(.int j), (.ref ta)])) _
    refine XT.dup2 X2.here hx rfl (hb hby d6_5) rfl rfl rfl ?_
    exact ktg)
  obtain ⟨cl_4, Ar_4, q_4, S_4, N_4, H_4, G_4⟩ := id A2
  have hin_4 : ¬ (j < 0 ∨ cl_4.slots.size ≤ (j).toNatClampNeg) := inb_of S_4 hj
  have hat_4 : cl_4.slots[(j).toNatClampNeg]? = some (.int yv) := H_4.at hin_4 hy1
  have pre5 : Rch p.tables e below (s₁.setTop (entryFrame m #[(.ref f), (.int j), (.int q)] 3)) (T2.setTop (mkF m 7 #[.val (.ref f), .val (.int j), .val (.int q)] [(.int yv), (.int j), (.ref ta)])) := fun tgt ktg => pre3 tgt (X2.iaload hx (j := j) (v := (.int yv)) (by rw [e2]; exact Ar_4.1) (State.isArrayOf_alike hZ.alike Ar_4.2.1) Ar_4.2.2 hin_4 hat_4 (g := (mkF m 6 #[.val (.ref f), .val (.int j), .val (.int q)] [(.int j), (.ref ta), (.int j), (.ref ta)])) rfl rfl (hb hby d6_6) _ ktg)
  have pre6 : Rch p.tables e below (s₁.setTop (entryFrame m #[(.ref f), (.int j), (.int q)] 3)) (T2.setTop (mkF m 9 #[.val (.ref f), .val (.int j), .val (.int q)] [(.int (yv - q)), (.int j), (.ref ta)])) := fun tgt ktg => pre5 tgt (by
    show Steps p.tables e below (T2.setTop (mkF m 7 #[.val (.ref f), .val (.int j), .val (.int q)] [(.int yv), (.int j), (.ref ta)])) _
    refine XS.iloadN X2.here hx rfl (hb hby d6_7) rfl ?_
    show Steps p.tables e below (T2.setTop (mkF m 8 #[.val (.ref f), .val (.int j), .val (.int q)] [(.int q), (.int yv), (.int j), (.ref ta)])) _
    refine XS.isub X2.here hx rfl (hb hby d6_8) rfl ?_
    exact ktg)
  obtain ⟨cl_7, Ar_7, q_7, S_7, N_7, H_7, G_7⟩ := id A2
  have hin_7 : ¬ (j < 0 ∨ cl_7.slots.size ≤ (j).toNatClampNeg) := inb_of S_7 hj
  obtain ⟨T8, h8, X8, e8, W8, st8⟩ := stI X2 hx hZ e2 Ar_7 (j := j) hin_7 (g := (mkF m 9 #[.val (.ref f), .val (.int j), .val (.int q)] [(.int (yv - q)), (.int j), (.ref ta)])) rfl rfl (hb hby d6_9)
  have pre8 : Rch p.tables e below (s₁.setTop (entryFrame m #[(.ref f), (.int j), (.int q)] 3)) (T8.setTop (mkF m 10 #[.val (.ref f), .val (.int j), .val (.int q)] [])) := fun tgt ktg => pre6 tgt (st8 tgt ktg)
  have f9 : Fld Z h8 f "com/example/prudent_spot/prudentspot/placement/Fleet" "taken" "[I" (.ref ta) := F2.other W8 (Or.inl nft)
  have z10 : n0 ≤ h8.size := Nat.le_trans Z0 (Keep.of_wr W8).1
  have K11 : Keep h0 h8 [ta] := K0.wr W8 (Or.inl (List.mem_of_getElem? (i := 0) rfl))
  have f12 : Arv Z h8 ta kt .int z (vt.set j.toNatClampNeg (.int (yv - q))) (.int (0 : Int32)) := Arv.set Ar_7 q_7 S_7 N_7 H_7 G_7 rfl W8 j.toNatClampNeg rfl hl
  have N13 := Fr.snoc X8 N0 gt
  obtain ⟨fs, hr, hrun, hended, hW, hsame⟩ := X8.leave (v := none) (fun _ => rfl)
  refine ⟨_, _, pre8 _ ?_, hrun, hended, _, _, rfl, ?_, ⟨_, rfl⟩, hW, hsame.mono (by decide) (by decide)⟩
  · show Steps p.tables e below (T8.setTop (mkF m 10 #[.val (.ref f), .val (.int j), .val (.int q)] [])) _
    exact X8.returnOut hx Bd.returns (hb hby d6_10) hr
  · show Q6 Z f j q ta kt z yv vt h0 n0 _ T8.heap _
    rw [e8]
    exact ⟨rfl, N13, K11, f12⟩
theorem d4_0 : decode prog_16_method_3_code 0 = .ok (.aload_n 0, 1) := by decide +kernel
theorem d4_1 : decode prog_16_method_3_code 1 = .ok (.getfield 7, 3) := by decide +kernel
theorem d4_4 : decode prog_16_method_3_code 4 = .ok (.iload_n 1, 1) := by decide +kernel
theorem d4_5 : decode prog_16_method_3_code 5 = .ok (.iload_n 3, 1) := by decide +kernel
theorem d4_6 : decode prog_16_method_3_code 6 = .ok (.iastore, 1) := by decide +kernel
theorem d4_7 : decode prog_16_method_3_code 7 = .ok (.aload_n 0, 1) := by decide +kernel
theorem d4_8 : decode prog_16_method_3_code 8 = .ok (.getfield 18, 3) := by decide +kernel
theorem d4_11 : decode prog_16_method_3_code 11 = .ok (.iload_n 1, 1) := by decide +kernel
theorem d4_12 : decode prog_16_method_3_code 12 = .ok (.aload_n 2, 1) := by decide +kernel
theorem d4_13 : decode prog_16_method_3_code 13 = .ok (.aastore, 1) := by decide +kernel
theorem d4_14 : decode prog_16_method_3_code 14 = .ok (.aload_n 0, 1) := by decide +kernel
theorem d4_15 : decode prog_16_method_3_code 15 = .ok (.getfield 24, 3) := by decide +kernel
theorem d4_18 : decode prog_16_method_3_code 18 = .ok (.iload_n 1, 1) := by decide +kernel
theorem d4_19 : decode prog_16_method_3_code 19 = .ok (.aload 4, 2) := by decide +kernel
theorem d4_21 : decode prog_16_method_3_code 21 = .ok (.aastore, 1) := by decide +kernel
theorem d4_22 : decode prog_16_method_3_code 22 = .ok (.return_, 1) := by decide +kernel
theorem ef_4 (m : MethodId) (x0 : Addr) (x1 : Int32) (x3 : Int32) (x4 : Addr) : entryFrame m #[(.ref x0), (.int x1), .null, (.int x3), (.ref x4)] 5 = mkF m 0 #[.val (.ref x0), .val (.int x1), .val .null, .val (.int x3), .val (.ref x4)] [] := by first | (simp [entryFrame, mkF, argsToLocals, Value.category]; done) | rfl
def Q4 (Z : State) (f : Addr) (j : Int32) (q : Int32) (dd : Addr) (ca le ld : Addr) (kc ke kd : ClassId) (z : Int32) (vc : List Value) (h0 : Heap) (n0 : Nat) (v : Option Value) (h : Heap) (L : List Loc) : Prop := v = none ∧ Fr n0 L ∧ Keep h0 h [ca, le, ld] ∧ Arv Z h ca kc .int z (vc.set j.toNatClampNeg (.int q)) (.int (0 : Int32))
set_option maxRecDepth 65536 in
set_option maxHeartbeats 40000000 in
theorem rm4 (l : Launch) (Z : State) (a0 : Array Value) (hw : ∀ d ∈ tables_1, d.before a0 Z = true) (ws : List Jvm.Cond) (f : Addr) (j : Int32) (q : Int32) (dd : Addr) (ca le ld : Addr) (kc ke kd : ClassId) (z : Int32) (vc : List Value) (h0 : Heap) (n0 : Nat) (Z0 : n0 ≤ h0.size) (F1 : Fld Z h0 f "com/example/prudent_spot/prudentspot/placement/Fleet" "cores" "[I" (.ref ca)) (F3 : Fld Z h0 f "com/example/prudent_spot/prudentspot/placement/Fleet" "lastEvent" "[Ljava/time/Instant;" (.ref le)) (F4 : Fld Z h0 f "com/example/prudent_spot/prudentspot/placement/Fleet" "lastDirection" "[Lcom/example/prudent_spot/prudentspot/capacity/Direction;" (.ref ld)) (A1 : Arv Z h0 ca kc .int z vc (.int (0 : Int32))) (A3 : Arv Z h0 le ke (.object "java/time/Instant") z [.null, .null, .null, .null] .null) (A4 : Arv Z h0 ld kd (.object "com/example/prudent_spot/prudentspot/capacity/Direction") z [.null, .null, .null, .null] .null) (O4 : Ovr Z kd "com/example/prudent_spot/prudentspot/capacity/Direction") (D1 : Exa Z h0 dd "com/example/prudent_spot/prudentspot/capacity/Direction") (hj : ¬ j < 0 ∧ j < z) (hl : j.toNatClampNeg < vc.length) (h4 : j.toNatClampNeg < 4) (gc : n0 ≤ ca) (ge : n0 ≤ le) (gd : n0 ≤ ld) (nfc : f ≠ ca) (nfe : f ≠ le) (nfd : f ≠ ld) (nce : ca ≠ le) (ncd : ca ≠ ld) (ned : le ≠ ld) :
    MetFree l (⟨"com/example/prudent_spot/prudentspot/placement/Fleet", "change", "(ILjava/time/Instant;ILcom/example/prudent_spot/prudentspot/capacity/Direction;)V"⟩ : MethodName) (head1 (Jvm.Cond.code (⟨"com/example/prudent_spot/prudentspot/placement/Fleet", "change", "(ILjava/time/Instant;ILcom/example/prudent_spot/prudentspot/capacity/Direction;)V"⟩ : MethodName) prog_16_method_3_code 5 none :: ws) ({ frames := 0, cells := 0, slots := 0, locals := 0 } : Room)) (fun aA U => aA = #[(.ref f), (.int j), .null, (.int q), (.ref dd)] ∧ Z.Warmed39 U.vm ∧ U.heap = h0) (fun _ _ _ _ _ => True) (fun _ U oO U' => ∃ vV LL, oO = .returned vV ∧ Q4 Z f j q dd ca le ld kc ke kd z vc h0 n0 vV U'.heap LL ∧ FrameEnd U oO U' LL ({ frames := 0, cells := 0, slots := 0, locals := 0 } : Room).cells ({ frames := 0, cells := 0, slots := 0, locals := 0 } : Room).slots) := by
  refine MetFree.of_bodySF (plainFor_of_name pn_0) hisR ?_
  intro p e s m args below meth c s₁ Bd hml0 hP hK
  obtain ⟨rfl, hZ, hh⟩ := hP
  have hx := Bd.exec
  have hby := Bd.bytes
  have hml : c.maxLocals = 5 := hml0
  have hown : s.vm.findClass "com/example/prudent_spot/prudentspot/placement/Fleet" = some m.cls := findClass_of_methodNamed Bd.named
  have hnm := (name_of_methodNamed Bd.named Bd.method).1
  have X0 : Stand p l e ({ frames := 0, cells := 0, slots := 0, locals := 0 } : Room) s m #[(.ref f), (.int j), .null, (.int q), (.ref dd)] below meth c s₁ [] 0 0 := Stand.of_body Bd
  have e0 : s₁.heap = h0 := by rw [← hh, Bd.state]; rfl
  have N0 := Fr.nil n0
  have K0 : Keep h0 h0 [ca, le, ld] := Keep.refl _ _
  have pre0 : Rch p.tables e below (s₁.setTop (entryFrame m #[(.ref f), (.int j), .null, (.int q), (.ref dd)] 5)) (s₁.setTop (mkF m 0 #[.val (.ref f), .val (.int j), .val .null, .val (.int q), .val (.ref dd)] [])) := fun tgt ktg => castTop (ef_4 m f j q dd) ktg
  have pre1 : Rch p.tables e below (s₁.setTop (entryFrame m #[(.ref f), (.int j), .null, (.int q), (.ref dd)] 5)) (s₁.setTop (mkF m 1 #[.val (.ref f), .val (.int j), .val .null, .val (.int q), .val (.ref dd)] [(.ref f)])) := fun tgt ktg => pre0 tgt (by
    show Steps p.tables e below (s₁.setTop (mkF m 0 #[.val (.ref f), .val (.int j), .val .null, .val (.int q), .val (.ref dd)] [])) _
    refine XS.aloadN X0.here hx rfl (hb hby d4_0) rfl rfl ?_
    exact ktg)
  obtain ⟨T2, X2, e2, st2⟩ := getF X0 hx hZ hown (host := "") (Or.inl (hw _ (List.mem_of_getElem? (i := 14) rfl))) Via.refl e0 F1 (g := (mkF m 1 #[.val (.ref f), .val (.int j), .val .null, .val (.int q), .val (.ref dd)] [(.ref f)])) rfl rfl (hb hby d4_1)
  have pre2 : Rch p.tables e below (s₁.setTop (entryFrame m #[(.ref f), (.int j), .null, (.int q), (.ref dd)] 5)) (T2.setTop (mkF m 4 #[.val (.ref f), .val (.int j), .val .null, .val (.int q), .val (.ref dd)] [(.ref ca)])) := fun tgt ktg => pre1 tgt (st2 tgt ktg)
  have pre3 : Rch p.tables e below (s₁.setTop (entryFrame m #[(.ref f), (.int j), .null, (.int q), (.ref dd)] 5)) (T2.setTop (mkF m 6 #[.val (.ref f), .val (.int j), .val .null, .val (.int q), .val (.ref dd)] [(.int q), (.int j), (.ref ca)])) := fun tgt ktg => pre2 tgt (by
    show Steps p.tables e below (T2.setTop (mkF m 4 #[.val (.ref f), .val (.int j), .val .null, .val (.int q), .val (.ref dd)] [(.ref ca)])) _
    refine XS.iloadN X2.here hx rfl (hb hby d4_4) rfl ?_
    show Steps p.tables e below (T2.setTop (mkF m 5 #[.val (.ref f), .val (.int j), .val .null, .val (.int q), .val (.ref dd)] [(.int j), (.ref ca)])) _
    refine XS.iloadN X2.here hx rfl (hb hby d4_5) rfl ?_
    exact ktg)
  obtain ⟨cl_4, Ar_4, q_4, S_4, N_4, H_4, G_4⟩ := id A1
  have hin_4 : ¬ (j < 0 ∨ cl_4.slots.size ≤ (j).toNatClampNeg) := inb_of S_4 hj
  obtain ⟨T5, h5, X5, e5, W5, st5⟩ := stI X2 hx hZ e2 Ar_4 (j := j) hin_4 (g := (mkF m 6 #[.val (.ref f), .val (.int j), .val .null, .val (.int q), .val (.ref dd)] [(.int q), (.int j), (.ref ca)])) rfl rfl (hb hby d4_6)
  have pre5 : Rch p.tables e below (s₁.setTop (entryFrame m #[(.ref f), (.int j), .null, (.int q), (.ref dd)] 5)) (T5.setTop (mkF m 7 #[.val (.ref f), .val (.int j), .val .null, .val (.int q), .val (.ref dd)] [])) := fun tgt ktg => pre3 tgt (st5 tgt ktg)
  have f6 : Fld Z h5 f "com/example/prudent_spot/prudentspot/placement/Fleet" "cores" "[I" (.ref ca) := F1.other W5 (Or.inl nfc)
  have f7 : Fld Z h5 f "com/example/prudent_spot/prudentspot/placement/Fleet" "lastEvent" "[Ljava/time/Instant;" (.ref le) := F3.other W5 (Or.inl nfc)
  have f8 : Fld Z h5 f "com/example/prudent_spot/prudentspot/placement/Fleet" "lastDirection" "[Lcom/example/prudent_spot/prudentspot/capacity/Direction;" (.ref ld) := F4.other W5 (Or.inl nfc)
  have f9 : Arv Z h5 le ke (.object "java/time/Instant") z [.null, .null, .null, .null] .null := A3.other W5 (Ne.symm nce)
  have f10 : Arv Z h5 ld kd (.object "com/example/prudent_spot/prudentspot/capacity/Direction") z [.null, .null, .null, .null] .null := A4.other W5 (Ne.symm ncd)
  have f11 : Exa Z h5 dd "com/example/prudent_spot/prudentspot/capacity/Direction" := D1.wr W5
  have z12 : n0 ≤ h5.size := Nat.le_trans Z0 (Keep.of_wr W5).1
  have K13 : Keep h0 h5 [ca, le, ld] := K0.wr W5 (Or.inl (List.mem_of_getElem? (i := 0) rfl))
  have f14 : Arv Z h5 ca kc .int z (vc.set j.toNatClampNeg (.int q)) (.int (0 : Int32)) := Arv.set Ar_4 q_4 S_4 N_4 H_4 G_4 rfl W5 j.toNatClampNeg rfl hl
  have N15 := Fr.snoc X5 N0 gc
  have pre16 : Rch p.tables e below (s₁.setTop (entryFrame m #[(.ref f), (.int j), .null, (.int q), (.ref dd)] 5)) (T5.setTop (mkF m 8 #[.val (.ref f), .val (.int j), .val .null, .val (.int q), .val (.ref dd)] [(.ref f)])) := fun tgt ktg => pre5 tgt (by
    show Steps p.tables e below (T5.setTop (mkF m 7 #[.val (.ref f), .val (.int j), .val .null, .val (.int q), .val (.ref dd)] [])) _
    refine XS.aloadN X5.here hx rfl (hb hby d4_7) rfl rfl ?_
    exact ktg)
  obtain ⟨T17, X17, e17, st17⟩ := getF X5 hx hZ hown (host := "") (Or.inl (hw _ (List.mem_of_getElem? (i := 20) rfl))) Via.refl e5 f7 (g := (mkF m 8 #[.val (.ref f), .val (.int j), .val .null, .val (.int q), .val (.ref dd)] [(.ref f)])) rfl rfl (hb hby d4_8)
  have pre17 : Rch p.tables e below (s₁.setTop (entryFrame m #[(.ref f), (.int j), .null, (.int q), (.ref dd)] 5)) (T17.setTop (mkF m 11 #[.val (.ref f), .val (.int j), .val .null, .val (.int q), .val (.ref dd)] [(.ref le)])) := fun tgt ktg => pre16 tgt (st17 tgt ktg)
  have pre18 : Rch p.tables e below (s₁.setTop (entryFrame m #[(.ref f), (.int j), .null, (.int q), (.ref dd)] 5)) (T17.setTop (mkF m 13 #[.val (.ref f), .val (.int j), .val .null, .val (.int q), .val (.ref dd)] [.null, (.int j), (.ref le)])) := fun tgt ktg => pre17 tgt (by
    show Steps p.tables e below (T17.setTop (mkF m 11 #[.val (.ref f), .val (.int j), .val .null, .val (.int q), .val (.ref dd)] [(.ref le)])) _
    refine XS.iloadN X17.here hx rfl (hb hby d4_11) rfl ?_
    show Steps p.tables e below (T17.setTop (mkF m 12 #[.val (.ref f), .val (.int j), .val .null, .val (.int q), .val (.ref dd)] [(.int j), (.ref le)])) _
    refine XS.aloadN X17.here hx rfl (hb hby d4_12) rfl rfl ?_
    exact ktg)
  obtain ⟨cl_19, Ar_19, q_19, S_19, N_19, H_19, G_19⟩ := id f9
  have hin_19 : ¬ (j < 0 ∨ cl_19.slots.size ≤ (j).toNatClampNeg) := inb_of S_19 hj
  obtain ⟨T20, h20, X20, e20, W20, st20⟩ := stR X17 hx hZ e17 Ar_19 (j := j) hin_19 rfl (Or.inl rfl) (g := (mkF m 13 #[.val (.ref f), .val (.int j), .val .null, .val (.int q), .val (.ref dd)] [.null, (.int j), (.ref le)])) rfl rfl (hb hby d4_13)
  have pre20 : Rch p.tables e below (s₁.setTop (entryFrame m #[(.ref f), (.int j), .null, (.int q), (.ref dd)] 5)) (T20.setTop (mkF m 14 #[.val (.ref f), .val (.int j), .val .null, .val (.int q), .val (.ref dd)] [])) := fun tgt ktg => pre18 tgt (st20 tgt ktg)
  have f21 : Fld Z h20 f "com/example/prudent_spot/prudentspot/placement/Fleet" "cores" "[I" (.ref ca) := f6.other W20 (Or.inl nfe)
  have f22 : Fld Z h20 f "com/example/prudent_spot/prudentspot/placement/Fleet" "lastEvent" "[Ljava/time/Instant;" (.ref le) := f7.other W20 (Or.inl nfe)
  have f23 : Fld Z h20 f "com/example/prudent_spot/prudentspot/placement/Fleet" "lastDirection" "[Lcom/example/prudent_spot/prudentspot/capacity/Direction;" (.ref ld) := f8.other W20 (Or.inl nfe)
  have f24 : Arv Z h20 ld kd (.object "com/example/prudent_spot/prudentspot/capacity/Direction") z [.null, .null, .null, .null] .null := f10.other W20 (Ne.symm ned)
  have f25 : Exa Z h20 dd "com/example/prudent_spot/prudentspot/capacity/Direction" := f11.wr W20
  have f26 : Arv Z h20 ca kc .int z (vc.set j.toNatClampNeg (.int q)) (.int (0 : Int32)) := f14.other W20 nce
  have z27 : n0 ≤ h20.size := Nat.le_trans z12 (Keep.of_wr W20).1
  have K28 : Keep h0 h20 [ca, le, ld] := K13.wr W20 (Or.inl (List.mem_of_getElem? (i := 1) rfl))
  have f29 : Arv Z h20 le ke (.object "java/time/Instant") z (([.null, .null, .null, .null] : List Value).set j.toNatClampNeg .null) .null := Arv.set Ar_19 q_19 S_19 N_19 H_19 G_19 rfl W20 j.toNatClampNeg rfl h4
  have N30 := Fr.snoc X20 N15 ge
  have pre31 : Rch p.tables e below (s₁.setTop (entryFrame m #[(.ref f), (.int j), .null, (.int q), (.ref dd)] 5)) (T20.setTop (mkF m 15 #[.val (.ref f), .val (.int j), .val .null, .val (.int q), .val (.ref dd)] [(.ref f)])) := fun tgt ktg => pre20 tgt (by
    show Steps p.tables e below (T20.setTop (mkF m 14 #[.val (.ref f), .val (.int j), .val .null, .val (.int q), .val (.ref dd)] [])) _
    refine XS.aloadN X20.here hx rfl (hb hby d4_14) rfl rfl ?_
    exact ktg)
  obtain ⟨T32, X32, e32, st32⟩ := getF X20 hx hZ hown (host := "") (Or.inl (hw _ (List.mem_of_getElem? (i := 24) rfl))) Via.refl e20 f23 (g := (mkF m 15 #[.val (.ref f), .val (.int j), .val .null, .val (.int q), .val (.ref dd)] [(.ref f)])) rfl rfl (hb hby d4_15)
  have pre32 : Rch p.tables e below (s₁.setTop (entryFrame m #[(.ref f), (.int j), .null, (.int q), (.ref dd)] 5)) (T32.setTop (mkF m 18 #[.val (.ref f), .val (.int j), .val .null, .val (.int q), .val (.ref dd)] [(.ref ld)])) := fun tgt ktg => pre31 tgt (st32 tgt ktg)
  have pre33 : Rch p.tables e below (s₁.setTop (entryFrame m #[(.ref f), (.int j), .null, (.int q), (.ref dd)] 5)) (T32.setTop (mkF m 21 #[.val (.ref f), .val (.int j), .val .null, .val (.int q), .val (.ref dd)] [(.ref dd), (.int j), (.ref ld)])) := fun tgt ktg => pre32 tgt (by
    show Steps p.tables e below (T32.setTop (mkF m 18 #[.val (.ref f), .val (.int j), .val .null, .val (.int q), .val (.ref dd)] [(.ref ld)])) _
    refine XS.iloadN X32.here hx rfl (hb hby d4_18) rfl ?_
    show Steps p.tables e below (T32.setTop (mkF m 19 #[.val (.ref f), .val (.int j), .val .null, .val (.int q), .val (.ref dd)] [(.int j), (.ref ld)])) _
    refine XS.aload X32.here hx rfl (hb hby d4_19) rfl rfl ?_
    exact ktg)
  obtain ⟨cl_34, Ar_34, q_34, S_34, N_34, H_34, G_34⟩ := id f24
  have hin_34 : ¬ (j < 0 ∨ cl_34.slots.size ≤ (j).toNatClampNeg) := inb_of S_34 hj
  obtain ⟨T35, h35, X35, e35, W35, st35⟩ := stR X32 hx hZ e32 Ar_34 (j := j) hin_34 rfl (Sto.ofV Ar_34 q_34 O4 (Ins.self f25)) (g := (mkF m 21 #[.val (.ref f), .val (.int j), .val .null, .val (.int q), .val (.ref dd)] [(.ref dd), (.int j), (.ref ld)])) rfl rfl (hb hby d4_21)
  have pre35 : Rch p.tables e below (s₁.setTop (entryFrame m #[(.ref f), (.int j), .null, (.int q), (.ref dd)] 5)) (T35.setTop (mkF m 22 #[.val (.ref f), .val (.int j), .val .null, .val (.int q), .val (.ref dd)] [])) := fun tgt ktg => pre33 tgt (st35 tgt ktg)
  have f36 : Fld Z h35 f "com/example/prudent_spot/prudentspot/placement/Fleet" "cores" "[I" (.ref ca) := f21.other W35 (Or.inl nfd)
  have f37 : Fld Z h35 f "com/example/prudent_spot/prudentspot/placement/Fleet" "lastEvent" "[Ljava/time/Instant;" (.ref le) := f22.other W35 (Or.inl nfd)
  have f38 : Fld Z h35 f "com/example/prudent_spot/prudentspot/placement/Fleet" "lastDirection" "[Lcom/example/prudent_spot/prudentspot/capacity/Direction;" (.ref ld) := f23.other W35 (Or.inl nfd)
  have f39 : Exa Z h35 dd "com/example/prudent_spot/prudentspot/capacity/Direction" := f25.wr W35
  have f40 : Arv Z h35 ca kc .int z (vc.set j.toNatClampNeg (.int q)) (.int (0 : Int32)) := f26.other W35 ncd
  have f41 : Arv Z h35 le ke (.object "java/time/Instant") z (([.null, .null, .null, .null] : List Value).set j.toNatClampNeg .null) .null := f29.other W35 ned
  have z42 : n0 ≤ h35.size := Nat.le_trans z27 (Keep.of_wr W35).1
  have K43 : Keep h0 h35 [ca, le, ld] := K28.wr W35 (Or.inl (List.mem_of_getElem? (i := 2) rfl))
  have f44 : Arv Z h35 ld kd (.object "com/example/prudent_spot/prudentspot/capacity/Direction") z (([.null, .null, .null, .null] : List Value).set j.toNatClampNeg (.ref dd)) .null := Arv.set Ar_34 q_34 S_34 N_34 H_34 G_34 rfl W35 j.toNatClampNeg rfl h4
  have N45 := Fr.snoc X35 N30 gd
  obtain ⟨fs, hr, hrun, hended, hW, hsame⟩ := X35.leave (v := none) (fun _ => rfl)
  refine ⟨_, _, pre35 _ ?_, hrun, hended, _, _, rfl, ?_, ⟨_, rfl⟩, hW, hsame.mono (by decide) (by decide)⟩
  · show Steps p.tables e below (T35.setTop (mkF m 22 #[.val (.ref f), .val (.int j), .val .null, .val (.int q), .val (.ref dd)] [])) _
    exact X35.returnOut hx Bd.returns (hb hby d4_22) hr
  · show Q4 Z f j q dd ca le ld kc ke kd z vc h0 n0 _ T35.heap _
    rw [e35]
    exact ⟨rfl, N45, K43, f40⟩
theorem own_ar1 (a b c : Int32) : (a - ((0 + b) - c)) = ((a - b) + c) := by
  rw [Int32.zero_add, Int32.sub_eq_add_neg, Int32.neg_sub, Int32.sub_eq_add_neg, Int32.sub_eq_add_neg, Int32.add_comm c, Int32.add_assoc]
theorem own_ar2 (a b c d : Int32) : (a - (((0 + b) - c) + d)) = (((a - b) + c) - d) := by
  rw [← own_ar1 a b c, Int32.sub_eq_add_neg a, Int32.neg_add, Int32.sub_eq_add_neg (-((0 + b) - c)), ← Int32.add_assoc, ← Int32.sub_eq_add_neg, ← Int32.sub_eq_add_neg]
theorem own_ar3 (a : Int32) : (0 - (0 + a)) = (-a) := by
  rw [Int32.zero_add, Int32.zero_sub]
theorem own_size {x z : Int32} (h : z = ((1 : Int32) + (x &&& (3 : Int32)))) : (0 : Int32) < z ∧ ¬ (4 : Int32) < z := by
  subst h
  have e := Jvm.Kit.i32_mask x 3 (k := 2) (by decide) (by decide)
  have e1 : (1 : Int32).toInt = 1 := by decide
  have e0 : (0 : Int32).toInt = 0 := by decide
  have e4 : (4 : Int32).toInt = 4 := by decide
  have a : ((1 : Int32) + (x &&& (3 : Int32))).toInt = 1 + (x &&& (3 : Int32)).toInt := Jvm.Kit.i32_add (by omega) (by omega)
  rw [Int32.lt_iff_toInt_lt, Int32.lt_iff_toInt_lt]; omega
theorem own_nz {z : Int32} (h : (0 : Int32) < z) : z ≠ 0 := by
  intro q; subst q; exact absurd h (by decide)
theorem own_mod {x z j : Int32} (hx : ¬ x < 0) (hz : (0 : Int32) < z) (h : j = (x % z)) : ¬ j < 0 ∧ j < z := by
  subst h
  have e0 : (0 : Int32).toInt = 0 := by decide
  rw [Int32.lt_iff_toInt_lt] at *
  have e := Jvm.Kit.i32_rem_nonneg (x := x) (y := z) (by omega)
  have h1 := Int.emod_nonneg x.toInt (b := z.toInt) (by omega)
  have h2 := Int.emod_lt_of_pos x.toInt (b := z.toInt) (by omega)
  rw [Int32.lt_iff_toInt_lt]; omega
theorem own_pos {x : Int32} : ¬ (x &&& (2147483647 : Int32)) < 0 := by
  have e := Jvm.Kit.i32_mask x 2147483647 (k := 31) (by decide) (by decide)
  have e0 : (0 : Int32).toInt = 0 := by decide
  rw [Int32.lt_iff_toInt_lt]; omega
theorem own_succ {j z : Int32} (hj : ¬ j < 0 ∧ j < z) (hz : ¬ (4 : Int32) < z) : ¬ (j + (1 : Int32)) < 0 := by
  obtain ⟨h1, h2⟩ := hj
  have e1 : (1 : Int32).toInt = 1 := by decide
  have e0 : (0 : Int32).toInt = 0 := by decide
  have e4 : (4 : Int32).toInt = 4 := by decide
  rw [Int32.lt_iff_toInt_lt] at *
  have a : (j + (1 : Int32)).toInt = j.toInt + 1 := by rw [← e1]; exact Jvm.Kit.i32_add (by omega) (by omega)
  omega
theorem own_clamp {i j : Int32} (hi : ¬ i < 0) (hj : ¬ j < 0) (h : ¬ i = j) : i.toNatClampNeg ≠ j.toNatClampNeg := fun q => h (Int32.toInt_inj.mp (by rw [nat_of hi, nat_of hj, q]))
theorem pd_0 : parseMethodDescriptor "(I)V" = some ⟨[.int], none⟩ := by decide +kernel
theorem pd_1 : parseMethodDescriptor "(I)I" = some ⟨[.int], some .int⟩ := by decide +kernel
theorem pd_2 : parseMethodDescriptor "(ILjava/time/Instant;ILcom/example/prudent_spot/prudentspot/capacity/Direction;)V" = some ⟨[.int, (.object "java/time/Instant"), .int, (.object "com/example/prudent_spot/prudentspot/capacity/Direction")], none⟩ := by decide +kernel
theorem pd_3 : parseMethodDescriptor "(II)V" = some ⟨[.int, .int], none⟩ := by decide +kernel
theorem pn_1 : plainName "com/example/prudent_spot/prudentspot/placement/FleetFreeCoresPinLaw" = true := by first | (simp [plainName, overriddenIn]; done) | decide +kernel
theorem ef_0 (m : MethodId) (x0 : Int32) (x1 : Int32) (x2 : Int32) (x3 : Int32) (x4 : Int32) (x5 : Int32) : entryFrame m #[(.int x0), (.int x1), (.int x2), (.int x3), (.int x4), (.int x5)] maxLocals = mkF m 0 #[.val (.int x0), .val (.int x1), .val (.int x2), .val (.int x3), .val (.int x4), .val (.int x5), .unset, .unset, .unset, .unset, .unset, .unset] [] := by first | (simp [entryFrame, mkF, argsToLocals, Value.category, maxLocals]; done) | rfl
def Q0 (Z : State) (p0 : Int32) (p1 : Int32) (p2 : Int32) (p3 : Int32) (p4 : Int32) (p5 : Int32) (h0 : Heap) (n0 : Nat) (v : Option Value) (h : Heap) (L : List Loc) : Prop := v = some (.int 1) ∧ Fr n0 L
set_option maxRecDepth 65536 in
set_option maxHeartbeats 40000000 in
theorem rm0 (l : Launch) (Z : State) (a0 : Array Value) (hw : ∀ d ∈ tables_1, d.before a0 Z = true) (ws : List Jvm.Cond) (p0 : Int32) (p1 : Int32) (p2 : Int32) (p3 : Int32) (p4 : Int32) (p5 : Int32) (h0 : Heap) (n0 : Nat) (Z0 : n0 ≤ h0.size) (ws0 wg : Addr) (S1 : Sta Z h0 "com/example/prudent_spot/prudentspot/capacity/Direction" "SHRINK" "Lcom/example/prudent_spot/prudentspot/capacity/Direction;" (.ref ws0)) (S2 : Sta Z h0 "com/example/prudent_spot/prudentspot/capacity/Direction" "GROW" "Lcom/example/prudent_spot/prudentspot/capacity/Direction;" (.ref wg)) (D1 : Exa Z h0 ws0 "com/example/prudent_spot/prudentspot/capacity/Direction") (D2 : Exa Z h0 wg "com/example/prudent_spot/prudentspot/capacity/Direction") :
    MetFree l x (head1 (Jvm.Cond.code x code maxLocals ret :: ws) room_1) (fun aA U => aA = #[(.int p0), (.int p1), (.int p2), (.int p3), (.int p4), (.int p5)] ∧ Z.Warmed39 U.vm ∧ U.heap = h0) (fun _ _ _ _ _ => True) (fun _ U oO U' => ∃ vV LL, oO = .returned vV ∧ Q0 Z p0 p1 p2 p3 p4 p5 h0 n0 vV U'.heap LL ∧ FrameEnd U oO U' LL room_1.cells room_1.slots) := by
  refine MetFree.of_bodySF (plainFor_of_name pn_1) hisR ?_
  intro p e s m args below meth c s₁ Bd hml0 hP hK
  obtain ⟨rfl, hZ, hh⟩ := hP
  have hx := Bd.exec
  have hby := Bd.bytes
  have hml : c.maxLocals = 12 := hml0
  have hown : s.vm.findClass "com/example/prudent_spot/prudentspot/placement/FleetFreeCoresPinLaw" = some m.cls := findClass_of_methodNamed Bd.named
  have hnm := (name_of_methodNamed Bd.named Bd.method).1
  have X0 : Stand p l e room_1 s m #[(.int p0), (.int p1), (.int p2), (.int p3), (.int p4), (.int p5)] below meth c s₁ [] 0 0 := Stand.of_body Bd
  have e0 : s₁.heap = h0 := by rw [← hh, Bd.state]; rfl
  have N0 := Fr.nil n0
  have K0 : Keep h0 h0 [] := Keep.refl _ _
  have pre0 : Rch p.tables e below (s₁.setTop (entryFrame m #[(.int p0), (.int p1), (.int p2), (.int p3), (.int p4), (.int p5)] maxLocals)) (s₁.setTop (mkF m 0 #[.val (.int p0), .val (.int p1), .val (.int p2), .val (.int p3), .val (.int p4), .val (.int p5), .unset, .unset, .unset, .unset, .unset, .unset] [])) := fun tgt ktg => castTop (ef_0 m p0 p1 p2 p3 p4 p5) ktg
  have pre1 : Rch p.tables e below (s₁.setTop (entryFrame m #[(.int p0), (.int p1), (.int p2), (.int p3), (.int p4), (.int p5)] maxLocals)) (s₁.setTop (mkF m 5 #[.val (.int p0), .val (.int p1), .val (.int p2), .val (.int p3), .val (.int p4), .val (.int p5), .unset, .unset, .unset, .unset, .unset, .unset] [(.int ((1 : Int32) + (p0 &&& (3 : Int32))))])) := fun tgt ktg => pre0 tgt (by
    show Steps p.tables e below (s₁.setTop (mkF m 0 #[.val (.int p0), .val (.int p1), .val (.int p2), .val (.int p3), .val (.int p4), .val (.int p5), .unset, .unset, .unset, .unset, .unset, .unset] [])) _
    refine XS.iconst X0.here hx rfl (hb hby at_0) ?_
    show Steps p.tables e below (s₁.setTop (mkF m 1 #[.val (.int p0), .val (.int p1), .val (.int p2), .val (.int p3), .val (.int p4), .val (.int p5), .unset, .unset, .unset, .unset, .unset, .unset] [(.int (1 : Int32))])) _
    refine XS.iloadN X0.here hx rfl (hb hby at_1) rfl ?_
    show Steps p.tables e below (s₁.setTop (mkF m 2 #[.val (.int p0), .val (.int p1), .val (.int p2), .val (.int p3), .val (.int p4), .val (.int p5), .unset, .unset, .unset, .unset, .unset, .unset] [(.int p0), (.int (1 : Int32))])) _
    refine XS.iconst X0.here hx rfl (hb hby at_2) ?_
    show Steps p.tables e below (s₁.setTop (mkF m 3 #[.val (.int p0), .val (.int p1), .val (.int p2), .val (.int p3), .val (.int p4), .val (.int p5), .unset, .unset, .unset, .unset, .unset, .unset] [(.int (3 : Int32)), (.int p0), (.int (1 : Int32))])) _
    refine XS.iand X0.here hx rfl (hb hby at_3) rfl ?_
    show Steps p.tables e below (s₁.setTop (mkF m 4 #[.val (.int p0), .val (.int p1), .val (.int p2), .val (.int p3), .val (.int p4), .val (.int p5), .unset, .unset, .unset, .unset, .unset, .unset] [(.int (p0 &&& (3 : Int32))), (.int (1 : Int32))])) _
    refine XS.iadd X0.here hx rfl (hb hby at_4) rfl ?_
    exact ktg)
  obtain ⟨z, hv_z⟩ : ∃ nm_ : Int32, nm_ = ((1 : Int32) + (p0 &&& (3 : Int32))) := ⟨_, rfl⟩
  have pre2 : Rch p.tables e below (s₁.setTop (entryFrame m #[(.int p0), (.int p1), (.int p2), (.int p3), (.int p4), (.int p5)] maxLocals)) (s₁.setTop (mkF m 5 #[.val (.int p0), .val (.int p1), .val (.int p2), .val (.int p3), .val (.int p4), .val (.int p5), .unset, .unset, .unset, .unset, .unset, .unset] [(.int z)])) := fun tgt ktg => pre1 tgt (by rw [hv_z] at ktg; exact ktg)
  obtain ⟨hz0, hz4⟩ := own_size hv_z
  have pre3 : Rch p.tables e below (s₁.setTop (entryFrame m #[(.int p0), (.int p1), (.int p2), (.int p3), (.int p4), (.int p5)] maxLocals)) (s₁.setTop (mkF m 14 #[.val (.int p0), .val (.int p1), .val (.int p2), .val (.int p3), .val (.int p4), .val (.int p5), .val (.int z), .unset, .unset, .unset, .unset, .unset] [(.int ((p1 &&& (2147483647 : Int32)) % z))])) := fun tgt ktg => pre2 tgt (by
    show Steps p.tables e below (s₁.setTop (mkF m 5 #[.val (.int p0), .val (.int p1), .val (.int p2), .val (.int p3), .val (.int p4), .val (.int p5), .unset, .unset, .unset, .unset, .unset, .unset] [(.int z)])) _
    refine XS.istore X0.here hx rfl (hb hby at_5) rfl (l' := #[.val (.int p0), .val (.int p1), .val (.int p2), .val (.int p3), .val (.int p4), .val (.int p5), .val (.int z), .unset, .unset, .unset, .unset, .unset]) rfl ?_
    show Steps p.tables e below (s₁.setTop (mkF m 7 #[.val (.int p0), .val (.int p1), .val (.int p2), .val (.int p3), .val (.int p4), .val (.int p5), .val (.int z), .unset, .unset, .unset, .unset, .unset] [])) _
    refine XS.iloadN X0.here hx rfl (hb hby at_7) rfl ?_
    show Steps p.tables e below (s₁.setTop (mkF m 8 #[.val (.int p0), .val (.int p1), .val (.int p2), .val (.int p3), .val (.int p4), .val (.int p5), .val (.int z), .unset, .unset, .unset, .unset, .unset] [(.int p1)])) _
    refine X0.ldcInt hx hown (mvT hZ (hw _ (List.mem_of_getElem? (i := 0) rfl))) (g := (mkF m 8 #[.val (.int p0), .val (.int p1), .val (.int p2), .val (.int p3), .val (.int p4), .val (.int p5), .val (.int z), .unset, .unset, .unset, .unset, .unset] [(.int p1)])) rfl (hb hby at_8) _ ?_
    show Steps p.tables e below (s₁.setTop (mkF m 10 #[.val (.int p0), .val (.int p1), .val (.int p2), .val (.int p3), .val (.int p4), .val (.int p5), .val (.int z), .unset, .unset, .unset, .unset, .unset] [(.int (2147483647 : Int32)), (.int p1)])) _
    refine XS.iand X0.here hx rfl (hb hby at_10) rfl ?_
    show Steps p.tables e below (s₁.setTop (mkF m 11 #[.val (.int p0), .val (.int p1), .val (.int p2), .val (.int p3), .val (.int p4), .val (.int p5), .val (.int z), .unset, .unset, .unset, .unset, .unset] [(.int (p1 &&& (2147483647 : Int32)))])) _
    refine XS.iload X0.here hx rfl (hb hby at_11) rfl ?_
    show Steps p.tables e below (s₁.setTop (mkF m 13 #[.val (.int p0), .val (.int p1), .val (.int p2), .val (.int p3), .val (.int p4), .val (.int p5), .val (.int z), .unset, .unset, .unset, .unset, .unset] [(.int z), (.int (p1 &&& (2147483647 : Int32)))])) _
    refine iremM (g := (mkF m 13 #[.val (.int p0), .val (.int p1), .val (.int p2), .val (.int p3), .val (.int p4), .val (.int p5), .val (.int z), .unset, .unset, .unset, .unset, .unset] [(.int z), (.int (p1 &&& (2147483647 : Int32)))])) X0 hx rfl (hb hby at_13) rfl (own_nz hz0) ?_
    exact ktg)
  obtain ⟨j, hv_j⟩ : ∃ nm_ : Int32, nm_ = ((p1 &&& (2147483647 : Int32)) % z) := ⟨_, rfl⟩
  have pre4 : Rch p.tables e below (s₁.setTop (entryFrame m #[(.int p0), (.int p1), (.int p2), (.int p3), (.int p4), (.int p5)] maxLocals)) (s₁.setTop (mkF m 14 #[.val (.int p0), .val (.int p1), .val (.int p2), .val (.int p3), .val (.int p4), .val (.int p5), .val (.int z), .unset, .unset, .unset, .unset, .unset] [(.int j)])) := fun tgt ktg => pre3 tgt (by rw [hv_j] at ktg; exact ktg)
  have hj := own_mod own_pos hz0 hv_j
  have pre5 : Rch p.tables e below (s₁.setTop (entryFrame m #[(.int p0), (.int p1), (.int p2), (.int p3), (.int p4), (.int p5)] maxLocals)) (s₁.setTop (mkF m 23 #[.val (.int p0), .val (.int p1), .val (.int p2), .val (.int p3), .val (.int p4), .val (.int p5), .val (.int z), .val (.int j), .unset, .unset, .unset, .unset] [(.int ((j + (1 : Int32)) % z))])) := fun tgt ktg => pre4 tgt (by
    show Steps p.tables e below (s₁.setTop (mkF m 14 #[.val (.int p0), .val (.int p1), .val (.int p2), .val (.int p3), .val (.int p4), .val (.int p5), .val (.int z), .unset, .unset, .unset, .unset, .unset] [(.int j)])) _
    refine XS.istore X0.here hx rfl (hb hby at_14) rfl (l' := #[.val (.int p0), .val (.int p1), .val (.int p2), .val (.int p3), .val (.int p4), .val (.int p5), .val (.int z), .val (.int j), .unset, .unset, .unset, .unset]) rfl ?_
    show Steps p.tables e below (s₁.setTop (mkF m 16 #[.val (.int p0), .val (.int p1), .val (.int p2), .val (.int p3), .val (.int p4), .val (.int p5), .val (.int z), .val (.int j), .unset, .unset, .unset, .unset] [])) _
    refine XS.iload X0.here hx rfl (hb hby at_16) rfl ?_
    show Steps p.tables e below (s₁.setTop (mkF m 18 #[.val (.int p0), .val (.int p1), .val (.int p2), .val (.int p3), .val (.int p4), .val (.int p5), .val (.int z), .val (.int j), .unset, .unset, .unset, .unset] [(.int j)])) _
    refine XS.iconst X0.here hx rfl (hb hby at_18) ?_
    show Steps p.tables e below (s₁.setTop (mkF m 19 #[.val (.int p0), .val (.int p1), .val (.int p2), .val (.int p3), .val (.int p4), .val (.int p5), .val (.int z), .val (.int j), .unset, .unset, .unset, .unset] [(.int (1 : Int32)), (.int j)])) _
    refine XS.iadd X0.here hx rfl (hb hby at_19) rfl ?_
    show Steps p.tables e below (s₁.setTop (mkF m 20 #[.val (.int p0), .val (.int p1), .val (.int p2), .val (.int p3), .val (.int p4), .val (.int p5), .val (.int z), .val (.int j), .unset, .unset, .unset, .unset] [(.int (j + (1 : Int32)))])) _
    refine XS.iload X0.here hx rfl (hb hby at_20) rfl ?_
    show Steps p.tables e below (s₁.setTop (mkF m 22 #[.val (.int p0), .val (.int p1), .val (.int p2), .val (.int p3), .val (.int p4), .val (.int p5), .val (.int z), .val (.int j), .unset, .unset, .unset, .unset] [(.int z), (.int (j + (1 : Int32)))])) _
    refine iremM (g := (mkF m 22 #[.val (.int p0), .val (.int p1), .val (.int p2), .val (.int p3), .val (.int p4), .val (.int p5), .val (.int z), .val (.int j), .unset, .unset, .unset, .unset] [(.int z), (.int (j + (1 : Int32)))])) X0 hx rfl (hb hby at_22) rfl (own_nz hz0) ?_
    exact ktg)
  obtain ⟨o, hv_o⟩ : ∃ nm_ : Int32, nm_ = ((j + (1 : Int32)) % z) := ⟨_, rfl⟩
  have pre6 : Rch p.tables e below (s₁.setTop (entryFrame m #[(.int p0), (.int p1), (.int p2), (.int p3), (.int p4), (.int p5)] maxLocals)) (s₁.setTop (mkF m 23 #[.val (.int p0), .val (.int p1), .val (.int p2), .val (.int p3), .val (.int p4), .val (.int p5), .val (.int z), .val (.int j), .unset, .unset, .unset, .unset] [(.int o)])) := fun tgt ktg => pre5 tgt (by rw [hv_o] at ktg; exact ktg)
  have ho := own_mod (own_succ hj hz4) hz0 hv_o
  have hnz : ¬ z < 0 := Int32.lt_asymm hz0
  have pj := own_pl hj.1 hj.2 hz4
  have po := own_pl ho.1 ho.2 hz4
  have pre7 : Rch p.tables e below (s₁.setTop (entryFrame m #[(.int p0), (.int p1), (.int p2), (.int p3), (.int p4), (.int p5)] maxLocals)) (s₁.setTop (mkF m 30 #[.val (.int p0), .val (.int p1), .val (.int p2), .val (.int p3), .val (.int p4), .val (.int p5), .val (.int z), .val (.int j), .val (.int o), .unset, .unset, .unset] [(.int ((p0 >>> ((2 : Int32) &&& 31)) &&& (1 : Int32)))])) := fun tgt ktg => pre6 tgt (by
    show Steps p.tables e below (s₁.setTop (mkF m 23 #[.val (.int p0), .val (.int p1), .val (.int p2), .val (.int p3), .val (.int p4), .val (.int p5), .val (.int z), .val (.int j), .unset, .unset, .unset, .unset] [(.int o)])) _
    refine XS.istore X0.here hx rfl (hb hby at_23) rfl (l' := #[.val (.int p0), .val (.int p1), .val (.int p2), .val (.int p3), .val (.int p4), .val (.int p5), .val (.int z), .val (.int j), .val (.int o), .unset, .unset, .unset]) rfl ?_
    show Steps p.tables e below (s₁.setTop (mkF m 25 #[.val (.int p0), .val (.int p1), .val (.int p2), .val (.int p3), .val (.int p4), .val (.int p5), .val (.int z), .val (.int j), .val (.int o), .unset, .unset, .unset] [])) _
    refine XS.iloadN X0.here hx rfl (hb hby at_25) rfl ?_
    show Steps p.tables e below (s₁.setTop (mkF m 26 #[.val (.int p0), .val (.int p1), .val (.int p2), .val (.int p3), .val (.int p4), .val (.int p5), .val (.int z), .val (.int j), .val (.int o), .unset, .unset, .unset] [(.int p0)])) _
    refine XS.iconst X0.here hx rfl (hb hby at_26) ?_
    show Steps p.tables e below (s₁.setTop (mkF m 27 #[.val (.int p0), .val (.int p1), .val (.int p2), .val (.int p3), .val (.int p4), .val (.int p5), .val (.int z), .val (.int j), .val (.int o), .unset, .unset, .unset] [(.int (2 : Int32)), (.int p0)])) _
    refine XT.ishr X0.here hx rfl (hb hby at_27) rfl ?_
    show Steps p.tables e below (s₁.setTop (mkF m 28 #[.val (.int p0), .val (.int p1), .val (.int p2), .val (.int p3), .val (.int p4), .val (.int p5), .val (.int z), .val (.int j), .val (.int o), .unset, .unset, .unset] [(.int (p0 >>> ((2 : Int32) &&& 31)))])) _
    refine XS.iconst X0.here hx rfl (hb hby at_28) ?_
    show Steps p.tables e below (s₁.setTop (mkF m 29 #[.val (.int p0), .val (.int p1), .val (.int p2), .val (.int p3), .val (.int p4), .val (.int p5), .val (.int z), .val (.int j), .val (.int o), .unset, .unset, .unset] [(.int (1 : Int32)), (.int (p0 >>> ((2 : Int32) &&& 31)))])) _
    refine XS.iand X0.here hx rfl (hb hby at_29) rfl ?_
    exact ktg)
  by_cases c8 : ((p0 >>> ((2 : Int32) &&& 31)) &&& (1 : Int32)) = (0 : Int32)
  · skip
    have pre9 : Rch p.tables e below (s₁.setTop (entryFrame m #[(.int p0), (.int p1), (.int p2), (.int p3), (.int p4), (.int p5)] maxLocals)) (s₁.setTop (mkF m 39 #[.val (.int p0), .val (.int p1), .val (.int p2), .val (.int p3), .val (.int p4), .val (.int p5), .val (.int z), .val (.int j), .val (.int o), .unset, .unset, .unset] [])) := fun tgt ktg => pre7 tgt (by
      show Steps p.tables e below (s₁.setTop (mkF m 30 #[.val (.int p0), .val (.int p1), .val (.int p2), .val (.int p3), .val (.int p4), .val (.int p5), .val (.int z), .val (.int j), .val (.int o), .unset, .unset, .unset] [(.int ((p0 >>> ((2 : Int32) &&& 31)) &&& (1 : Int32)))])) _
      refine XS.ifYes X0.here hx rfl (pc0 := 30) (pc' := 39) rfl (hb hby at_30) rfl ((if0 _ _).trans (teq c8).1) (by decide) (by decide) ?_
      exact ktg)
    obtain ⟨T10, X10, e10, st10⟩ := getS2 X0 hx hZ hown (host := "") (Or.inl (hw _ (List.mem_of_getElem? (i := 1) rfl))) Via.refl e0 S1 (g := (mkF m 39 #[.val (.int p0), .val (.int p1), .val (.int p2), .val (.int p3), .val (.int p4), .val (.int p5), .val (.int z), .val (.int j), .val (.int o), .unset, .unset, .unset] [])) rfl (hb hby at_39)
    have pre10 : Rch p.tables e below (s₁.setTop (entryFrame m #[(.int p0), (.int p1), (.int p2), (.int p3), (.int p4), (.int p5)] maxLocals)) (T10.setTop (mkF m 42 #[.val (.int p0), .val (.int p1), .val (.int p2), .val (.int p3), .val (.int p4), .val (.int p5), .val (.int z), .val (.int j), .val (.int o), .unset, .unset, .unset] [(.ref ws0)])) := fun tgt ktg => pre9 tgt (st10 tgt ktg)
    have pre11 : Rch p.tables e below (s₁.setTop (entryFrame m #[(.int p0), (.int p1), (.int p2), (.int p3), (.int p4), (.int p5)] maxLocals)) (T10.setTop (mkF m 44 #[.val (.int p0), .val (.int p1), .val (.int p2), .val (.int p3), .val (.int p4), .val (.int p5), .val (.int z), .val (.int j), .val (.int o), .val (.ref ws0), .unset, .unset] [])) := fun tgt ktg => pre10 tgt (by
      show Steps p.tables e below (T10.setTop (mkF m 42 #[.val (.int p0), .val (.int p1), .val (.int p2), .val (.int p3), .val (.int p4), .val (.int p5), .val (.int z), .val (.int j), .val (.int o), .unset, .unset, .unset] [(.ref ws0)])) _
      refine XS.astore X10.here hx rfl (hb hby at_42) rfl rfl (l' := #[.val (.int p0), .val (.int p1), .val (.int p2), .val (.int p3), .val (.int p4), .val (.int p5), .val (.int z), .val (.int j), .val (.int o), .val (.ref ws0), .unset, .unset]) rfl ?_
      exact ktg)
    obtain ⟨T12, h12, X12, e12, E12, A12, D12, U12, st12⟩ := newO X10 hx hZ hown (hw _ (List.mem_of_getElem? (i := 4) rfl)) (hw _ (List.mem_of_getElem? (i := 5) rfl)) (hw _ (List.mem_of_getElem? (i := 6) rfl)) e10 (g := (mkF m 44 #[.val (.int p0), .val (.int p1), .val (.int p2), .val (.int p3), .val (.int p4), .val (.int p5), .val (.int z), .val (.int j), .val (.int o), .val (.ref ws0), .unset, .unset] [])) rfl (hb hby at_44) (by decide) (by decide)
    obtain ⟨f, g12⟩ : ∃ nm_, nm_ = h0.size := ⟨_, rfl⟩
    rw [← g12] at A12 D12 U12 st12
    have ne_ws0_f : ws0 ≠ f := Nat.ne_of_lt (Nat.lt_of_lt_of_le D1.lt (Nat.le_of_eq g12.symm))
    have g_f : n0 ≤ f := Nat.le_trans Z0 (Nat.le_of_eq g12.symm)
    have sz_f : h0.size ≤ f := Nat.le_trans K0.1 (Nat.le_of_eq g12.symm)
    have pre12 : Rch p.tables e below (s₁.setTop (entryFrame m #[(.int p0), (.int p1), (.int p2), (.int p3), (.int p4), (.int p5)] maxLocals)) (T12.setTop (mkF m 47 #[.val (.int p0), .val (.int p1), .val (.int p2), .val (.int p3), .val (.int p4), .val (.int p5), .val (.int z), .val (.int j), .val (.int o), .val (.ref ws0), .unset, .unset] [(.ref f)])) := fun tgt ktg => pre11 tgt (st12 tgt ktg)
    have f13 : Exa Z h12 ws0 "com/example/prudent_spot/prudentspot/capacity/Direction" := D1.ext E12
    have z14 : n0 ≤ h12.size := Nat.le_trans Z0 E12.1
    have K15 : Keep h0 h12 [] := K0.ext E12
    have f16 : Exa Z h12 f "com/example/prudent_spot/prudentspot/placement/Fleet" := A12
    have f17 : Fld Z h12 f "com/example/prudent_spot/prudentspot/placement/Fleet" "cores" "[I" .null := D12 (Or.inr (hw _ (List.mem_of_getElem? (i := 15) rfl))) (ty := (.array .int)) (by decide)
    have f18 : Fld Z h12 f "com/example/prudent_spot/prudentspot/placement/Fleet" "taken" "[I" .null := D12 (Or.inr (hw _ (List.mem_of_getElem? (i := 17) rfl))) (ty := (.array .int)) (by decide)
    have f19 : Fld Z h12 f "com/example/prudent_spot/prudentspot/placement/Fleet" "lastEvent" "[Ljava/time/Instant;" .null := D12 (Or.inr (hw _ (List.mem_of_getElem? (i := 21) rfl))) (ty := (.array (.object "java/time/Instant"))) (by decide)
    have f20 : Fld Z h12 f "com/example/prudent_spot/prudentspot/placement/Fleet" "lastDirection" "[Lcom/example/prudent_spot/prudentspot/capacity/Direction;" .null := D12 (Or.inr (hw _ (List.mem_of_getElem? (i := 25) rfl))) (ty := (.array (.object "com/example/prudent_spot/prudentspot/capacity/Direction"))) (by decide)
    have f21 : Fld Z h12 f "com/example/prudent_spot/prudentspot/placement/Fleet" "sinceChange" "[Ljava/time/Duration;" .null := D12 (Or.inr (hw _ (List.mem_of_getElem? (i := 29) rfl))) (ty := (.array (.object "java/time/Duration"))) (by decide)
    have pre22 : Rch p.tables e below (s₁.setTop (entryFrame m #[(.int p0), (.int p1), (.int p2), (.int p3), (.int p4), (.int p5)] maxLocals)) (T12.setTop (mkF m 50 #[.val (.int p0), .val (.int p1), .val (.int p2), .val (.int p3), .val (.int p4), .val (.int p5), .val (.int z), .val (.int j), .val (.int o), .val (.ref ws0), .unset, .unset] [(.int z), (.ref f), (.ref f)])) := fun tgt ktg => pre12 tgt (by
      show Steps p.tables e below (T12.setTop (mkF m 47 #[.val (.int p0), .val (.int p1), .val (.int p2), .val (.int p3), .val (.int p4), .val (.int p5), .val (.int z), .val (.int j), .val (.int o), .val (.ref ws0), .unset, .unset] [(.ref f)])) _
      refine XS.dup X12.here hx rfl (hb hby at_47) rfl rfl ?_
      show Steps p.tables e below (T12.setTop (mkF m 48 #[.val (.int p0), .val (.int p1), .val (.int p2), .val (.int p3), .val (.int p4), .val (.int p5), .val (.int z), .val (.int j), .val (.int o), .val (.ref ws0), .unset, .unset] [(.ref f), (.ref f)])) _
      refine XS.iload X12.here hx rfl (hb hby at_48) rfl ?_
      exact ktg)
    obtain ⟨_, _, ⟨T23, L23, k23, n23⟩, -, X23, ⟨Lc23, hQ23, l23, y23, z23⟩, st23⟩ := X12.specialBack hx (y := (⟨"com/example/prudent_spot/prudentspot/placement/Fleet", "<init>", "(I)V"⟩ : MethodName)) rfl hown (mvT hZ (hw _ (List.mem_of_getElem? (i := 7) rfl))) (mvT hZ (hw _ (List.mem_of_getElem? (i := 8) rfl))) (mvT hZ (hw _ (List.mem_of_getElem? (i := 9) rfl))) (by decide) (backOf (W := 1) (rm1 l Z a0 hw [] f z h12 n0 z14 f16 g_f hnz hz4 f17 f18 f19 f20 f21) hZ (hw _ (List.mem_of_getElem? (i := 9) rfl)) (hw _ (List.mem_of_getElem? (i := 6) rfl)) (by decide) (by decide)) (g := (mkF m 50 #[.val (.int p0), .val (.int p1), .val (.int p2), .val (.int p3), .val (.int p4), .val (.int p5), .val (.int z), .val (.int j), .val (.int o), .val (.ref ws0), .unset, .unset] [(.int z), (.ref f), (.ref f)])) rfl (by rw [hml]; rfl) (Steps.refl _) (a := f) (argsL := [(.int z)]) (rest := [(.ref f)]) (lenOf pd_0 rfl) rfl (by show 2 * 0 + _ ≤ _; exact Nat.le_of_eq rfl) (hb hby at_50) (fun _ _ => ⟨rfl, e12, (by decide : 1 + 5 ≤ _), (by decide : 5 + 20 ≤ _)⟩)
    dsimp only [Pt.U, Pt.locs, Pt.cells, Pt.slots] at X23 l23 y23 z23 st23 hQ23
    subst l23 y23 z23
    obtain ⟨c1, t1, le, ld, kc, kt, ke, kd, rfl, Nq23, Kq23, E1, F1, F2, F3, F4, A1, A2, A3, A4, O4, gc, gt, ge, gd, sc_, st_, se_, sd_, nfc, nft, nfe, nfd, nct, nce, ncd, nte, ntd, ned⟩ := hQ23
    have N24 := Fr.app N0 Nq23
    have pre23 : Rch p.tables e below (s₁.setTop (entryFrame m #[(.int p0), (.int p1), (.int p2), (.int p3), (.int p4), (.int p5)] maxLocals)) (T23.setTop (mkF m 53 #[.val (.int p0), .val (.int p1), .val (.int p2), .val (.int p3), .val (.int p4), .val (.int p5), .val (.int z), .val (.int j), .val (.int o), .val (.ref ws0), .unset, .unset] [(.ref f)])) := fun tgt ktg => pre22 tgt (st23.trans ktg)
    have f25 : Exa Z T23.heap ws0 "com/example/prudent_spot/prudentspot/capacity/Direction" := f13.keep Kq23
    have f26 : Exa Z T23.heap f "com/example/prudent_spot/prudentspot/placement/Fleet" := f16.keep Kq23
    have z27 : n0 ≤ T23.heap.size := Nat.le_trans z14 Kq23.1
    have K28 : Keep h0 T23.heap [] := K15.trans Kq23 (allS (P := fun x => x ∈ ([] : List Addr) ∨ h0.size ≤ x) (Or.inr sz_f) (all0 (P := fun x => x ∈ ([] : List Addr) ∨ h0.size ≤ x)))
    have pre29 : Rch p.tables e below (s₁.setTop (entryFrame m #[(.int p0), (.int p1), (.int p2), (.int p3), (.int p4), (.int p5)] maxLocals)) (T23.setTop (mkF m 59 #[.val (.int p0), .val (.int p1), .val (.int p2), .val (.int p3), .val (.int p4), .val (.int p5), .val (.int z), .val (.int j), .val (.int o), .val (.ref ws0), .val (.ref f), .unset] [(.int j), (.ref f)])) := fun tgt ktg => pre23 tgt (by
      show Steps p.tables e below (T23.setTop (mkF m 53 #[.val (.int p0), .val (.int p1), .val (.int p2), .val (.int p3), .val (.int p4), .val (.int p5), .val (.int z), .val (.int j), .val (.int o), .val (.ref ws0), .unset, .unset] [(.ref f)])) _
      refine XS.astore X23.here hx rfl (hb hby at_53) rfl rfl (l' := #[.val (.int p0), .val (.int p1), .val (.int p2), .val (.int p3), .val (.int p4), .val (.int p5), .val (.int z), .val (.int j), .val (.int o), .val (.ref ws0), .val (.ref f), .unset]) rfl ?_
      show Steps p.tables e below (T23.setTop (mkF m 55 #[.val (.int p0), .val (.int p1), .val (.int p2), .val (.int p3), .val (.int p4), .val (.int p5), .val (.int z), .val (.int j), .val (.int o), .val (.ref ws0), .val (.ref f), .unset] [])) _
      refine XS.aload X23.here hx rfl (hb hby at_55) rfl rfl ?_
      show Steps p.tables e below (T23.setTop (mkF m 57 #[.val (.int p0), .val (.int p1), .val (.int p2), .val (.int p3), .val (.int p4), .val (.int p5), .val (.int z), .val (.int j), .val (.int o), .val (.ref ws0), .val (.ref f), .unset] [(.ref f)])) _
      refine XS.iload X23.here hx rfl (hb hby at_57) rfl ?_
      exact ktg)
    obtain ⟨cq30, kq30, q30a, q30b, q30c⟩ := isOf hZ rfl E1
    obtain ⟨_, _, ⟨T30, L30, k30, n30⟩, -, X30, ⟨Lc30, hQ30, l30, y30, z30⟩, st30⟩ := X23.virtualBack hx (y := (⟨"com/example/prudent_spot/prudentspot/placement/Fleet", "freeCores", "(I)I"⟩ : MethodName)) (z := (⟨"com/example/prudent_spot/prudentspot/placement/Fleet", "freeCores", "(I)I"⟩ : MethodName)) hown (mvT hZ (hw _ (List.mem_of_getElem? (i := 30) rfl))) (mvT hZ (hw _ (List.mem_of_getElem? (i := 31) rfl))) (notFace_of_selects (args := #[]) (mvT hZ (hw _ (List.mem_of_getElem? (i := 33) rfl)))) (mvT hZ (hw _ (List.mem_of_getElem? (i := 33) rfl))) (mvT hZ (hw _ (List.mem_of_getElem? (i := 32) rfl))) (by decide) (backOf (W := 0) (rm3 l Z a0 hw [] f j c1 t1 kc kt z 0 0 [(.int (0 : Int32)), (.int (0 : Int32)), (.int (0 : Int32)), (.int (0 : Int32))] [(.int (0 : Int32)), (.int (0 : Int32)), (.int (0 : Int32)), (.int (0 : Int32))] T23.heap n0 z27 F1 F2 A1 A2 hj (own_z4 _) (own_z4 _)) hZ (hw _ (List.mem_of_getElem? (i := 34) rfl)) (hw _ (List.mem_of_getElem? (i := 6) rfl)) (by decide) (by decide)) q30a q30c (g := (mkF m 59 #[.val (.int p0), .val (.int p1), .val (.int p2), .val (.int p3), .val (.int p4), .val (.int p5), .val (.int z), .val (.int j), .val (.int o), .val (.ref ws0), .val (.ref f), .unset] [(.int j), (.ref f)])) rfl (by rw [hml]; rfl) (Steps.refl _) (argsL := [(.int j)]) (rest := []) (lenOf pd_1 rfl) rfl (by show 2 * 0 + _ ≤ _; exact Nat.le_of_eq rfl) (hb hby at_59) (fun _ _ => ⟨rfl, rfl, (by decide : 6 + 0 ≤ _), (by decide : 25 + 0 ≤ _)⟩)
    dsimp only [Pt.U, Pt.locs, Pt.cells, Pt.slots] at X30 l30 y30 z30 st30 hQ30
    subst l30 y30 z30
    obtain ⟨rfl, Nq30, eh30⟩ := hQ30
    have N31 := Fr.app N24 Nq30
    have pre30 : Rch p.tables e below (s₁.setTop (entryFrame m #[(.int p0), (.int p1), (.int p2), (.int p3), (.int p4), (.int p5)] maxLocals)) (T30.setTop (mkF m 62 #[.val (.int p0), .val (.int p1), .val (.int p2), .val (.int p3), .val (.int p4), .val (.int p5), .val (.int z), .val (.int j), .val (.int o), .val (.ref ws0), .val (.ref f), .unset] [(.int (0 - 0))])) := fun tgt ktg => pre29 tgt (st30.trans ktg)
    have pre32 : Rch p.tables e below (s₁.setTop (entryFrame m #[(.int p0), (.int p1), (.int p2), (.int p3), (.int p4), (.int p5)] maxLocals)) (T30.setTop (mkF m 80 #[.val (.int p0), .val (.int p1), .val (.int p2), .val (.int p3), .val (.int p4), .val (.int p5), .val (.int z), .val (.int j), .val (.int o), .val (.ref ws0), .val (.ref f), .val (.int (1 : Int32))] [(.ref ws0), (.int p2), .null, (.int j), (.ref f)])) := fun tgt ktg => pre30 tgt (by
      show Steps p.tables e below (T30.setTop (mkF m 62 #[.val (.int p0), .val (.int p1), .val (.int p2), .val (.int p3), .val (.int p4), .val (.int p5), .val (.int z), .val (.int j), .val (.int o), .val (.ref ws0), .val (.ref f), .unset] [(.int (0 - 0))])) _
      refine XS.ifNo X30.here hx rfl (hb hby at_62) rfl ((if0 _ _).trans (teq (rfl : (0 - 0 : Int32) = 0)).2) ?_
      show Steps p.tables e below (T30.setTop (mkF m 65 #[.val (.int p0), .val (.int p1), .val (.int p2), .val (.int p3), .val (.int p4), .val (.int p5), .val (.int z), .val (.int j), .val (.int o), .val (.ref ws0), .val (.ref f), .unset] [])) _
      refine XS.iconst X30.here hx rfl (hb hby at_65) ?_
      show Steps p.tables e below (T30.setTop (mkF m 66 #[.val (.int p0), .val (.int p1), .val (.int p2), .val (.int p3), .val (.int p4), .val (.int p5), .val (.int z), .val (.int j), .val (.int o), .val (.ref ws0), .val (.ref f), .unset] [(.int (1 : Int32))])) _
      refine XS.goto X30.here hx rfl (pc0 := 66) (pc' := 70) rfl (hb hby at_66) (by decide) (by decide) ?_
      show Steps p.tables e below (T30.setTop (mkF m 70 #[.val (.int p0), .val (.int p1), .val (.int p2), .val (.int p3), .val (.int p4), .val (.int p5), .val (.int z), .val (.int j), .val (.int o), .val (.ref ws0), .val (.ref f), .unset] [(.int (1 : Int32))])) _
      refine XS.istore X30.here hx rfl (hb hby at_70) rfl (l' := #[.val (.int p0), .val (.int p1), .val (.int p2), .val (.int p3), .val (.int p4), .val (.int p5), .val (.int z), .val (.int j), .val (.int o), .val (.ref ws0), .val (.ref f), .val (.int (1 : Int32))]) rfl ?_
      show Steps p.tables e below (T30.setTop (mkF m 72 #[.val (.int p0), .val (.int p1), .val (.int p2), .val (.int p3), .val (.int p4), .val (.int p5), .val (.int z), .val (.int j), .val (.int o), .val (.ref ws0), .val (.ref f), .val (.int (1 : Int32))] [])) _
      refine XS.aload X30.here hx rfl (hb hby at_72) rfl rfl ?_
      show Steps p.tables e below (T30.setTop (mkF m 74 #[.val (.int p0), .val (.int p1), .val (.int p2), .val (.int p3), .val (.int p4), .val (.int p5), .val (.int z), .val (.int j), .val (.int o), .val (.ref ws0), .val (.ref f), .val (.int (1 : Int32))] [(.ref f)])) _
      refine XS.iload X30.here hx rfl (hb hby at_74) rfl ?_
      show Steps p.tables e below (T30.setTop (mkF m 76 #[.val (.int p0), .val (.int p1), .val (.int p2), .val (.int p3), .val (.int p4), .val (.int p5), .val (.int z), .val (.int j), .val (.int o), .val (.ref ws0), .val (.ref f), .val (.int (1 : Int32))] [(.int j), (.ref f)])) _
      refine XS.aconstNull X30.here hx rfl (hb hby at_76) ?_
      show Steps p.tables e below (T30.setTop (mkF m 77 #[.val (.int p0), .val (.int p1), .val (.int p2), .val (.int p3), .val (.int p4), .val (.int p5), .val (.int z), .val (.int j), .val (.int o), .val (.ref ws0), .val (.ref f), .val (.int (1 : Int32))] [.null, (.int j), (.ref f)])) _
      refine XS.iloadN X30.here hx rfl (hb hby at_77) rfl ?_
      show Steps p.tables e below (T30.setTop (mkF m 78 #[.val (.int p0), .val (.int p1), .val (.int p2), .val (.int p3), .val (.int p4), .val (.int p5), .val (.int z), .val (.int j), .val (.int o), .val (.ref ws0), .val (.ref f), .val (.int (1 : Int32))] [(.int p2), .null, (.int j), (.ref f)])) _
      refine XS.aload X30.here hx rfl (hb hby at_78) rfl rfl ?_
      exact ktg)
    obtain ⟨cq33, kq33, q33a, q33b, q33c⟩ := isOf hZ eh30 E1
    obtain ⟨_, _, ⟨T33, L33, k33, n33⟩, -, X33, ⟨Lc33, hQ33, l33, y33, z33⟩, st33⟩ := X30.virtualBack hx (y := (⟨"com/example/prudent_spot/prudentspot/placement/Fleet", "change", "(ILjava/time/Instant;ILcom/example/prudent_spot/prudentspot/capacity/Direction;)V"⟩ : MethodName)) (z := (⟨"com/example/prudent_spot/prudentspot/placement/Fleet", "change", "(ILjava/time/Instant;ILcom/example/prudent_spot/prudentspot/capacity/Direction;)V"⟩ : MethodName)) hown (mvT hZ (hw _ (List.mem_of_getElem? (i := 35) rfl))) (mvT hZ (hw _ (List.mem_of_getElem? (i := 36) rfl))) (notFace_of_selects (args := #[]) (mvT hZ (hw _ (List.mem_of_getElem? (i := 38) rfl)))) (mvT hZ (hw _ (List.mem_of_getElem? (i := 38) rfl))) (mvT hZ (hw _ (List.mem_of_getElem? (i := 37) rfl))) (by decide) (backOf (W := 0) (rm4 l Z a0 hw [] f j p2 ws0 c1 le ld kc ke kd z [(.int (0 : Int32)), (.int (0 : Int32)), (.int (0 : Int32)), (.int (0 : Int32))] T23.heap n0 z27 F1 F3 F4 A1 A3 A4 O4 f25 hj pj pj gc ge gd nfc nfe nfd nce ncd ned) hZ (hw _ (List.mem_of_getElem? (i := 39) rfl)) (hw _ (List.mem_of_getElem? (i := 6) rfl)) (by decide) (by decide)) q33a q33c (g := (mkF m 80 #[.val (.int p0), .val (.int p1), .val (.int p2), .val (.int p3), .val (.int p4), .val (.int p5), .val (.int z), .val (.int j), .val (.int o), .val (.ref ws0), .val (.ref f), .val (.int (1 : Int32))] [(.ref ws0), (.int p2), .null, (.int j), (.ref f)])) rfl (by rw [hml]; rfl) (Steps.refl _) (argsL := [(.int j), .null, (.int p2), (.ref ws0)]) (rest := []) (lenOf pd_2 rfl) rfl (by show 2 * 0 + _ ≤ _; exact Nat.le_of_eq rfl) (hb hby at_80) (fun _ _ => ⟨rfl, eh30, (by decide : 6 + 0 ≤ _), (by decide : 25 + 0 ≤ _)⟩)
    dsimp only [Pt.U, Pt.locs, Pt.cells, Pt.slots] at X33 l33 y33 z33 st33 hQ33
    subst l33 y33 z33
    obtain ⟨rfl, Nq33, Kq33, A5⟩ := hQ33
    have N34 := Fr.app N31 Nq33
    have pre33 : Rch p.tables e below (s₁.setTop (entryFrame m #[(.int p0), (.int p1), (.int p2), (.int p3), (.int p4), (.int p5)] maxLocals)) (T33.setTop (mkF m 83 #[.val (.int p0), .val (.int p1), .val (.int p2), .val (.int p3), .val (.int p4), .val (.int p5), .val (.int z), .val (.int j), .val (.int o), .val (.ref ws0), .val (.ref f), .val (.int (1 : Int32))] [])) := fun tgt ktg => pre32 tgt (st33.trans ktg)
    have f35 : Exa Z T33.heap ws0 "com/example/prudent_spot/prudentspot/capacity/Direction" := f25.keep Kq33
    have f36 : Exa Z T33.heap f "com/example/prudent_spot/prudentspot/placement/Fleet" := E1.keep Kq33
    have f37 : Fld Z T33.heap f "com/example/prudent_spot/prudentspot/placement/Fleet" "cores" "[I" (.ref c1) := F1.keep Kq33 (ninS nfc (ninS nfe (ninS nfd nin0)))
    have f38 : Fld Z T33.heap f "com/example/prudent_spot/prudentspot/placement/Fleet" "taken" "[I" (.ref t1) := F2.keep Kq33 (ninS nfc (ninS nfe (ninS nfd nin0)))
    have f39 : Fld Z T33.heap f "com/example/prudent_spot/prudentspot/placement/Fleet" "lastEvent" "[Ljava/time/Instant;" (.ref le) := F3.keep Kq33 (ninS nfc (ninS nfe (ninS nfd nin0)))
    have f40 : Fld Z T33.heap f "com/example/prudent_spot/prudentspot/placement/Fleet" "lastDirection" "[Lcom/example/prudent_spot/prudentspot/capacity/Direction;" (.ref ld) := F4.keep Kq33 (ninS nfc (ninS nfe (ninS nfd nin0)))
    have f41 : Arv Z T33.heap t1 kt .int z [(.int (0 : Int32)), (.int (0 : Int32)), (.int (0 : Int32)), (.int (0 : Int32))] (.int (0 : Int32)) := A2.keep Kq33 (ninS (Ne.symm nct) (ninS nte (ninS ntd nin0)))
    have z42 : n0 ≤ T33.heap.size := Nat.le_trans z27 Kq33.1
    have K43 : Keep h0 T33.heap [] := K28.trans Kq33 (allS (P := fun x => x ∈ ([] : List Addr) ∨ h0.size ≤ x) (Or.inr (Nat.le_trans K15.1 sc_)) (allS (P := fun x => x ∈ ([] : List Addr) ∨ h0.size ≤ x) (Or.inr (Nat.le_trans K15.1 se_)) (allS (P := fun x => x ∈ ([] : List Addr) ∨ h0.size ≤ x) (Or.inr (Nat.le_trans K15.1 sd_)) (all0 (P := fun x => x ∈ ([] : List Addr) ∨ h0.size ≤ x)))))
    have pre44 : Rch p.tables e below (s₁.setTop (entryFrame m #[(.int p0), (.int p1), (.int p2), (.int p3), (.int p4), (.int p5)] maxLocals)) (T33.setTop (mkF m 92 #[.val (.int p0), .val (.int p1), .val (.int p2), .val (.int p3), .val (.int p4), .val (.int p5), .val (.int z), .val (.int j), .val (.int o), .val (.ref ws0), .val (.ref f), .val (.int (1 : Int32))] [(.int j), (.ref f)])) := fun tgt ktg => pre33 tgt (by
      show Steps p.tables e below (T33.setTop (mkF m 83 #[.val (.int p0), .val (.int p1), .val (.int p2), .val (.int p3), .val (.int p4), .val (.int p5), .val (.int z), .val (.int j), .val (.int o), .val (.ref ws0), .val (.ref f), .val (.int (1 : Int32))] [])) _
      refine XS.iload X33.here hx rfl (hb hby at_83) rfl ?_
      show Steps p.tables e below (T33.setTop (mkF m 85 #[.val (.int p0), .val (.int p1), .val (.int p2), .val (.int p3), .val (.int p4), .val (.int p5), .val (.int z), .val (.int j), .val (.int o), .val (.ref ws0), .val (.ref f), .val (.int (1 : Int32))] [(.int (1 : Int32))])) _
      refine XS.ifNo X33.here hx rfl (hb hby at_85) rfl ((if0 _ _).trans (feq (by decide : ¬ ((1 : Int32) = (0 : Int32)))).1) ?_
      show Steps p.tables e below (T33.setTop (mkF m 88 #[.val (.int p0), .val (.int p1), .val (.int p2), .val (.int p3), .val (.int p4), .val (.int p5), .val (.int z), .val (.int j), .val (.int o), .val (.ref ws0), .val (.ref f), .val (.int (1 : Int32))] [])) _
      refine XS.aload X33.here hx rfl (hb hby at_88) rfl rfl ?_
      show Steps p.tables e below (T33.setTop (mkF m 90 #[.val (.int p0), .val (.int p1), .val (.int p2), .val (.int p3), .val (.int p4), .val (.int p5), .val (.int z), .val (.int j), .val (.int o), .val (.ref ws0), .val (.ref f), .val (.int (1 : Int32))] [(.ref f)])) _
      refine XS.iload X33.here hx rfl (hb hby at_90) rfl ?_
      exact ktg)
    obtain ⟨cq45, kq45, q45a, q45b, q45c⟩ := isOf hZ rfl f36
    obtain ⟨_, _, ⟨T45, L45, k45, n45⟩, -, X45, ⟨Lc45, hQ45, l45, y45, z45⟩, st45⟩ := X33.virtualBack hx (y := (⟨"com/example/prudent_spot/prudentspot/placement/Fleet", "freeCores", "(I)I"⟩ : MethodName)) (z := (⟨"com/example/prudent_spot/prudentspot/placement/Fleet", "freeCores", "(I)I"⟩ : MethodName)) hown (mvT hZ (hw _ (List.mem_of_getElem? (i := 30) rfl))) (mvT hZ (hw _ (List.mem_of_getElem? (i := 31) rfl))) (notFace_of_selects (args := #[]) (mvT hZ (hw _ (List.mem_of_getElem? (i := 33) rfl)))) (mvT hZ (hw _ (List.mem_of_getElem? (i := 33) rfl))) (mvT hZ (hw _ (List.mem_of_getElem? (i := 32) rfl))) (by decide) (backOf (W := 0) (rm3 l Z a0 hw [] f j c1 t1 kc kt z p2 0 (([(.int (0 : Int32)), (.int (0 : Int32)), (.int (0 : Int32)), (.int (0 : Int32))] : List Value).set j.toNatClampNeg (.int p2)) [(.int (0 : Int32)), (.int (0 : Int32)), (.int (0 : Int32)), (.int (0 : Int32))] T33.heap n0 z42 f37 f38 A5 f41 hj (own_hit pj) (own_z4 _)) hZ (hw _ (List.mem_of_getElem? (i := 34) rfl)) (hw _ (List.mem_of_getElem? (i := 6) rfl)) (by decide) (by decide)) q45a q45c (g := (mkF m 92 #[.val (.int p0), .val (.int p1), .val (.int p2), .val (.int p3), .val (.int p4), .val (.int p5), .val (.int z), .val (.int j), .val (.int o), .val (.ref ws0), .val (.ref f), .val (.int (1 : Int32))] [(.int j), (.ref f)])) rfl (by rw [hml]; rfl) (Steps.refl _) (argsL := [(.int j)]) (rest := []) (lenOf pd_1 rfl) rfl (by show 2 * 0 + _ ≤ _; exact Nat.le_of_eq rfl) (hb hby at_92) (fun _ _ => ⟨rfl, rfl, (by decide : 6 + 0 ≤ _), (by decide : 25 + 0 ≤ _)⟩)
    dsimp only [Pt.U, Pt.locs, Pt.cells, Pt.slots] at X45 l45 y45 z45 st45 hQ45
    subst l45 y45 z45
    obtain ⟨rfl, Nq45, eh45⟩ := hQ45
    have N46 := Fr.app N34 Nq45
    have pre45 : Rch p.tables e below (s₁.setTop (entryFrame m #[(.int p0), (.int p1), (.int p2), (.int p3), (.int p4), (.int p5)] maxLocals)) (T45.setTop (mkF m 95 #[.val (.int p0), .val (.int p1), .val (.int p2), .val (.int p3), .val (.int p4), .val (.int p5), .val (.int z), .val (.int j), .val (.int o), .val (.ref ws0), .val (.ref f), .val (.int (1 : Int32))] [(.int (p2 - 0))])) := fun tgt ktg => pre44 tgt (st45.trans ktg)
    have pre47 : Rch p.tables e below (s₁.setTop (entryFrame m #[(.int p0), (.int p1), (.int p2), (.int p3), (.int p4), (.int p5)] maxLocals)) (T45.setTop (mkF m 96 #[.val (.int p0), .val (.int p1), .val (.int p2), .val (.int p3), .val (.int p4), .val (.int p5), .val (.int z), .val (.int j), .val (.int o), .val (.ref ws0), .val (.ref f), .val (.int (1 : Int32))] [(.int p2), (.int (p2 - 0))])) := fun tgt ktg => pre45 tgt (by
      show Steps p.tables e below (T45.setTop (mkF m 95 #[.val (.int p0), .val (.int p1), .val (.int p2), .val (.int p3), .val (.int p4), .val (.int p5), .val (.int z), .val (.int j), .val (.int o), .val (.ref ws0), .val (.ref f), .val (.int (1 : Int32))] [(.int (p2 - 0))])) _
      refine XS.iloadN X45.here hx rfl (hb hby at_95) rfl ?_
      exact ktg)
    have pre48 : Rch p.tables e below (s₁.setTop (entryFrame m #[(.int p0), (.int p1), (.int p2), (.int p3), (.int p4), (.int p5)] maxLocals)) (T45.setTop (mkF m 111 #[.val (.int p0), .val (.int p1), .val (.int p2), .val (.int p3), .val (.int p4), .val (.int p5), .val (.int z), .val (.int j), .val (.int o), .val (.ref ws0), .val (.ref f), .val (.int (1 : Int32))] [(.int p3), (.int j), (.ref f)])) := fun tgt ktg => pre47 tgt (by
      show Steps p.tables e below (T45.setTop (mkF m 96 #[.val (.int p0), .val (.int p1), .val (.int p2), .val (.int p3), .val (.int p4), .val (.int p5), .val (.int z), .val (.int j), .val (.int o), .val (.ref ws0), .val (.ref f), .val (.int (1 : Int32))] [(.int p2), (.int (p2 - 0))])) _
      refine XS.icmpNo X45.here hx rfl (hb hby at_96) rfl (teq (Int32.sub_zero p2)).2 ?_
      show Steps p.tables e below (T45.setTop (mkF m 99 #[.val (.int p0), .val (.int p1), .val (.int p2), .val (.int p3), .val (.int p4), .val (.int p5), .val (.int z), .val (.int j), .val (.int o), .val (.ref ws0), .val (.ref f), .val (.int (1 : Int32))] [])) _
      refine XS.iconst X45.here hx rfl (hb hby at_99) ?_
      show Steps p.tables e below (T45.setTop (mkF m 100 #[.val (.int p0), .val (.int p1), .val (.int p2), .val (.int p3), .val (.int p4), .val (.int p5), .val (.int z), .val (.int j), .val (.int o), .val (.ref ws0), .val (.ref f), .val (.int (1 : Int32))] [(.int (1 : Int32))])) _
      refine XS.goto X45.here hx rfl (pc0 := 100) (pc' := 104) rfl (hb hby at_100) (by decide) (by decide) ?_
      show Steps p.tables e below (T45.setTop (mkF m 104 #[.val (.int p0), .val (.int p1), .val (.int p2), .val (.int p3), .val (.int p4), .val (.int p5), .val (.int z), .val (.int j), .val (.int o), .val (.ref ws0), .val (.ref f), .val (.int (1 : Int32))] [(.int (1 : Int32))])) _
      refine XS.istore X45.here hx rfl (hb hby at_104) rfl (l' := #[.val (.int p0), .val (.int p1), .val (.int p2), .val (.int p3), .val (.int p4), .val (.int p5), .val (.int z), .val (.int j), .val (.int o), .val (.ref ws0), .val (.ref f), .val (.int (1 : Int32))]) rfl ?_
      show Steps p.tables e below (T45.setTop (mkF m 106 #[.val (.int p0), .val (.int p1), .val (.int p2), .val (.int p3), .val (.int p4), .val (.int p5), .val (.int z), .val (.int j), .val (.int o), .val (.ref ws0), .val (.ref f), .val (.int (1 : Int32))] [])) _
      refine XS.aload X45.here hx rfl (hb hby at_106) rfl rfl ?_
      show Steps p.tables e below (T45.setTop (mkF m 108 #[.val (.int p0), .val (.int p1), .val (.int p2), .val (.int p3), .val (.int p4), .val (.int p5), .val (.int z), .val (.int j), .val (.int o), .val (.ref ws0), .val (.ref f), .val (.int (1 : Int32))] [(.ref f)])) _
      refine XS.iload X45.here hx rfl (hb hby at_108) rfl ?_
      show Steps p.tables e below (T45.setTop (mkF m 110 #[.val (.int p0), .val (.int p1), .val (.int p2), .val (.int p3), .val (.int p4), .val (.int p5), .val (.int z), .val (.int j), .val (.int o), .val (.ref ws0), .val (.ref f), .val (.int (1 : Int32))] [(.int j), (.ref f)])) _
      refine XS.iloadN X45.here hx rfl (hb hby at_110) rfl ?_
      exact ktg)
    obtain ⟨cq49, kq49, q49a, q49b, q49c⟩ := isOf hZ eh45 f36
    obtain ⟨_, _, ⟨T49, L49, k49, n49⟩, -, X49, ⟨Lc49, hQ49, l49, y49, z49⟩, st49⟩ := X45.virtualBack hx (y := (⟨"com/example/prudent_spot/prudentspot/placement/Fleet", "take", "(II)V"⟩ : MethodName)) (z := (⟨"com/example/prudent_spot/prudentspot/placement/Fleet", "take", "(II)V"⟩ : MethodName)) hown (mvT hZ (hw _ (List.mem_of_getElem? (i := 41) rfl))) (mvT hZ (hw _ (List.mem_of_getElem? (i := 42) rfl))) (notFace_of_selects (args := #[]) (mvT hZ (hw _ (List.mem_of_getElem? (i := 44) rfl)))) (mvT hZ (hw _ (List.mem_of_getElem? (i := 44) rfl))) (mvT hZ (hw _ (List.mem_of_getElem? (i := 43) rfl))) (by decide) (backOf (W := 0) (rm5 l Z a0 hw [] f j p3 t1 kt z 0 [(.int (0 : Int32)), (.int (0 : Int32)), (.int (0 : Int32)), (.int (0 : Int32))] T33.heap n0 z42 f38 f41 hj (own_z4 _) pj gt nft) hZ (hw _ (List.mem_of_getElem? (i := 45) rfl)) (hw _ (List.mem_of_getElem? (i := 6) rfl)) (by decide) (by decide)) q49a q49c (g := (mkF m 111 #[.val (.int p0), .val (.int p1), .val (.int p2), .val (.int p3), .val (.int p4), .val (.int p5), .val (.int z), .val (.int j), .val (.int o), .val (.ref ws0), .val (.ref f), .val (.int (1 : Int32))] [(.int p3), (.int j), (.ref f)])) rfl (by rw [hml]; rfl) (Steps.refl _) (argsL := [(.int j), (.int p3)]) (rest := []) (lenOf pd_3 rfl) rfl (by show 2 * 0 + _ ≤ _; exact Nat.le_of_eq rfl) (hb hby at_111) (fun _ _ => ⟨rfl, eh45, (by decide : 6 + 0 ≤ _), (by decide : 25 + 0 ≤ _)⟩)
    dsimp only [Pt.U, Pt.locs, Pt.cells, Pt.slots] at X49 l49 y49 z49 st49 hQ49
    subst l49 y49 z49
    obtain ⟨rfl, Nq49, Kq49, A6⟩ := hQ49
    have N50 := Fr.app N46 Nq49
    have pre49 : Rch p.tables e below (s₁.setTop (entryFrame m #[(.int p0), (.int p1), (.int p2), (.int p3), (.int p4), (.int p5)] maxLocals)) (T49.setTop (mkF m 114 #[.val (.int p0), .val (.int p1), .val (.int p2), .val (.int p3), .val (.int p4), .val (.int p5), .val (.int z), .val (.int j), .val (.int o), .val (.ref ws0), .val (.ref f), .val (.int (1 : Int32))] [])) := fun tgt ktg => pre48 tgt (st49.trans ktg)
    have f51 : Exa Z T49.heap ws0 "com/example/prudent_spot/prudentspot/capacity/Direction" := f35.keep Kq49
    have f52 : Exa Z T49.heap f "com/example/prudent_spot/prudentspot/placement/Fleet" := f36.keep Kq49
    have f53 : Fld Z T49.heap f "com/example/prudent_spot/prudentspot/placement/Fleet" "cores" "[I" (.ref c1) := f37.keep Kq49 (ninS nft nin0)
    have f54 : Fld Z T49.heap f "com/example/prudent_spot/prudentspot/placement/Fleet" "taken" "[I" (.ref t1) := f38.keep Kq49 (ninS nft nin0)
    have f55 : Fld Z T49.heap f "com/example/prudent_spot/prudentspot/placement/Fleet" "lastEvent" "[Ljava/time/Instant;" (.ref le) := f39.keep Kq49 (ninS nft nin0)
    have f56 : Fld Z T49.heap f "com/example/prudent_spot/prudentspot/placement/Fleet" "lastDirection" "[Lcom/example/prudent_spot/prudentspot/capacity/Direction;" (.ref ld) := f40.keep Kq49 (ninS nft nin0)
    have f57 : Arv Z T49.heap c1 kc .int z (([(.int (0 : Int32)), (.int (0 : Int32)), (.int (0 : Int32)), (.int (0 : Int32))] : List Value).set j.toNatClampNeg (.int p2)) (.int (0 : Int32)) := A5.keep Kq49 (ninS nct nin0)
    have z58 : n0 ≤ T49.heap.size := Nat.le_trans z42 Kq49.1
    have K59 : Keep h0 T49.heap [] := K43.trans Kq49 (allS (P := fun x => x ∈ ([] : List Addr) ∨ h0.size ≤ x) (Or.inr (Nat.le_trans K15.1 st_)) (all0 (P := fun x => x ∈ ([] : List Addr) ∨ h0.size ≤ x)))
    have pre60 : Rch p.tables e below (s₁.setTop (entryFrame m #[(.int p0), (.int p1), (.int p2), (.int p3), (.int p4), (.int p5)] maxLocals)) (T49.setTop (mkF m 120 #[.val (.int p0), .val (.int p1), .val (.int p2), .val (.int p3), .val (.int p4), .val (.int p5), .val (.int z), .val (.int j), .val (.int o), .val (.ref ws0), .val (.ref f), .val (.int (1 : Int32))] [(.int p4), (.int j), (.ref f)])) := fun tgt ktg => pre49 tgt (by
      show Steps p.tables e below (T49.setTop (mkF m 114 #[.val (.int p0), .val (.int p1), .val (.int p2), .val (.int p3), .val (.int p4), .val (.int p5), .val (.int z), .val (.int j), .val (.int o), .val (.ref ws0), .val (.ref f), .val (.int (1 : Int32))] [])) _
      refine XS.aload X49.here hx rfl (hb hby at_114) rfl rfl ?_
      show Steps p.tables e below (T49.setTop (mkF m 116 #[.val (.int p0), .val (.int p1), .val (.int p2), .val (.int p3), .val (.int p4), .val (.int p5), .val (.int z), .val (.int j), .val (.int o), .val (.ref ws0), .val (.ref f), .val (.int (1 : Int32))] [(.ref f)])) _
      refine XS.iload X49.here hx rfl (hb hby at_116) rfl ?_
      show Steps p.tables e below (T49.setTop (mkF m 118 #[.val (.int p0), .val (.int p1), .val (.int p2), .val (.int p3), .val (.int p4), .val (.int p5), .val (.int z), .val (.int j), .val (.int o), .val (.ref ws0), .val (.ref f), .val (.int (1 : Int32))] [(.int j), (.ref f)])) _
      refine XS.iload X49.here hx rfl (hb hby at_118) rfl ?_
      exact ktg)
    obtain ⟨cq61, kq61, q61a, q61b, q61c⟩ := isOf hZ rfl f52
    obtain ⟨_, _, ⟨T61, L61, k61, n61⟩, -, X61, ⟨Lc61, hQ61, l61, y61, z61⟩, st61⟩ := X49.virtualBack hx (y := (⟨"com/example/prudent_spot/prudentspot/placement/Fleet", "release", "(II)V"⟩ : MethodName)) (z := (⟨"com/example/prudent_spot/prudentspot/placement/Fleet", "release", "(II)V"⟩ : MethodName)) hown (mvT hZ (hw _ (List.mem_of_getElem? (i := 46) rfl))) (mvT hZ (hw _ (List.mem_of_getElem? (i := 47) rfl))) (notFace_of_selects (args := #[]) (mvT hZ (hw _ (List.mem_of_getElem? (i := 49) rfl)))) (mvT hZ (hw _ (List.mem_of_getElem? (i := 49) rfl))) (mvT hZ (hw _ (List.mem_of_getElem? (i := 48) rfl))) (by decide) (backOf (W := 0) (rm6 l Z a0 hw [] f j p4 t1 kt z (0 + p3) (([(.int (0 : Int32)), (.int (0 : Int32)), (.int (0 : Int32)), (.int (0 : Int32))] : List Value).set j.toNatClampNeg (.int (0 + p3))) T49.heap n0 z58 f54 A6 hj (own_hit pj) (by simpa using pj) gt nft) hZ (hw _ (List.mem_of_getElem? (i := 50) rfl)) (hw _ (List.mem_of_getElem? (i := 6) rfl)) (by decide) (by decide)) q61a q61c (g := (mkF m 120 #[.val (.int p0), .val (.int p1), .val (.int p2), .val (.int p3), .val (.int p4), .val (.int p5), .val (.int z), .val (.int j), .val (.int o), .val (.ref ws0), .val (.ref f), .val (.int (1 : Int32))] [(.int p4), (.int j), (.ref f)])) rfl (by rw [hml]; rfl) (Steps.refl _) (argsL := [(.int j), (.int p4)]) (rest := []) (lenOf pd_3 rfl) rfl (by show 2 * 0 + _ ≤ _; exact Nat.le_of_eq rfl) (hb hby at_120) (fun _ _ => ⟨rfl, rfl, (by decide : 6 + 0 ≤ _), (by decide : 25 + 0 ≤ _)⟩)
    dsimp only [Pt.U, Pt.locs, Pt.cells, Pt.slots] at X61 l61 y61 z61 st61 hQ61
    subst l61 y61 z61
    obtain ⟨rfl, Nq61, Kq61, A7⟩ := hQ61
    have N62 := Fr.app N50 Nq61
    have pre61 : Rch p.tables e below (s₁.setTop (entryFrame m #[(.int p0), (.int p1), (.int p2), (.int p3), (.int p4), (.int p5)] maxLocals)) (T61.setTop (mkF m 123 #[.val (.int p0), .val (.int p1), .val (.int p2), .val (.int p3), .val (.int p4), .val (.int p5), .val (.int z), .val (.int j), .val (.int o), .val (.ref ws0), .val (.ref f), .val (.int (1 : Int32))] [])) := fun tgt ktg => pre60 tgt (st61.trans ktg)
    have f63 : Exa Z T61.heap ws0 "com/example/prudent_spot/prudentspot/capacity/Direction" := f51.keep Kq61
    have f64 : Exa Z T61.heap f "com/example/prudent_spot/prudentspot/placement/Fleet" := f52.keep Kq61
    have f65 : Fld Z T61.heap f "com/example/prudent_spot/prudentspot/placement/Fleet" "cores" "[I" (.ref c1) := f53.keep Kq61 (ninS nft nin0)
    have f66 : Fld Z T61.heap f "com/example/prudent_spot/prudentspot/placement/Fleet" "taken" "[I" (.ref t1) := f54.keep Kq61 (ninS nft nin0)
    have f67 : Fld Z T61.heap f "com/example/prudent_spot/prudentspot/placement/Fleet" "lastEvent" "[Ljava/time/Instant;" (.ref le) := f55.keep Kq61 (ninS nft nin0)
    have f68 : Fld Z T61.heap f "com/example/prudent_spot/prudentspot/placement/Fleet" "lastDirection" "[Lcom/example/prudent_spot/prudentspot/capacity/Direction;" (.ref ld) := f56.keep Kq61 (ninS nft nin0)
    have f69 : Arv Z T61.heap c1 kc .int z (([(.int (0 : Int32)), (.int (0 : Int32)), (.int (0 : Int32)), (.int (0 : Int32))] : List Value).set j.toNatClampNeg (.int p2)) (.int (0 : Int32)) := f57.keep Kq61 (ninS nct nin0)
    have z70 : n0 ≤ T61.heap.size := Nat.le_trans z58 Kq61.1
    have K71 : Keep h0 T61.heap [] := K59.trans Kq61 (allS (P := fun x => x ∈ ([] : List Addr) ∨ h0.size ≤ x) (Or.inr (Nat.le_trans K15.1 st_)) (all0 (P := fun x => x ∈ ([] : List Addr) ∨ h0.size ≤ x)))
    have pre72 : Rch p.tables e below (s₁.setTop (entryFrame m #[(.int p0), (.int p1), (.int p2), (.int p3), (.int p4), (.int p5)] maxLocals)) (T61.setTop (mkF m 132 #[.val (.int p0), .val (.int p1), .val (.int p2), .val (.int p3), .val (.int p4), .val (.int p5), .val (.int z), .val (.int j), .val (.int o), .val (.ref ws0), .val (.ref f), .val (.int (1 : Int32))] [(.int j), (.ref f)])) := fun tgt ktg => pre61 tgt (by
      show Steps p.tables e below (T61.setTop (mkF m 123 #[.val (.int p0), .val (.int p1), .val (.int p2), .val (.int p3), .val (.int p4), .val (.int p5), .val (.int z), .val (.int j), .val (.int o), .val (.ref ws0), .val (.ref f), .val (.int (1 : Int32))] [])) _
      refine XS.iload X61.here hx rfl (hb hby at_123) rfl ?_
      show Steps p.tables e below (T61.setTop (mkF m 125 #[.val (.int p0), .val (.int p1), .val (.int p2), .val (.int p3), .val (.int p4), .val (.int p5), .val (.int z), .val (.int j), .val (.int o), .val (.ref ws0), .val (.ref f), .val (.int (1 : Int32))] [(.int (1 : Int32))])) _
      refine XS.ifNo X61.here hx rfl (hb hby at_125) rfl ((if0 _ _).trans (feq (by decide : ¬ ((1 : Int32) = (0 : Int32)))).1) ?_
      show Steps p.tables e below (T61.setTop (mkF m 128 #[.val (.int p0), .val (.int p1), .val (.int p2), .val (.int p3), .val (.int p4), .val (.int p5), .val (.int z), .val (.int j), .val (.int o), .val (.ref ws0), .val (.ref f), .val (.int (1 : Int32))] [])) _
      refine XS.aload X61.here hx rfl (hb hby at_128) rfl rfl ?_
      show Steps p.tables e below (T61.setTop (mkF m 130 #[.val (.int p0), .val (.int p1), .val (.int p2), .val (.int p3), .val (.int p4), .val (.int p5), .val (.int z), .val (.int j), .val (.int o), .val (.ref ws0), .val (.ref f), .val (.int (1 : Int32))] [(.ref f)])) _
      refine XS.iload X61.here hx rfl (hb hby at_130) rfl ?_
      exact ktg)
    obtain ⟨cq73, kq73, q73a, q73b, q73c⟩ := isOf hZ rfl f64
    obtain ⟨_, _, ⟨T73, L73, k73, n73⟩, -, X73, ⟨Lc73, hQ73, l73, y73, z73⟩, st73⟩ := X61.virtualBack hx (y := (⟨"com/example/prudent_spot/prudentspot/placement/Fleet", "freeCores", "(I)I"⟩ : MethodName)) (z := (⟨"com/example/prudent_spot/prudentspot/placement/Fleet", "freeCores", "(I)I"⟩ : MethodName)) hown (mvT hZ (hw _ (List.mem_of_getElem? (i := 30) rfl))) (mvT hZ (hw _ (List.mem_of_getElem? (i := 31) rfl))) (notFace_of_selects (args := #[]) (mvT hZ (hw _ (List.mem_of_getElem? (i := 33) rfl)))) (mvT hZ (hw _ (List.mem_of_getElem? (i := 33) rfl))) (mvT hZ (hw _ (List.mem_of_getElem? (i := 32) rfl))) (by decide) (backOf (W := 0) (rm3 l Z a0 hw [] f j c1 t1 kc kt z p2 ((0 + p3) - p4) (([(.int (0 : Int32)), (.int (0 : Int32)), (.int (0 : Int32)), (.int (0 : Int32))] : List Value).set j.toNatClampNeg (.int p2)) ((([(.int (0 : Int32)), (.int (0 : Int32)), (.int (0 : Int32)), (.int (0 : Int32))] : List Value).set j.toNatClampNeg (.int (0 + p3))).set j.toNatClampNeg (.int ((0 + p3) - p4))) T61.heap n0 z70 f65 f66 f69 A7 hj (own_hit pj) (own_hit (by simpa using pj))) hZ (hw _ (List.mem_of_getElem? (i := 34) rfl)) (hw _ (List.mem_of_getElem? (i := 6) rfl)) (by decide) (by decide)) q73a q73c (g := (mkF m 132 #[.val (.int p0), .val (.int p1), .val (.int p2), .val (.int p3), .val (.int p4), .val (.int p5), .val (.int z), .val (.int j), .val (.int o), .val (.ref ws0), .val (.ref f), .val (.int (1 : Int32))] [(.int j), (.ref f)])) rfl (by rw [hml]; rfl) (Steps.refl _) (argsL := [(.int j)]) (rest := []) (lenOf pd_1 rfl) rfl (by show 2 * 0 + _ ≤ _; exact Nat.le_of_eq rfl) (hb hby at_132) (fun _ _ => ⟨rfl, rfl, (by decide : 6 + 0 ≤ _), (by decide : 25 + 0 ≤ _)⟩)
    dsimp only [Pt.U, Pt.locs, Pt.cells, Pt.slots] at X73 l73 y73 z73 st73 hQ73
    subst l73 y73 z73
    obtain ⟨rfl, Nq73, eh73⟩ := hQ73
    have N74 := Fr.app N62 Nq73
    have pre73 : Rch p.tables e below (s₁.setTop (entryFrame m #[(.int p0), (.int p1), (.int p2), (.int p3), (.int p4), (.int p5)] maxLocals)) (T73.setTop (mkF m 135 #[.val (.int p0), .val (.int p1), .val (.int p2), .val (.int p3), .val (.int p4), .val (.int p5), .val (.int z), .val (.int j), .val (.int o), .val (.ref ws0), .val (.ref f), .val (.int (1 : Int32))] [(.int (p2 - ((0 + p3) - p4)))])) := fun tgt ktg => pre72 tgt (st73.trans ktg)
    have pre75 : Rch p.tables e below (s₁.setTop (entryFrame m #[(.int p0), (.int p1), (.int p2), (.int p3), (.int p4), (.int p5)] maxLocals)) (T73.setTop (mkF m 141 #[.val (.int p0), .val (.int p1), .val (.int p2), .val (.int p3), .val (.int p4), .val (.int p5), .val (.int z), .val (.int j), .val (.int o), .val (.ref ws0), .val (.ref f), .val (.int (1 : Int32))] [(.int ((p2 - p3) + p4)), (.int (p2 - ((0 + p3) - p4)))])) := fun tgt ktg => pre73 tgt (by
      show Steps p.tables e below (T73.setTop (mkF m 135 #[.val (.int p0), .val (.int p1), .val (.int p2), .val (.int p3), .val (.int p4), .val (.int p5), .val (.int z), .val (.int j), .val (.int o), .val (.ref ws0), .val (.ref f), .val (.int (1 : Int32))] [(.int (p2 - ((0 + p3) - p4)))])) _
      refine XS.iloadN X73.here hx rfl (hb hby at_135) rfl ?_
      show Steps p.tables e below (T73.setTop (mkF m 136 #[.val (.int p0), .val (.int p1), .val (.int p2), .val (.int p3), .val (.int p4), .val (.int p5), .val (.int z), .val (.int j), .val (.int o), .val (.ref ws0), .val (.ref f), .val (.int (1 : Int32))] [(.int p2), (.int (p2 - ((0 + p3) - p4)))])) _
      refine XS.iloadN X73.here hx rfl (hb hby at_136) rfl ?_
      show Steps p.tables e below (T73.setTop (mkF m 137 #[.val (.int p0), .val (.int p1), .val (.int p2), .val (.int p3), .val (.int p4), .val (.int p5), .val (.int z), .val (.int j), .val (.int o), .val (.ref ws0), .val (.ref f), .val (.int (1 : Int32))] [(.int p3), (.int p2), (.int (p2 - ((0 + p3) - p4)))])) _
      refine XS.isub X73.here hx rfl (hb hby at_137) rfl ?_
      show Steps p.tables e below (T73.setTop (mkF m 138 #[.val (.int p0), .val (.int p1), .val (.int p2), .val (.int p3), .val (.int p4), .val (.int p5), .val (.int z), .val (.int j), .val (.int o), .val (.ref ws0), .val (.ref f), .val (.int (1 : Int32))] [(.int (p2 - p3)), (.int (p2 - ((0 + p3) - p4)))])) _
      refine XS.iload X73.here hx rfl (hb hby at_138) rfl ?_
      show Steps p.tables e below (T73.setTop (mkF m 140 #[.val (.int p0), .val (.int p1), .val (.int p2), .val (.int p3), .val (.int p4), .val (.int p5), .val (.int z), .val (.int j), .val (.int o), .val (.ref ws0), .val (.ref f), .val (.int (1 : Int32))] [(.int p4), (.int (p2 - p3)), (.int (p2 - ((0 + p3) - p4)))])) _
      refine XS.iadd X73.here hx rfl (hb hby at_140) rfl ?_
      exact ktg)
    have pre76 : Rch p.tables e below (s₁.setTop (entryFrame m #[(.int p0), (.int p1), (.int p2), (.int p3), (.int p4), (.int p5)] maxLocals)) (T73.setTop (mkF m 157 #[.val (.int p0), .val (.int p1), .val (.int p2), .val (.int p3), .val (.int p4), .val (.int p5), .val (.int z), .val (.int j), .val (.int o), .val (.ref ws0), .val (.ref f), .val (.int (1 : Int32))] [(.int p5), (.int o), (.ref f)])) := fun tgt ktg => pre75 tgt (by
      show Steps p.tables e below (T73.setTop (mkF m 141 #[.val (.int p0), .val (.int p1), .val (.int p2), .val (.int p3), .val (.int p4), .val (.int p5), .val (.int z), .val (.int j), .val (.int o), .val (.ref ws0), .val (.ref f), .val (.int (1 : Int32))] [(.int ((p2 - p3) + p4)), (.int (p2 - ((0 + p3) - p4)))])) _
      refine XS.icmpNo X73.here hx rfl (hb hby at_141) rfl (teq (own_ar1 p2 p3 p4)).2 ?_
      show Steps p.tables e below (T73.setTop (mkF m 144 #[.val (.int p0), .val (.int p1), .val (.int p2), .val (.int p3), .val (.int p4), .val (.int p5), .val (.int z), .val (.int j), .val (.int o), .val (.ref ws0), .val (.ref f), .val (.int (1 : Int32))] [])) _
      refine XS.iconst X73.here hx rfl (hb hby at_144) ?_
      show Steps p.tables e below (T73.setTop (mkF m 145 #[.val (.int p0), .val (.int p1), .val (.int p2), .val (.int p3), .val (.int p4), .val (.int p5), .val (.int z), .val (.int j), .val (.int o), .val (.ref ws0), .val (.ref f), .val (.int (1 : Int32))] [(.int (1 : Int32))])) _
      refine XS.goto X73.here hx rfl (pc0 := 145) (pc' := 149) rfl (hb hby at_145) (by decide) (by decide) ?_
      show Steps p.tables e below (T73.setTop (mkF m 149 #[.val (.int p0), .val (.int p1), .val (.int p2), .val (.int p3), .val (.int p4), .val (.int p5), .val (.int z), .val (.int j), .val (.int o), .val (.ref ws0), .val (.ref f), .val (.int (1 : Int32))] [(.int (1 : Int32))])) _
      refine XS.istore X73.here hx rfl (hb hby at_149) rfl (l' := #[.val (.int p0), .val (.int p1), .val (.int p2), .val (.int p3), .val (.int p4), .val (.int p5), .val (.int z), .val (.int j), .val (.int o), .val (.ref ws0), .val (.ref f), .val (.int (1 : Int32))]) rfl ?_
      show Steps p.tables e below (T73.setTop (mkF m 151 #[.val (.int p0), .val (.int p1), .val (.int p2), .val (.int p3), .val (.int p4), .val (.int p5), .val (.int z), .val (.int j), .val (.int o), .val (.ref ws0), .val (.ref f), .val (.int (1 : Int32))] [])) _
      refine XS.aload X73.here hx rfl (hb hby at_151) rfl rfl ?_
      show Steps p.tables e below (T73.setTop (mkF m 153 #[.val (.int p0), .val (.int p1), .val (.int p2), .val (.int p3), .val (.int p4), .val (.int p5), .val (.int z), .val (.int j), .val (.int o), .val (.ref ws0), .val (.ref f), .val (.int (1 : Int32))] [(.ref f)])) _
      refine XS.iload X73.here hx rfl (hb hby at_153) rfl ?_
      show Steps p.tables e below (T73.setTop (mkF m 155 #[.val (.int p0), .val (.int p1), .val (.int p2), .val (.int p3), .val (.int p4), .val (.int p5), .val (.int z), .val (.int j), .val (.int o), .val (.ref ws0), .val (.ref f), .val (.int (1 : Int32))] [(.int o), (.ref f)])) _
      refine XS.iload X73.here hx rfl (hb hby at_155) rfl ?_
      exact ktg)
    by_cases coj : o = j
    · skip
      have po' : o.toNatClampNeg = j.toNatClampNeg := by rw [coj]
      obtain ⟨cq77, kq77, q77a, q77b, q77c⟩ := isOf hZ eh73 f64
      obtain ⟨_, _, ⟨T77, L77, k77, n77⟩, -, X77, ⟨Lc77, hQ77, l77, y77, z77⟩, st77⟩ := X73.virtualBack hx (y := (⟨"com/example/prudent_spot/prudentspot/placement/Fleet", "take", "(II)V"⟩ : MethodName)) (z := (⟨"com/example/prudent_spot/prudentspot/placement/Fleet", "take", "(II)V"⟩ : MethodName)) hown (mvT hZ (hw _ (List.mem_of_getElem? (i := 41) rfl))) (mvT hZ (hw _ (List.mem_of_getElem? (i := 42) rfl))) (notFace_of_selects (args := #[]) (mvT hZ (hw _ (List.mem_of_getElem? (i := 44) rfl)))) (mvT hZ (hw _ (List.mem_of_getElem? (i := 44) rfl))) (mvT hZ (hw _ (List.mem_of_getElem? (i := 43) rfl))) (by decide) (backOf (W := 0) (rm5 l Z a0 hw [] f o p5 t1 kt z ((0 + p3) - p4) ((([(.int (0 : Int32)), (.int (0 : Int32)), (.int (0 : Int32)), (.int (0 : Int32))] : List Value).set j.toNatClampNeg (.int (0 + p3))).set j.toNatClampNeg (.int ((0 + p3) - p4))) T61.heap n0 z70 f66 A7 ho (by rw [po']; exact (own_hit (by simpa using pj))) (by simpa using po) gt nft) hZ (hw _ (List.mem_of_getElem? (i := 45) rfl)) (hw _ (List.mem_of_getElem? (i := 6) rfl)) (by decide) (by decide)) q77a q77c (g := (mkF m 157 #[.val (.int p0), .val (.int p1), .val (.int p2), .val (.int p3), .val (.int p4), .val (.int p5), .val (.int z), .val (.int j), .val (.int o), .val (.ref ws0), .val (.ref f), .val (.int (1 : Int32))] [(.int p5), (.int o), (.ref f)])) rfl (by rw [hml]; rfl) (Steps.refl _) (argsL := [(.int o), (.int p5)]) (rest := []) (lenOf pd_3 rfl) rfl (by show 2 * 0 + _ ≤ _; exact Nat.le_of_eq rfl) (hb hby at_157) (fun _ _ => ⟨rfl, eh73, (by decide : 6 + 0 ≤ _), (by decide : 25 + 0 ≤ _)⟩)
      dsimp only [Pt.U, Pt.locs, Pt.cells, Pt.slots] at X77 l77 y77 z77 st77 hQ77
      subst l77 y77 z77
      obtain ⟨rfl, Nq77, Kq77, A8⟩ := hQ77
      have N78 := Fr.app N74 Nq77
      have pre77 : Rch p.tables e below (s₁.setTop (entryFrame m #[(.int p0), (.int p1), (.int p2), (.int p3), (.int p4), (.int p5)] maxLocals)) (T77.setTop (mkF m 160 #[.val (.int p0), .val (.int p1), .val (.int p2), .val (.int p3), .val (.int p4), .val (.int p5), .val (.int z), .val (.int j), .val (.int o), .val (.ref ws0), .val (.ref f), .val (.int (1 : Int32))] [])) := fun tgt ktg => pre76 tgt (st77.trans ktg)
      have f79 : Exa Z T77.heap ws0 "com/example/prudent_spot/prudentspot/capacity/Direction" := f63.keep Kq77
      have f80 : Exa Z T77.heap f "com/example/prudent_spot/prudentspot/placement/Fleet" := f64.keep Kq77
      have f81 : Fld Z T77.heap f "com/example/prudent_spot/prudentspot/placement/Fleet" "cores" "[I" (.ref c1) := f65.keep Kq77 (ninS nft nin0)
      have f82 : Fld Z T77.heap f "com/example/prudent_spot/prudentspot/placement/Fleet" "taken" "[I" (.ref t1) := f66.keep Kq77 (ninS nft nin0)
      have f83 : Fld Z T77.heap f "com/example/prudent_spot/prudentspot/placement/Fleet" "lastEvent" "[Ljava/time/Instant;" (.ref le) := f67.keep Kq77 (ninS nft nin0)
      have f84 : Fld Z T77.heap f "com/example/prudent_spot/prudentspot/placement/Fleet" "lastDirection" "[Lcom/example/prudent_spot/prudentspot/capacity/Direction;" (.ref ld) := f68.keep Kq77 (ninS nft nin0)
      have f85 : Arv Z T77.heap c1 kc .int z (([(.int (0 : Int32)), (.int (0 : Int32)), (.int (0 : Int32)), (.int (0 : Int32))] : List Value).set j.toNatClampNeg (.int p2)) (.int (0 : Int32)) := f69.keep Kq77 (ninS nct nin0)
      have z86 : n0 ≤ T77.heap.size := Nat.le_trans z70 Kq77.1
      have K87 : Keep h0 T77.heap [] := K71.trans Kq77 (allS (P := fun x => x ∈ ([] : List Addr) ∨ h0.size ≤ x) (Or.inr (Nat.le_trans K15.1 st_)) (all0 (P := fun x => x ∈ ([] : List Addr) ∨ h0.size ≤ x)))
      have pre88 : Rch p.tables e below (s₁.setTop (entryFrame m #[(.int p0), (.int p1), (.int p2), (.int p3), (.int p4), (.int p5)] maxLocals)) (T77.setTop (mkF m 204 #[.val (.int p0), .val (.int p1), .val (.int p2), .val (.int p3), .val (.int p4), .val (.int p5), .val (.int z), .val (.int j), .val (.int o), .val (.ref ws0), .val (.ref f), .val (.int (1 : Int32))] [(.int j), (.ref f)])) := fun tgt ktg => pre77 tgt (by
        show Steps p.tables e below (T77.setTop (mkF m 160 #[.val (.int p0), .val (.int p1), .val (.int p2), .val (.int p3), .val (.int p4), .val (.int p5), .val (.int z), .val (.int j), .val (.int o), .val (.ref ws0), .val (.ref f), .val (.int (1 : Int32))] [])) _
        refine XS.iload X77.here hx rfl (hb hby at_160) rfl ?_
        show Steps p.tables e below (T77.setTop (mkF m 162 #[.val (.int p0), .val (.int p1), .val (.int p2), .val (.int p3), .val (.int p4), .val (.int p5), .val (.int z), .val (.int j), .val (.int o), .val (.ref ws0), .val (.ref f), .val (.int (1 : Int32))] [(.int o)])) _
        refine XS.iload X77.here hx rfl (hb hby at_162) rfl ?_
        show Steps p.tables e below (T77.setTop (mkF m 164 #[.val (.int p0), .val (.int p1), .val (.int p2), .val (.int p3), .val (.int p4), .val (.int p5), .val (.int z), .val (.int j), .val (.int o), .val (.ref ws0), .val (.ref f), .val (.int (1 : Int32))] [(.int j), (.int o)])) _
        refine XS.icmpYes X77.here hx rfl (pc0 := 164) (pc' := 195) rfl (hb hby at_164) rfl (teq coj).1 (by decide) (by decide) ?_
        show Steps p.tables e below (T77.setTop (mkF m 195 #[.val (.int p0), .val (.int p1), .val (.int p2), .val (.int p3), .val (.int p4), .val (.int p5), .val (.int z), .val (.int j), .val (.int o), .val (.ref ws0), .val (.ref f), .val (.int (1 : Int32))] [])) _
        refine XS.iload X77.here hx rfl (hb hby at_195) rfl ?_
        show Steps p.tables e below (T77.setTop (mkF m 197 #[.val (.int p0), .val (.int p1), .val (.int p2), .val (.int p3), .val (.int p4), .val (.int p5), .val (.int z), .val (.int j), .val (.int o), .val (.ref ws0), .val (.ref f), .val (.int (1 : Int32))] [(.int (1 : Int32))])) _
        refine XS.ifNo X77.here hx rfl (hb hby at_197) rfl ((if0 _ _).trans (feq (by decide : ¬ ((1 : Int32) = (0 : Int32)))).1) ?_
        show Steps p.tables e below (T77.setTop (mkF m 200 #[.val (.int p0), .val (.int p1), .val (.int p2), .val (.int p3), .val (.int p4), .val (.int p5), .val (.int z), .val (.int j), .val (.int o), .val (.ref ws0), .val (.ref f), .val (.int (1 : Int32))] [])) _
        refine XS.aload X77.here hx rfl (hb hby at_200) rfl rfl ?_
        show Steps p.tables e below (T77.setTop (mkF m 202 #[.val (.int p0), .val (.int p1), .val (.int p2), .val (.int p3), .val (.int p4), .val (.int p5), .val (.int z), .val (.int j), .val (.int o), .val (.ref ws0), .val (.ref f), .val (.int (1 : Int32))] [(.ref f)])) _
        refine XS.iload X77.here hx rfl (hb hby at_202) rfl ?_
        exact ktg)
      obtain ⟨cq89, kq89, q89a, q89b, q89c⟩ := isOf hZ rfl f80
      obtain ⟨_, _, ⟨T89, L89, k89, n89⟩, -, X89, ⟨Lc89, hQ89, l89, y89, z89⟩, st89⟩ := X77.virtualBack hx (y := (⟨"com/example/prudent_spot/prudentspot/placement/Fleet", "freeCores", "(I)I"⟩ : MethodName)) (z := (⟨"com/example/prudent_spot/prudentspot/placement/Fleet", "freeCores", "(I)I"⟩ : MethodName)) hown (mvT hZ (hw _ (List.mem_of_getElem? (i := 30) rfl))) (mvT hZ (hw _ (List.mem_of_getElem? (i := 31) rfl))) (notFace_of_selects (args := #[]) (mvT hZ (hw _ (List.mem_of_getElem? (i := 33) rfl)))) (mvT hZ (hw _ (List.mem_of_getElem? (i := 33) rfl))) (mvT hZ (hw _ (List.mem_of_getElem? (i := 32) rfl))) (by decide) (backOf (W := 0) (rm3 l Z a0 hw [] f j c1 t1 kc kt z p2 (((0 + p3) - p4) + p5) (([(.int (0 : Int32)), (.int (0 : Int32)), (.int (0 : Int32)), (.int (0 : Int32))] : List Value).set j.toNatClampNeg (.int p2)) (((([(.int (0 : Int32)), (.int (0 : Int32)), (.int (0 : Int32)), (.int (0 : Int32))] : List Value).set j.toNatClampNeg (.int (0 + p3))).set j.toNatClampNeg (.int ((0 + p3) - p4))).set o.toNatClampNeg (.int (((0 + p3) - p4) + p5))) T77.heap n0 z86 f81 f82 f85 A8 hj (own_hit pj) (by rw [po']; exact own_hit (by simpa using pj))) hZ (hw _ (List.mem_of_getElem? (i := 34) rfl)) (hw _ (List.mem_of_getElem? (i := 6) rfl)) (by decide) (by decide)) q89a q89c (g := (mkF m 204 #[.val (.int p0), .val (.int p1), .val (.int p2), .val (.int p3), .val (.int p4), .val (.int p5), .val (.int z), .val (.int j), .val (.int o), .val (.ref ws0), .val (.ref f), .val (.int (1 : Int32))] [(.int j), (.ref f)])) rfl (by rw [hml]; rfl) (Steps.refl _) (argsL := [(.int j)]) (rest := []) (lenOf pd_1 rfl) rfl (by show 2 * 0 + _ ≤ _; exact Nat.le_of_eq rfl) (hb hby at_204) (fun _ _ => ⟨rfl, rfl, (by decide : 6 + 0 ≤ _), (by decide : 25 + 0 ≤ _)⟩)
      dsimp only [Pt.U, Pt.locs, Pt.cells, Pt.slots] at X89 l89 y89 z89 st89 hQ89
      subst l89 y89 z89
      obtain ⟨rfl, Nq89, eh89⟩ := hQ89
      have N90 := Fr.app N78 Nq89
      have pre89 : Rch p.tables e below (s₁.setTop (entryFrame m #[(.int p0), (.int p1), (.int p2), (.int p3), (.int p4), (.int p5)] maxLocals)) (T89.setTop (mkF m 207 #[.val (.int p0), .val (.int p1), .val (.int p2), .val (.int p3), .val (.int p4), .val (.int p5), .val (.int z), .val (.int j), .val (.int o), .val (.ref ws0), .val (.ref f), .val (.int (1 : Int32))] [(.int (p2 - (((0 + p3) - p4) + p5)))])) := fun tgt ktg => pre88 tgt (st89.trans ktg)
      have pre91 : Rch p.tables e below (s₁.setTop (entryFrame m #[(.int p0), (.int p1), (.int p2), (.int p3), (.int p4), (.int p5)] maxLocals)) (T89.setTop (mkF m 216 #[.val (.int p0), .val (.int p1), .val (.int p2), .val (.int p3), .val (.int p4), .val (.int p5), .val (.int z), .val (.int j), .val (.int o), .val (.ref ws0), .val (.ref f), .val (.int (1 : Int32))] [(.int (((p2 - p3) + p4) - p5)), (.int (p2 - (((0 + p3) - p4) + p5)))])) := fun tgt ktg => pre89 tgt (by
        show Steps p.tables e below (T89.setTop (mkF m 207 #[.val (.int p0), .val (.int p1), .val (.int p2), .val (.int p3), .val (.int p4), .val (.int p5), .val (.int z), .val (.int j), .val (.int o), .val (.ref ws0), .val (.ref f), .val (.int (1 : Int32))] [(.int (p2 - (((0 + p3) - p4) + p5)))])) _
        refine XS.iloadN X89.here hx rfl (hb hby at_207) rfl ?_
        show Steps p.tables e below (T89.setTop (mkF m 208 #[.val (.int p0), .val (.int p1), .val (.int p2), .val (.int p3), .val (.int p4), .val (.int p5), .val (.int z), .val (.int j), .val (.int o), .val (.ref ws0), .val (.ref f), .val (.int (1 : Int32))] [(.int p2), (.int (p2 - (((0 + p3) - p4) + p5)))])) _
        refine XS.iloadN X89.here hx rfl (hb hby at_208) rfl ?_
        show Steps p.tables e below (T89.setTop (mkF m 209 #[.val (.int p0), .val (.int p1), .val (.int p2), .val (.int p3), .val (.int p4), .val (.int p5), .val (.int z), .val (.int j), .val (.int o), .val (.ref ws0), .val (.ref f), .val (.int (1 : Int32))] [(.int p3), (.int p2), (.int (p2 - (((0 + p3) - p4) + p5)))])) _
        refine XS.isub X89.here hx rfl (hb hby at_209) rfl ?_
        show Steps p.tables e below (T89.setTop (mkF m 210 #[.val (.int p0), .val (.int p1), .val (.int p2), .val (.int p3), .val (.int p4), .val (.int p5), .val (.int z), .val (.int j), .val (.int o), .val (.ref ws0), .val (.ref f), .val (.int (1 : Int32))] [(.int (p2 - p3)), (.int (p2 - (((0 + p3) - p4) + p5)))])) _
        refine XS.iload X89.here hx rfl (hb hby at_210) rfl ?_
        show Steps p.tables e below (T89.setTop (mkF m 212 #[.val (.int p0), .val (.int p1), .val (.int p2), .val (.int p3), .val (.int p4), .val (.int p5), .val (.int z), .val (.int j), .val (.int o), .val (.ref ws0), .val (.ref f), .val (.int (1 : Int32))] [(.int p4), (.int (p2 - p3)), (.int (p2 - (((0 + p3) - p4) + p5)))])) _
        refine XS.iadd X89.here hx rfl (hb hby at_212) rfl ?_
        show Steps p.tables e below (T89.setTop (mkF m 213 #[.val (.int p0), .val (.int p1), .val (.int p2), .val (.int p3), .val (.int p4), .val (.int p5), .val (.int z), .val (.int j), .val (.int o), .val (.ref ws0), .val (.ref f), .val (.int (1 : Int32))] [(.int ((p2 - p3) + p4)), (.int (p2 - (((0 + p3) - p4) + p5)))])) _
        refine XS.iload X89.here hx rfl (hb hby at_213) rfl ?_
        show Steps p.tables e below (T89.setTop (mkF m 215 #[.val (.int p0), .val (.int p1), .val (.int p2), .val (.int p3), .val (.int p4), .val (.int p5), .val (.int z), .val (.int j), .val (.int o), .val (.ref ws0), .val (.ref f), .val (.int (1 : Int32))] [(.int p5), (.int ((p2 - p3) + p4)), (.int (p2 - (((0 + p3) - p4) + p5)))])) _
        refine XS.isub X89.here hx rfl (hb hby at_215) rfl ?_
        exact ktg)
      have pre92 : Rch p.tables e below (s₁.setTop (entryFrame m #[(.int p0), (.int p1), (.int p2), (.int p3), (.int p4), (.int p5)] maxLocals)) (T89.setTop (mkF m 228 #[.val (.int p0), .val (.int p1), .val (.int p2), .val (.int p3), .val (.int p4), .val (.int p5), .val (.int z), .val (.int j), .val (.int o), .val (.ref ws0), .val (.ref f), .val (.int (1 : Int32))] [(.int (1 : Int32))])) := fun tgt ktg => pre91 tgt (by
        show Steps p.tables e below (T89.setTop (mkF m 216 #[.val (.int p0), .val (.int p1), .val (.int p2), .val (.int p3), .val (.int p4), .val (.int p5), .val (.int z), .val (.int j), .val (.int o), .val (.ref ws0), .val (.ref f), .val (.int (1 : Int32))] [(.int (((p2 - p3) + p4) - p5)), (.int (p2 - (((0 + p3) - p4) + p5)))])) _
        refine XS.icmpNo X89.here hx rfl (hb hby at_216) rfl (teq (own_ar2 p2 p3 p4 p5)).2 ?_
        show Steps p.tables e below (T89.setTop (mkF m 219 #[.val (.int p0), .val (.int p1), .val (.int p2), .val (.int p3), .val (.int p4), .val (.int p5), .val (.int z), .val (.int j), .val (.int o), .val (.ref ws0), .val (.ref f), .val (.int (1 : Int32))] [])) _
        refine XS.iconst X89.here hx rfl (hb hby at_219) ?_
        show Steps p.tables e below (T89.setTop (mkF m 220 #[.val (.int p0), .val (.int p1), .val (.int p2), .val (.int p3), .val (.int p4), .val (.int p5), .val (.int z), .val (.int j), .val (.int o), .val (.ref ws0), .val (.ref f), .val (.int (1 : Int32))] [(.int (1 : Int32))])) _
        refine XS.goto X89.here hx rfl (pc0 := 220) (pc' := 224) rfl (hb hby at_220) (by decide) (by decide) ?_
        show Steps p.tables e below (T89.setTop (mkF m 224 #[.val (.int p0), .val (.int p1), .val (.int p2), .val (.int p3), .val (.int p4), .val (.int p5), .val (.int z), .val (.int j), .val (.int o), .val (.ref ws0), .val (.ref f), .val (.int (1 : Int32))] [(.int (1 : Int32))])) _
        refine XS.istore X89.here hx rfl (hb hby at_224) rfl (l' := #[.val (.int p0), .val (.int p1), .val (.int p2), .val (.int p3), .val (.int p4), .val (.int p5), .val (.int z), .val (.int j), .val (.int o), .val (.ref ws0), .val (.ref f), .val (.int (1 : Int32))]) rfl ?_
        show Steps p.tables e below (T89.setTop (mkF m 226 #[.val (.int p0), .val (.int p1), .val (.int p2), .val (.int p3), .val (.int p4), .val (.int p5), .val (.int z), .val (.int j), .val (.int o), .val (.ref ws0), .val (.ref f), .val (.int (1 : Int32))] [])) _
        refine XS.iload X89.here hx rfl (hb hby at_226) rfl ?_
        exact ktg)
      obtain ⟨fs, hr, hrun, hended, hW, hsame⟩ := X89.leave (v := some (.int (1 : Int32))) (fun h => by rw [Bd.returns] at h; cases h)
      refine ⟨_, _, pre92 _ ?_, hrun, hended, _, _, rfl, ?_, ⟨_, rfl⟩, hW, hsame.mono (by decide) (by decide)⟩
      · show Steps p.tables e below (T89.setTop (mkF m 228 #[.val (.int p0), .val (.int p1), .val (.int p2), .val (.int p3), .val (.int p4), .val (.int p5), .val (.int z), .val (.int j), .val (.int o), .val (.ref ws0), .val (.ref f), .val (.int (1 : Int32))] [(.int (1 : Int32))])) _
        exact retN X89 hx (t := .boolean) Bd.returns (by simp) (hb hby at_228) hr
      · show Q0 Z p0 p1 p2 p3 p4 p5 h0 n0 _ T89.heap _
        rw [eh89]
        exact ⟨rfl, N90⟩
    · skip
      have po' : j.toNatClampNeg ≠ o.toNatClampNeg := own_clamp hj.1 ho.1 (fun q => coj q.symm)
      obtain ⟨cq93, kq93, q93a, q93b, q93c⟩ := isOf hZ eh73 f64
      obtain ⟨_, _, ⟨T93, L93, k93, n93⟩, -, X93, ⟨Lc93, hQ93, l93, y93, z93⟩, st93⟩ := X73.virtualBack hx (y := (⟨"com/example/prudent_spot/prudentspot/placement/Fleet", "take", "(II)V"⟩ : MethodName)) (z := (⟨"com/example/prudent_spot/prudentspot/placement/Fleet", "take", "(II)V"⟩ : MethodName)) hown (mvT hZ (hw _ (List.mem_of_getElem? (i := 41) rfl))) (mvT hZ (hw _ (List.mem_of_getElem? (i := 42) rfl))) (notFace_of_selects (args := #[]) (mvT hZ (hw _ (List.mem_of_getElem? (i := 44) rfl)))) (mvT hZ (hw _ (List.mem_of_getElem? (i := 44) rfl))) (mvT hZ (hw _ (List.mem_of_getElem? (i := 43) rfl))) (by decide) (backOf (W := 0) (rm5 l Z a0 hw [] f o p5 t1 kt z 0 ((([(.int (0 : Int32)), (.int (0 : Int32)), (.int (0 : Int32)), (.int (0 : Int32))] : List Value).set j.toNatClampNeg (.int (0 + p3))).set j.toNatClampNeg (.int ((0 + p3) - p4))) T61.heap n0 z70 f66 A7 ho ((own_miss po').trans ((own_miss po').trans (own_z4 _))) (by simpa using po) gt nft) hZ (hw _ (List.mem_of_getElem? (i := 45) rfl)) (hw _ (List.mem_of_getElem? (i := 6) rfl)) (by decide) (by decide)) q93a q93c (g := (mkF m 157 #[.val (.int p0), .val (.int p1), .val (.int p2), .val (.int p3), .val (.int p4), .val (.int p5), .val (.int z), .val (.int j), .val (.int o), .val (.ref ws0), .val (.ref f), .val (.int (1 : Int32))] [(.int p5), (.int o), (.ref f)])) rfl (by rw [hml]; rfl) (Steps.refl _) (argsL := [(.int o), (.int p5)]) (rest := []) (lenOf pd_3 rfl) rfl (by show 2 * 0 + _ ≤ _; exact Nat.le_of_eq rfl) (hb hby at_157) (fun _ _ => ⟨rfl, eh73, (by decide : 6 + 0 ≤ _), (by decide : 25 + 0 ≤ _)⟩)
      dsimp only [Pt.U, Pt.locs, Pt.cells, Pt.slots] at X93 l93 y93 z93 st93 hQ93
      subst l93 y93 z93
      obtain ⟨rfl, Nq93, Kq93, A8⟩ := hQ93
      have N94 := Fr.app N74 Nq93
      have pre93 : Rch p.tables e below (s₁.setTop (entryFrame m #[(.int p0), (.int p1), (.int p2), (.int p3), (.int p4), (.int p5)] maxLocals)) (T93.setTop (mkF m 160 #[.val (.int p0), .val (.int p1), .val (.int p2), .val (.int p3), .val (.int p4), .val (.int p5), .val (.int z), .val (.int j), .val (.int o), .val (.ref ws0), .val (.ref f), .val (.int (1 : Int32))] [])) := fun tgt ktg => pre76 tgt (st93.trans ktg)
      have f95 : Exa Z T93.heap ws0 "com/example/prudent_spot/prudentspot/capacity/Direction" := f63.keep Kq93
      have f96 : Exa Z T93.heap f "com/example/prudent_spot/prudentspot/placement/Fleet" := f64.keep Kq93
      have f97 : Fld Z T93.heap f "com/example/prudent_spot/prudentspot/placement/Fleet" "cores" "[I" (.ref c1) := f65.keep Kq93 (ninS nft nin0)
      have f98 : Fld Z T93.heap f "com/example/prudent_spot/prudentspot/placement/Fleet" "taken" "[I" (.ref t1) := f66.keep Kq93 (ninS nft nin0)
      have f99 : Fld Z T93.heap f "com/example/prudent_spot/prudentspot/placement/Fleet" "lastEvent" "[Ljava/time/Instant;" (.ref le) := f67.keep Kq93 (ninS nft nin0)
      have f100 : Fld Z T93.heap f "com/example/prudent_spot/prudentspot/placement/Fleet" "lastDirection" "[Lcom/example/prudent_spot/prudentspot/capacity/Direction;" (.ref ld) := f68.keep Kq93 (ninS nft nin0)
      have f101 : Arv Z T93.heap c1 kc .int z (([(.int (0 : Int32)), (.int (0 : Int32)), (.int (0 : Int32)), (.int (0 : Int32))] : List Value).set j.toNatClampNeg (.int p2)) (.int (0 : Int32)) := f69.keep Kq93 (ninS nct nin0)
      have z102 : n0 ≤ T93.heap.size := Nat.le_trans z70 Kq93.1
      have K103 : Keep h0 T93.heap [] := K71.trans Kq93 (allS (P := fun x => x ∈ ([] : List Addr) ∨ h0.size ≤ x) (Or.inr (Nat.le_trans K15.1 st_)) (all0 (P := fun x => x ∈ ([] : List Addr) ∨ h0.size ≤ x)))
      have pre104 : Rch p.tables e below (s₁.setTop (entryFrame m #[(.int p0), (.int p1), (.int p2), (.int p3), (.int p4), (.int p5)] maxLocals)) (T93.setTop (mkF m 176 #[.val (.int p0), .val (.int p1), .val (.int p2), .val (.int p3), .val (.int p4), .val (.int p5), .val (.int z), .val (.int j), .val (.int o), .val (.ref ws0), .val (.ref f), .val (.int (1 : Int32))] [(.int o), (.ref f)])) := fun tgt ktg => pre93 tgt (by
        show Steps p.tables e below (T93.setTop (mkF m 160 #[.val (.int p0), .val (.int p1), .val (.int p2), .val (.int p3), .val (.int p4), .val (.int p5), .val (.int z), .val (.int j), .val (.int o), .val (.ref ws0), .val (.ref f), .val (.int (1 : Int32))] [])) _
        refine XS.iload X93.here hx rfl (hb hby at_160) rfl ?_
        show Steps p.tables e below (T93.setTop (mkF m 162 #[.val (.int p0), .val (.int p1), .val (.int p2), .val (.int p3), .val (.int p4), .val (.int p5), .val (.int z), .val (.int j), .val (.int o), .val (.ref ws0), .val (.ref f), .val (.int (1 : Int32))] [(.int o)])) _
        refine XS.iload X93.here hx rfl (hb hby at_162) rfl ?_
        show Steps p.tables e below (T93.setTop (mkF m 164 #[.val (.int p0), .val (.int p1), .val (.int p2), .val (.int p3), .val (.int p4), .val (.int p5), .val (.int z), .val (.int j), .val (.int o), .val (.ref ws0), .val (.ref f), .val (.int (1 : Int32))] [(.int j), (.int o)])) _
        refine XS.icmpNo X93.here hx rfl (hb hby at_164) rfl (feq coj).1 ?_
        show Steps p.tables e below (T93.setTop (mkF m 167 #[.val (.int p0), .val (.int p1), .val (.int p2), .val (.int p3), .val (.int p4), .val (.int p5), .val (.int z), .val (.int j), .val (.int o), .val (.ref ws0), .val (.ref f), .val (.int (1 : Int32))] [])) _
        refine XS.iload X93.here hx rfl (hb hby at_167) rfl ?_
        show Steps p.tables e below (T93.setTop (mkF m 169 #[.val (.int p0), .val (.int p1), .val (.int p2), .val (.int p3), .val (.int p4), .val (.int p5), .val (.int z), .val (.int j), .val (.int o), .val (.ref ws0), .val (.ref f), .val (.int (1 : Int32))] [(.int (1 : Int32))])) _
        refine XS.ifNo X93.here hx rfl (hb hby at_169) rfl ((if0 _ _).trans (feq (by decide : ¬ ((1 : Int32) = (0 : Int32)))).1) ?_
        show Steps p.tables e below (T93.setTop (mkF m 172 #[.val (.int p0), .val (.int p1), .val (.int p2), .val (.int p3), .val (.int p4), .val (.int p5), .val (.int z), .val (.int j), .val (.int o), .val (.ref ws0), .val (.ref f), .val (.int (1 : Int32))] [])) _
        refine XS.aload X93.here hx rfl (hb hby at_172) rfl rfl ?_
        show Steps p.tables e below (T93.setTop (mkF m 174 #[.val (.int p0), .val (.int p1), .val (.int p2), .val (.int p3), .val (.int p4), .val (.int p5), .val (.int z), .val (.int j), .val (.int o), .val (.ref ws0), .val (.ref f), .val (.int (1 : Int32))] [(.ref f)])) _
        refine XS.iload X93.here hx rfl (hb hby at_174) rfl ?_
        exact ktg)
      obtain ⟨cq105, kq105, q105a, q105b, q105c⟩ := isOf hZ rfl f96
      obtain ⟨_, _, ⟨T105, L105, k105, n105⟩, -, X105, ⟨Lc105, hQ105, l105, y105, z105⟩, st105⟩ := X93.virtualBack hx (y := (⟨"com/example/prudent_spot/prudentspot/placement/Fleet", "freeCores", "(I)I"⟩ : MethodName)) (z := (⟨"com/example/prudent_spot/prudentspot/placement/Fleet", "freeCores", "(I)I"⟩ : MethodName)) hown (mvT hZ (hw _ (List.mem_of_getElem? (i := 30) rfl))) (mvT hZ (hw _ (List.mem_of_getElem? (i := 31) rfl))) (notFace_of_selects (args := #[]) (mvT hZ (hw _ (List.mem_of_getElem? (i := 33) rfl)))) (mvT hZ (hw _ (List.mem_of_getElem? (i := 33) rfl))) (mvT hZ (hw _ (List.mem_of_getElem? (i := 32) rfl))) (by decide) (backOf (W := 0) (rm3 l Z a0 hw [] f o c1 t1 kc kt z 0 (0 + p5) (([(.int (0 : Int32)), (.int (0 : Int32)), (.int (0 : Int32)), (.int (0 : Int32))] : List Value).set j.toNatClampNeg (.int p2)) (((([(.int (0 : Int32)), (.int (0 : Int32)), (.int (0 : Int32)), (.int (0 : Int32))] : List Value).set j.toNatClampNeg (.int (0 + p3))).set j.toNatClampNeg (.int ((0 + p3) - p4))).set o.toNatClampNeg (.int (0 + p5))) T93.heap n0 z102 f97 f98 f101 A8 ho ((own_miss po').trans (own_z4 _)) (own_hit (by simpa using po))) hZ (hw _ (List.mem_of_getElem? (i := 34) rfl)) (hw _ (List.mem_of_getElem? (i := 6) rfl)) (by decide) (by decide)) q105a q105c (g := (mkF m 176 #[.val (.int p0), .val (.int p1), .val (.int p2), .val (.int p3), .val (.int p4), .val (.int p5), .val (.int z), .val (.int j), .val (.int o), .val (.ref ws0), .val (.ref f), .val (.int (1 : Int32))] [(.int o), (.ref f)])) rfl (by rw [hml]; rfl) (Steps.refl _) (argsL := [(.int o)]) (rest := []) (lenOf pd_1 rfl) rfl (by show 2 * 0 + _ ≤ _; exact Nat.le_of_eq rfl) (hb hby at_176) (fun _ _ => ⟨rfl, rfl, (by decide : 6 + 0 ≤ _), (by decide : 25 + 0 ≤ _)⟩)
      dsimp only [Pt.U, Pt.locs, Pt.cells, Pt.slots] at X105 l105 y105 z105 st105 hQ105
      subst l105 y105 z105
      obtain ⟨rfl, Nq105, eh105⟩ := hQ105
      have N106 := Fr.app N94 Nq105
      have pre105 : Rch p.tables e below (s₁.setTop (entryFrame m #[(.int p0), (.int p1), (.int p2), (.int p3), (.int p4), (.int p5)] maxLocals)) (T105.setTop (mkF m 179 #[.val (.int p0), .val (.int p1), .val (.int p2), .val (.int p3), .val (.int p4), .val (.int p5), .val (.int z), .val (.int j), .val (.int o), .val (.ref ws0), .val (.ref f), .val (.int (1 : Int32))] [(.int (0 - (0 + p5)))])) := fun tgt ktg => pre104 tgt (st105.trans ktg)
      have pre107 : Rch p.tables e below (s₁.setTop (entryFrame m #[(.int p0), (.int p1), (.int p2), (.int p3), (.int p4), (.int p5)] maxLocals)) (T105.setTop (mkF m 182 #[.val (.int p0), .val (.int p1), .val (.int p2), .val (.int p3), .val (.int p4), .val (.int p5), .val (.int z), .val (.int j), .val (.int o), .val (.ref ws0), .val (.ref f), .val (.int (1 : Int32))] [(.int (-p5)), (.int (0 - (0 + p5)))])) := fun tgt ktg => pre105 tgt (by
        show Steps p.tables e below (T105.setTop (mkF m 179 #[.val (.int p0), .val (.int p1), .val (.int p2), .val (.int p3), .val (.int p4), .val (.int p5), .val (.int z), .val (.int j), .val (.int o), .val (.ref ws0), .val (.ref f), .val (.int (1 : Int32))] [(.int (0 - (0 + p5)))])) _
        refine XS.iload X105.here hx rfl (hb hby at_179) rfl ?_
        show Steps p.tables e below (T105.setTop (mkF m 181 #[.val (.int p0), .val (.int p1), .val (.int p2), .val (.int p3), .val (.int p4), .val (.int p5), .val (.int z), .val (.int j), .val (.int o), .val (.ref ws0), .val (.ref f), .val (.int (1 : Int32))] [(.int p5), (.int (0 - (0 + p5)))])) _
        refine XS.ineg X105.here hx rfl (hb hby at_181) rfl ?_
        exact ktg)
      have pre108 : Rch p.tables e below (s₁.setTop (entryFrame m #[(.int p0), (.int p1), (.int p2), (.int p3), (.int p4), (.int p5)] maxLocals)) (T105.setTop (mkF m 228 #[.val (.int p0), .val (.int p1), .val (.int p2), .val (.int p3), .val (.int p4), .val (.int p5), .val (.int z), .val (.int j), .val (.int o), .val (.ref ws0), .val (.ref f), .val (.int (1 : Int32))] [(.int (1 : Int32))])) := fun tgt ktg => pre107 tgt (by
        show Steps p.tables e below (T105.setTop (mkF m 182 #[.val (.int p0), .val (.int p1), .val (.int p2), .val (.int p3), .val (.int p4), .val (.int p5), .val (.int z), .val (.int j), .val (.int o), .val (.ref ws0), .val (.ref f), .val (.int (1 : Int32))] [(.int (-p5)), (.int (0 - (0 + p5)))])) _
        refine XS.icmpNo X105.here hx rfl (hb hby at_182) rfl (teq (own_ar3 p5)).2 ?_
        show Steps p.tables e below (T105.setTop (mkF m 185 #[.val (.int p0), .val (.int p1), .val (.int p2), .val (.int p3), .val (.int p4), .val (.int p5), .val (.int z), .val (.int j), .val (.int o), .val (.ref ws0), .val (.ref f), .val (.int (1 : Int32))] [])) _
        refine XS.iconst X105.here hx rfl (hb hby at_185) ?_
        show Steps p.tables e below (T105.setTop (mkF m 186 #[.val (.int p0), .val (.int p1), .val (.int p2), .val (.int p3), .val (.int p4), .val (.int p5), .val (.int z), .val (.int j), .val (.int o), .val (.ref ws0), .val (.ref f), .val (.int (1 : Int32))] [(.int (1 : Int32))])) _
        refine XS.goto X105.here hx rfl (pc0 := 186) (pc' := 190) rfl (hb hby at_186) (by decide) (by decide) ?_
        show Steps p.tables e below (T105.setTop (mkF m 190 #[.val (.int p0), .val (.int p1), .val (.int p2), .val (.int p3), .val (.int p4), .val (.int p5), .val (.int z), .val (.int j), .val (.int o), .val (.ref ws0), .val (.ref f), .val (.int (1 : Int32))] [(.int (1 : Int32))])) _
        refine XS.istore X105.here hx rfl (hb hby at_190) rfl (l' := #[.val (.int p0), .val (.int p1), .val (.int p2), .val (.int p3), .val (.int p4), .val (.int p5), .val (.int z), .val (.int j), .val (.int o), .val (.ref ws0), .val (.ref f), .val (.int (1 : Int32))]) rfl ?_
        show Steps p.tables e below (T105.setTop (mkF m 192 #[.val (.int p0), .val (.int p1), .val (.int p2), .val (.int p3), .val (.int p4), .val (.int p5), .val (.int z), .val (.int j), .val (.int o), .val (.ref ws0), .val (.ref f), .val (.int (1 : Int32))] [])) _
        refine XS.goto X105.here hx rfl (pc0 := 192) (pc' := 226) rfl (hb hby at_192) (by decide) (by decide) ?_
        show Steps p.tables e below (T105.setTop (mkF m 226 #[.val (.int p0), .val (.int p1), .val (.int p2), .val (.int p3), .val (.int p4), .val (.int p5), .val (.int z), .val (.int j), .val (.int o), .val (.ref ws0), .val (.ref f), .val (.int (1 : Int32))] [])) _
        refine XS.iload X105.here hx rfl (hb hby at_226) rfl ?_
        exact ktg)
      obtain ⟨fs, hr, hrun, hended, hW, hsame⟩ := X105.leave (v := some (.int (1 : Int32))) (fun h => by rw [Bd.returns] at h; cases h)
      refine ⟨_, _, pre108 _ ?_, hrun, hended, _, _, rfl, ?_, ⟨_, rfl⟩, hW, hsame.mono (by decide) (by decide)⟩
      · show Steps p.tables e below (T105.setTop (mkF m 228 #[.val (.int p0), .val (.int p1), .val (.int p2), .val (.int p3), .val (.int p4), .val (.int p5), .val (.int z), .val (.int j), .val (.int o), .val (.ref ws0), .val (.ref f), .val (.int (1 : Int32))] [(.int (1 : Int32))])) _
        exact retN X105 hx (t := .boolean) Bd.returns (by simp) (hb hby at_228) hr
      · show Q0 Z p0 p1 p2 p3 p4 p5 h0 n0 _ T105.heap _
        rw [eh105]
        exact ⟨rfl, N106⟩
  · skip
    have pre109 : Rch p.tables e below (s₁.setTop (entryFrame m #[(.int p0), (.int p1), (.int p2), (.int p3), (.int p4), (.int p5)] maxLocals)) (s₁.setTop (mkF m 33 #[.val (.int p0), .val (.int p1), .val (.int p2), .val (.int p3), .val (.int p4), .val (.int p5), .val (.int z), .val (.int j), .val (.int o), .unset, .unset, .unset] [])) := fun tgt ktg => pre7 tgt (by
      show Steps p.tables e below (s₁.setTop (mkF m 30 #[.val (.int p0), .val (.int p1), .val (.int p2), .val (.int p3), .val (.int p4), .val (.int p5), .val (.int z), .val (.int j), .val (.int o), .unset, .unset, .unset] [(.int ((p0 >>> ((2 : Int32) &&& 31)) &&& (1 : Int32)))])) _
      refine XS.ifNo X0.here hx rfl (hb hby at_30) rfl ((if0 _ _).trans (feq c8).1) ?_
      exact ktg)
    obtain ⟨T110, X110, e110, st110⟩ := getS2 X0 hx hZ hown (host := "") (Or.inl (hw _ (List.mem_of_getElem? (i := 51) rfl))) Via.refl e0 S2 (g := (mkF m 33 #[.val (.int p0), .val (.int p1), .val (.int p2), .val (.int p3), .val (.int p4), .val (.int p5), .val (.int z), .val (.int j), .val (.int o), .unset, .unset, .unset] [])) rfl (hb hby at_33)
    have pre110 : Rch p.tables e below (s₁.setTop (entryFrame m #[(.int p0), (.int p1), (.int p2), (.int p3), (.int p4), (.int p5)] maxLocals)) (T110.setTop (mkF m 36 #[.val (.int p0), .val (.int p1), .val (.int p2), .val (.int p3), .val (.int p4), .val (.int p5), .val (.int z), .val (.int j), .val (.int o), .unset, .unset, .unset] [(.ref wg)])) := fun tgt ktg => pre109 tgt (st110 tgt ktg)
    have pre111 : Rch p.tables e below (s₁.setTop (entryFrame m #[(.int p0), (.int p1), (.int p2), (.int p3), (.int p4), (.int p5)] maxLocals)) (T110.setTop (mkF m 44 #[.val (.int p0), .val (.int p1), .val (.int p2), .val (.int p3), .val (.int p4), .val (.int p5), .val (.int z), .val (.int j), .val (.int o), .val (.ref wg), .unset, .unset] [])) := fun tgt ktg => pre110 tgt (by
      show Steps p.tables e below (T110.setTop (mkF m 36 #[.val (.int p0), .val (.int p1), .val (.int p2), .val (.int p3), .val (.int p4), .val (.int p5), .val (.int z), .val (.int j), .val (.int o), .unset, .unset, .unset] [(.ref wg)])) _
      refine XS.goto X110.here hx rfl (pc0 := 36) (pc' := 42) rfl (hb hby at_36) (by decide) (by decide) ?_
      show Steps p.tables e below (T110.setTop (mkF m 42 #[.val (.int p0), .val (.int p1), .val (.int p2), .val (.int p3), .val (.int p4), .val (.int p5), .val (.int z), .val (.int j), .val (.int o), .unset, .unset, .unset] [(.ref wg)])) _
      refine XS.astore X110.here hx rfl (hb hby at_42) rfl rfl (l' := #[.val (.int p0), .val (.int p1), .val (.int p2), .val (.int p3), .val (.int p4), .val (.int p5), .val (.int z), .val (.int j), .val (.int o), .val (.ref wg), .unset, .unset]) rfl ?_
      exact ktg)
    obtain ⟨T112, h112, X112, e112, E112, A112, D112, U112, st112⟩ := newO X110 hx hZ hown (hw _ (List.mem_of_getElem? (i := 4) rfl)) (hw _ (List.mem_of_getElem? (i := 5) rfl)) (hw _ (List.mem_of_getElem? (i := 6) rfl)) e110 (g := (mkF m 44 #[.val (.int p0), .val (.int p1), .val (.int p2), .val (.int p3), .val (.int p4), .val (.int p5), .val (.int z), .val (.int j), .val (.int o), .val (.ref wg), .unset, .unset] [])) rfl (hb hby at_44) (by decide) (by decide)
    obtain ⟨f, g112⟩ : ∃ nm_, nm_ = h0.size := ⟨_, rfl⟩
    rw [← g112] at A112 D112 U112 st112
    have ne_wg_f : wg ≠ f := Nat.ne_of_lt (Nat.lt_of_lt_of_le D2.lt (Nat.le_of_eq g112.symm))
    have g_f : n0 ≤ f := Nat.le_trans Z0 (Nat.le_of_eq g112.symm)
    have sz_f : h0.size ≤ f := Nat.le_trans K0.1 (Nat.le_of_eq g112.symm)
    have pre112 : Rch p.tables e below (s₁.setTop (entryFrame m #[(.int p0), (.int p1), (.int p2), (.int p3), (.int p4), (.int p5)] maxLocals)) (T112.setTop (mkF m 47 #[.val (.int p0), .val (.int p1), .val (.int p2), .val (.int p3), .val (.int p4), .val (.int p5), .val (.int z), .val (.int j), .val (.int o), .val (.ref wg), .unset, .unset] [(.ref f)])) := fun tgt ktg => pre111 tgt (st112 tgt ktg)
    have f113 : Exa Z h112 wg "com/example/prudent_spot/prudentspot/capacity/Direction" := D2.ext E112
    have z114 : n0 ≤ h112.size := Nat.le_trans Z0 E112.1
    have K115 : Keep h0 h112 [] := K0.ext E112
    have f116 : Exa Z h112 f "com/example/prudent_spot/prudentspot/placement/Fleet" := A112
    have f117 : Fld Z h112 f "com/example/prudent_spot/prudentspot/placement/Fleet" "cores" "[I" .null := D112 (Or.inr (hw _ (List.mem_of_getElem? (i := 15) rfl))) (ty := (.array .int)) (by decide)
    have f118 : Fld Z h112 f "com/example/prudent_spot/prudentspot/placement/Fleet" "taken" "[I" .null := D112 (Or.inr (hw _ (List.mem_of_getElem? (i := 17) rfl))) (ty := (.array .int)) (by decide)
    have f119 : Fld Z h112 f "com/example/prudent_spot/prudentspot/placement/Fleet" "lastEvent" "[Ljava/time/Instant;" .null := D112 (Or.inr (hw _ (List.mem_of_getElem? (i := 21) rfl))) (ty := (.array (.object "java/time/Instant"))) (by decide)
    have f120 : Fld Z h112 f "com/example/prudent_spot/prudentspot/placement/Fleet" "lastDirection" "[Lcom/example/prudent_spot/prudentspot/capacity/Direction;" .null := D112 (Or.inr (hw _ (List.mem_of_getElem? (i := 25) rfl))) (ty := (.array (.object "com/example/prudent_spot/prudentspot/capacity/Direction"))) (by decide)
    have f121 : Fld Z h112 f "com/example/prudent_spot/prudentspot/placement/Fleet" "sinceChange" "[Ljava/time/Duration;" .null := D112 (Or.inr (hw _ (List.mem_of_getElem? (i := 29) rfl))) (ty := (.array (.object "java/time/Duration"))) (by decide)
    have pre122 : Rch p.tables e below (s₁.setTop (entryFrame m #[(.int p0), (.int p1), (.int p2), (.int p3), (.int p4), (.int p5)] maxLocals)) (T112.setTop (mkF m 50 #[.val (.int p0), .val (.int p1), .val (.int p2), .val (.int p3), .val (.int p4), .val (.int p5), .val (.int z), .val (.int j), .val (.int o), .val (.ref wg), .unset, .unset] [(.int z), (.ref f), (.ref f)])) := fun tgt ktg => pre112 tgt (by
      show Steps p.tables e below (T112.setTop (mkF m 47 #[.val (.int p0), .val (.int p1), .val (.int p2), .val (.int p3), .val (.int p4), .val (.int p5), .val (.int z), .val (.int j), .val (.int o), .val (.ref wg), .unset, .unset] [(.ref f)])) _
      refine XS.dup X112.here hx rfl (hb hby at_47) rfl rfl ?_
      show Steps p.tables e below (T112.setTop (mkF m 48 #[.val (.int p0), .val (.int p1), .val (.int p2), .val (.int p3), .val (.int p4), .val (.int p5), .val (.int z), .val (.int j), .val (.int o), .val (.ref wg), .unset, .unset] [(.ref f), (.ref f)])) _
      refine XS.iload X112.here hx rfl (hb hby at_48) rfl ?_
      exact ktg)
    obtain ⟨_, _, ⟨T123, L123, k123, n123⟩, -, X123, ⟨Lc123, hQ123, l123, y123, z123⟩, st123⟩ := X112.specialBack hx (y := (⟨"com/example/prudent_spot/prudentspot/placement/Fleet", "<init>", "(I)V"⟩ : MethodName)) rfl hown (mvT hZ (hw _ (List.mem_of_getElem? (i := 7) rfl))) (mvT hZ (hw _ (List.mem_of_getElem? (i := 8) rfl))) (mvT hZ (hw _ (List.mem_of_getElem? (i := 9) rfl))) (by decide) (backOf (W := 1) (rm1 l Z a0 hw [] f z h112 n0 z114 f116 g_f hnz hz4 f117 f118 f119 f120 f121) hZ (hw _ (List.mem_of_getElem? (i := 9) rfl)) (hw _ (List.mem_of_getElem? (i := 6) rfl)) (by decide) (by decide)) (g := (mkF m 50 #[.val (.int p0), .val (.int p1), .val (.int p2), .val (.int p3), .val (.int p4), .val (.int p5), .val (.int z), .val (.int j), .val (.int o), .val (.ref wg), .unset, .unset] [(.int z), (.ref f), (.ref f)])) rfl (by rw [hml]; rfl) (Steps.refl _) (a := f) (argsL := [(.int z)]) (rest := [(.ref f)]) (lenOf pd_0 rfl) rfl (by show 2 * 0 + _ ≤ _; exact Nat.le_of_eq rfl) (hb hby at_50) (fun _ _ => ⟨rfl, e112, (by decide : 1 + 5 ≤ _), (by decide : 5 + 20 ≤ _)⟩)
    dsimp only [Pt.U, Pt.locs, Pt.cells, Pt.slots] at X123 l123 y123 z123 st123 hQ123
    subst l123 y123 z123
    obtain ⟨c1, t1, le, ld, kc, kt, ke, kd, rfl, Nq123, Kq123, E1, F1, F2, F3, F4, A1, A2, A3, A4, O4, gc, gt, ge, gd, sc_, st_, se_, sd_, nfc, nft, nfe, nfd, nct, nce, ncd, nte, ntd, ned⟩ := hQ123
    have N124 := Fr.app N0 Nq123
    have pre123 : Rch p.tables e below (s₁.setTop (entryFrame m #[(.int p0), (.int p1), (.int p2), (.int p3), (.int p4), (.int p5)] maxLocals)) (T123.setTop (mkF m 53 #[.val (.int p0), .val (.int p1), .val (.int p2), .val (.int p3), .val (.int p4), .val (.int p5), .val (.int z), .val (.int j), .val (.int o), .val (.ref wg), .unset, .unset] [(.ref f)])) := fun tgt ktg => pre122 tgt (st123.trans ktg)
    have f125 : Exa Z T123.heap wg "com/example/prudent_spot/prudentspot/capacity/Direction" := f113.keep Kq123
    have f126 : Exa Z T123.heap f "com/example/prudent_spot/prudentspot/placement/Fleet" := f116.keep Kq123
    have z127 : n0 ≤ T123.heap.size := Nat.le_trans z114 Kq123.1
    have K128 : Keep h0 T123.heap [] := K115.trans Kq123 (allS (P := fun x => x ∈ ([] : List Addr) ∨ h0.size ≤ x) (Or.inr sz_f) (all0 (P := fun x => x ∈ ([] : List Addr) ∨ h0.size ≤ x)))
    have pre129 : Rch p.tables e below (s₁.setTop (entryFrame m #[(.int p0), (.int p1), (.int p2), (.int p3), (.int p4), (.int p5)] maxLocals)) (T123.setTop (mkF m 59 #[.val (.int p0), .val (.int p1), .val (.int p2), .val (.int p3), .val (.int p4), .val (.int p5), .val (.int z), .val (.int j), .val (.int o), .val (.ref wg), .val (.ref f), .unset] [(.int j), (.ref f)])) := fun tgt ktg => pre123 tgt (by
      show Steps p.tables e below (T123.setTop (mkF m 53 #[.val (.int p0), .val (.int p1), .val (.int p2), .val (.int p3), .val (.int p4), .val (.int p5), .val (.int z), .val (.int j), .val (.int o), .val (.ref wg), .unset, .unset] [(.ref f)])) _
      refine XS.astore X123.here hx rfl (hb hby at_53) rfl rfl (l' := #[.val (.int p0), .val (.int p1), .val (.int p2), .val (.int p3), .val (.int p4), .val (.int p5), .val (.int z), .val (.int j), .val (.int o), .val (.ref wg), .val (.ref f), .unset]) rfl ?_
      show Steps p.tables e below (T123.setTop (mkF m 55 #[.val (.int p0), .val (.int p1), .val (.int p2), .val (.int p3), .val (.int p4), .val (.int p5), .val (.int z), .val (.int j), .val (.int o), .val (.ref wg), .val (.ref f), .unset] [])) _
      refine XS.aload X123.here hx rfl (hb hby at_55) rfl rfl ?_
      show Steps p.tables e below (T123.setTop (mkF m 57 #[.val (.int p0), .val (.int p1), .val (.int p2), .val (.int p3), .val (.int p4), .val (.int p5), .val (.int z), .val (.int j), .val (.int o), .val (.ref wg), .val (.ref f), .unset] [(.ref f)])) _
      refine XS.iload X123.here hx rfl (hb hby at_57) rfl ?_
      exact ktg)
    obtain ⟨cq130, kq130, q130a, q130b, q130c⟩ := isOf hZ rfl E1
    obtain ⟨_, _, ⟨T130, L130, k130, n130⟩, -, X130, ⟨Lc130, hQ130, l130, y130, z130⟩, st130⟩ := X123.virtualBack hx (y := (⟨"com/example/prudent_spot/prudentspot/placement/Fleet", "freeCores", "(I)I"⟩ : MethodName)) (z := (⟨"com/example/prudent_spot/prudentspot/placement/Fleet", "freeCores", "(I)I"⟩ : MethodName)) hown (mvT hZ (hw _ (List.mem_of_getElem? (i := 30) rfl))) (mvT hZ (hw _ (List.mem_of_getElem? (i := 31) rfl))) (notFace_of_selects (args := #[]) (mvT hZ (hw _ (List.mem_of_getElem? (i := 33) rfl)))) (mvT hZ (hw _ (List.mem_of_getElem? (i := 33) rfl))) (mvT hZ (hw _ (List.mem_of_getElem? (i := 32) rfl))) (by decide) (backOf (W := 0) (rm3 l Z a0 hw [] f j c1 t1 kc kt z 0 0 [(.int (0 : Int32)), (.int (0 : Int32)), (.int (0 : Int32)), (.int (0 : Int32))] [(.int (0 : Int32)), (.int (0 : Int32)), (.int (0 : Int32)), (.int (0 : Int32))] T123.heap n0 z127 F1 F2 A1 A2 hj (own_z4 _) (own_z4 _)) hZ (hw _ (List.mem_of_getElem? (i := 34) rfl)) (hw _ (List.mem_of_getElem? (i := 6) rfl)) (by decide) (by decide)) q130a q130c (g := (mkF m 59 #[.val (.int p0), .val (.int p1), .val (.int p2), .val (.int p3), .val (.int p4), .val (.int p5), .val (.int z), .val (.int j), .val (.int o), .val (.ref wg), .val (.ref f), .unset] [(.int j), (.ref f)])) rfl (by rw [hml]; rfl) (Steps.refl _) (argsL := [(.int j)]) (rest := []) (lenOf pd_1 rfl) rfl (by show 2 * 0 + _ ≤ _; exact Nat.le_of_eq rfl) (hb hby at_59) (fun _ _ => ⟨rfl, rfl, (by decide : 6 + 0 ≤ _), (by decide : 25 + 0 ≤ _)⟩)
    dsimp only [Pt.U, Pt.locs, Pt.cells, Pt.slots] at X130 l130 y130 z130 st130 hQ130
    subst l130 y130 z130
    obtain ⟨rfl, Nq130, eh130⟩ := hQ130
    have N131 := Fr.app N124 Nq130
    have pre130 : Rch p.tables e below (s₁.setTop (entryFrame m #[(.int p0), (.int p1), (.int p2), (.int p3), (.int p4), (.int p5)] maxLocals)) (T130.setTop (mkF m 62 #[.val (.int p0), .val (.int p1), .val (.int p2), .val (.int p3), .val (.int p4), .val (.int p5), .val (.int z), .val (.int j), .val (.int o), .val (.ref wg), .val (.ref f), .unset] [(.int (0 - 0))])) := fun tgt ktg => pre129 tgt (st130.trans ktg)
    have pre132 : Rch p.tables e below (s₁.setTop (entryFrame m #[(.int p0), (.int p1), (.int p2), (.int p3), (.int p4), (.int p5)] maxLocals)) (T130.setTop (mkF m 80 #[.val (.int p0), .val (.int p1), .val (.int p2), .val (.int p3), .val (.int p4), .val (.int p5), .val (.int z), .val (.int j), .val (.int o), .val (.ref wg), .val (.ref f), .val (.int (1 : Int32))] [(.ref wg), (.int p2), .null, (.int j), (.ref f)])) := fun tgt ktg => pre130 tgt (by
      show Steps p.tables e below (T130.setTop (mkF m 62 #[.val (.int p0), .val (.int p1), .val (.int p2), .val (.int p3), .val (.int p4), .val (.int p5), .val (.int z), .val (.int j), .val (.int o), .val (.ref wg), .val (.ref f), .unset] [(.int (0 - 0))])) _
      refine XS.ifNo X130.here hx rfl (hb hby at_62) rfl ((if0 _ _).trans (teq (rfl : (0 - 0 : Int32) = 0)).2) ?_
      show Steps p.tables e below (T130.setTop (mkF m 65 #[.val (.int p0), .val (.int p1), .val (.int p2), .val (.int p3), .val (.int p4), .val (.int p5), .val (.int z), .val (.int j), .val (.int o), .val (.ref wg), .val (.ref f), .unset] [])) _
      refine XS.iconst X130.here hx rfl (hb hby at_65) ?_
      show Steps p.tables e below (T130.setTop (mkF m 66 #[.val (.int p0), .val (.int p1), .val (.int p2), .val (.int p3), .val (.int p4), .val (.int p5), .val (.int z), .val (.int j), .val (.int o), .val (.ref wg), .val (.ref f), .unset] [(.int (1 : Int32))])) _
      refine XS.goto X130.here hx rfl (pc0 := 66) (pc' := 70) rfl (hb hby at_66) (by decide) (by decide) ?_
      show Steps p.tables e below (T130.setTop (mkF m 70 #[.val (.int p0), .val (.int p1), .val (.int p2), .val (.int p3), .val (.int p4), .val (.int p5), .val (.int z), .val (.int j), .val (.int o), .val (.ref wg), .val (.ref f), .unset] [(.int (1 : Int32))])) _
      refine XS.istore X130.here hx rfl (hb hby at_70) rfl (l' := #[.val (.int p0), .val (.int p1), .val (.int p2), .val (.int p3), .val (.int p4), .val (.int p5), .val (.int z), .val (.int j), .val (.int o), .val (.ref wg), .val (.ref f), .val (.int (1 : Int32))]) rfl ?_
      show Steps p.tables e below (T130.setTop (mkF m 72 #[.val (.int p0), .val (.int p1), .val (.int p2), .val (.int p3), .val (.int p4), .val (.int p5), .val (.int z), .val (.int j), .val (.int o), .val (.ref wg), .val (.ref f), .val (.int (1 : Int32))] [])) _
      refine XS.aload X130.here hx rfl (hb hby at_72) rfl rfl ?_
      show Steps p.tables e below (T130.setTop (mkF m 74 #[.val (.int p0), .val (.int p1), .val (.int p2), .val (.int p3), .val (.int p4), .val (.int p5), .val (.int z), .val (.int j), .val (.int o), .val (.ref wg), .val (.ref f), .val (.int (1 : Int32))] [(.ref f)])) _
      refine XS.iload X130.here hx rfl (hb hby at_74) rfl ?_
      show Steps p.tables e below (T130.setTop (mkF m 76 #[.val (.int p0), .val (.int p1), .val (.int p2), .val (.int p3), .val (.int p4), .val (.int p5), .val (.int z), .val (.int j), .val (.int o), .val (.ref wg), .val (.ref f), .val (.int (1 : Int32))] [(.int j), (.ref f)])) _
      refine XS.aconstNull X130.here hx rfl (hb hby at_76) ?_
      show Steps p.tables e below (T130.setTop (mkF m 77 #[.val (.int p0), .val (.int p1), .val (.int p2), .val (.int p3), .val (.int p4), .val (.int p5), .val (.int z), .val (.int j), .val (.int o), .val (.ref wg), .val (.ref f), .val (.int (1 : Int32))] [.null, (.int j), (.ref f)])) _
      refine XS.iloadN X130.here hx rfl (hb hby at_77) rfl ?_
      show Steps p.tables e below (T130.setTop (mkF m 78 #[.val (.int p0), .val (.int p1), .val (.int p2), .val (.int p3), .val (.int p4), .val (.int p5), .val (.int z), .val (.int j), .val (.int o), .val (.ref wg), .val (.ref f), .val (.int (1 : Int32))] [(.int p2), .null, (.int j), (.ref f)])) _
      refine XS.aload X130.here hx rfl (hb hby at_78) rfl rfl ?_
      exact ktg)
    obtain ⟨cq133, kq133, q133a, q133b, q133c⟩ := isOf hZ eh130 E1
    obtain ⟨_, _, ⟨T133, L133, k133, n133⟩, -, X133, ⟨Lc133, hQ133, l133, y133, z133⟩, st133⟩ := X130.virtualBack hx (y := (⟨"com/example/prudent_spot/prudentspot/placement/Fleet", "change", "(ILjava/time/Instant;ILcom/example/prudent_spot/prudentspot/capacity/Direction;)V"⟩ : MethodName)) (z := (⟨"com/example/prudent_spot/prudentspot/placement/Fleet", "change", "(ILjava/time/Instant;ILcom/example/prudent_spot/prudentspot/capacity/Direction;)V"⟩ : MethodName)) hown (mvT hZ (hw _ (List.mem_of_getElem? (i := 35) rfl))) (mvT hZ (hw _ (List.mem_of_getElem? (i := 36) rfl))) (notFace_of_selects (args := #[]) (mvT hZ (hw _ (List.mem_of_getElem? (i := 38) rfl)))) (mvT hZ (hw _ (List.mem_of_getElem? (i := 38) rfl))) (mvT hZ (hw _ (List.mem_of_getElem? (i := 37) rfl))) (by decide) (backOf (W := 0) (rm4 l Z a0 hw [] f j p2 wg c1 le ld kc ke kd z [(.int (0 : Int32)), (.int (0 : Int32)), (.int (0 : Int32)), (.int (0 : Int32))] T123.heap n0 z127 F1 F3 F4 A1 A3 A4 O4 f125 hj pj pj gc ge gd nfc nfe nfd nce ncd ned) hZ (hw _ (List.mem_of_getElem? (i := 39) rfl)) (hw _ (List.mem_of_getElem? (i := 6) rfl)) (by decide) (by decide)) q133a q133c (g := (mkF m 80 #[.val (.int p0), .val (.int p1), .val (.int p2), .val (.int p3), .val (.int p4), .val (.int p5), .val (.int z), .val (.int j), .val (.int o), .val (.ref wg), .val (.ref f), .val (.int (1 : Int32))] [(.ref wg), (.int p2), .null, (.int j), (.ref f)])) rfl (by rw [hml]; rfl) (Steps.refl _) (argsL := [(.int j), .null, (.int p2), (.ref wg)]) (rest := []) (lenOf pd_2 rfl) rfl (by show 2 * 0 + _ ≤ _; exact Nat.le_of_eq rfl) (hb hby at_80) (fun _ _ => ⟨rfl, eh130, (by decide : 6 + 0 ≤ _), (by decide : 25 + 0 ≤ _)⟩)
    dsimp only [Pt.U, Pt.locs, Pt.cells, Pt.slots] at X133 l133 y133 z133 st133 hQ133
    subst l133 y133 z133
    obtain ⟨rfl, Nq133, Kq133, A5⟩ := hQ133
    have N134 := Fr.app N131 Nq133
    have pre133 : Rch p.tables e below (s₁.setTop (entryFrame m #[(.int p0), (.int p1), (.int p2), (.int p3), (.int p4), (.int p5)] maxLocals)) (T133.setTop (mkF m 83 #[.val (.int p0), .val (.int p1), .val (.int p2), .val (.int p3), .val (.int p4), .val (.int p5), .val (.int z), .val (.int j), .val (.int o), .val (.ref wg), .val (.ref f), .val (.int (1 : Int32))] [])) := fun tgt ktg => pre132 tgt (st133.trans ktg)
    have f135 : Exa Z T133.heap wg "com/example/prudent_spot/prudentspot/capacity/Direction" := f125.keep Kq133
    have f136 : Exa Z T133.heap f "com/example/prudent_spot/prudentspot/placement/Fleet" := E1.keep Kq133
    have f137 : Fld Z T133.heap f "com/example/prudent_spot/prudentspot/placement/Fleet" "cores" "[I" (.ref c1) := F1.keep Kq133 (ninS nfc (ninS nfe (ninS nfd nin0)))
    have f138 : Fld Z T133.heap f "com/example/prudent_spot/prudentspot/placement/Fleet" "taken" "[I" (.ref t1) := F2.keep Kq133 (ninS nfc (ninS nfe (ninS nfd nin0)))
    have f139 : Fld Z T133.heap f "com/example/prudent_spot/prudentspot/placement/Fleet" "lastEvent" "[Ljava/time/Instant;" (.ref le) := F3.keep Kq133 (ninS nfc (ninS nfe (ninS nfd nin0)))
    have f140 : Fld Z T133.heap f "com/example/prudent_spot/prudentspot/placement/Fleet" "lastDirection" "[Lcom/example/prudent_spot/prudentspot/capacity/Direction;" (.ref ld) := F4.keep Kq133 (ninS nfc (ninS nfe (ninS nfd nin0)))
    have f141 : Arv Z T133.heap t1 kt .int z [(.int (0 : Int32)), (.int (0 : Int32)), (.int (0 : Int32)), (.int (0 : Int32))] (.int (0 : Int32)) := A2.keep Kq133 (ninS (Ne.symm nct) (ninS nte (ninS ntd nin0)))
    have z142 : n0 ≤ T133.heap.size := Nat.le_trans z127 Kq133.1
    have K143 : Keep h0 T133.heap [] := K128.trans Kq133 (allS (P := fun x => x ∈ ([] : List Addr) ∨ h0.size ≤ x) (Or.inr (Nat.le_trans K115.1 sc_)) (allS (P := fun x => x ∈ ([] : List Addr) ∨ h0.size ≤ x) (Or.inr (Nat.le_trans K115.1 se_)) (allS (P := fun x => x ∈ ([] : List Addr) ∨ h0.size ≤ x) (Or.inr (Nat.le_trans K115.1 sd_)) (all0 (P := fun x => x ∈ ([] : List Addr) ∨ h0.size ≤ x)))))
    have pre144 : Rch p.tables e below (s₁.setTop (entryFrame m #[(.int p0), (.int p1), (.int p2), (.int p3), (.int p4), (.int p5)] maxLocals)) (T133.setTop (mkF m 92 #[.val (.int p0), .val (.int p1), .val (.int p2), .val (.int p3), .val (.int p4), .val (.int p5), .val (.int z), .val (.int j), .val (.int o), .val (.ref wg), .val (.ref f), .val (.int (1 : Int32))] [(.int j), (.ref f)])) := fun tgt ktg => pre133 tgt (by
      show Steps p.tables e below (T133.setTop (mkF m 83 #[.val (.int p0), .val (.int p1), .val (.int p2), .val (.int p3), .val (.int p4), .val (.int p5), .val (.int z), .val (.int j), .val (.int o), .val (.ref wg), .val (.ref f), .val (.int (1 : Int32))] [])) _
      refine XS.iload X133.here hx rfl (hb hby at_83) rfl ?_
      show Steps p.tables e below (T133.setTop (mkF m 85 #[.val (.int p0), .val (.int p1), .val (.int p2), .val (.int p3), .val (.int p4), .val (.int p5), .val (.int z), .val (.int j), .val (.int o), .val (.ref wg), .val (.ref f), .val (.int (1 : Int32))] [(.int (1 : Int32))])) _
      refine XS.ifNo X133.here hx rfl (hb hby at_85) rfl ((if0 _ _).trans (feq (by decide : ¬ ((1 : Int32) = (0 : Int32)))).1) ?_
      show Steps p.tables e below (T133.setTop (mkF m 88 #[.val (.int p0), .val (.int p1), .val (.int p2), .val (.int p3), .val (.int p4), .val (.int p5), .val (.int z), .val (.int j), .val (.int o), .val (.ref wg), .val (.ref f), .val (.int (1 : Int32))] [])) _
      refine XS.aload X133.here hx rfl (hb hby at_88) rfl rfl ?_
      show Steps p.tables e below (T133.setTop (mkF m 90 #[.val (.int p0), .val (.int p1), .val (.int p2), .val (.int p3), .val (.int p4), .val (.int p5), .val (.int z), .val (.int j), .val (.int o), .val (.ref wg), .val (.ref f), .val (.int (1 : Int32))] [(.ref f)])) _
      refine XS.iload X133.here hx rfl (hb hby at_90) rfl ?_
      exact ktg)
    obtain ⟨cq145, kq145, q145a, q145b, q145c⟩ := isOf hZ rfl f136
    obtain ⟨_, _, ⟨T145, L145, k145, n145⟩, -, X145, ⟨Lc145, hQ145, l145, y145, z145⟩, st145⟩ := X133.virtualBack hx (y := (⟨"com/example/prudent_spot/prudentspot/placement/Fleet", "freeCores", "(I)I"⟩ : MethodName)) (z := (⟨"com/example/prudent_spot/prudentspot/placement/Fleet", "freeCores", "(I)I"⟩ : MethodName)) hown (mvT hZ (hw _ (List.mem_of_getElem? (i := 30) rfl))) (mvT hZ (hw _ (List.mem_of_getElem? (i := 31) rfl))) (notFace_of_selects (args := #[]) (mvT hZ (hw _ (List.mem_of_getElem? (i := 33) rfl)))) (mvT hZ (hw _ (List.mem_of_getElem? (i := 33) rfl))) (mvT hZ (hw _ (List.mem_of_getElem? (i := 32) rfl))) (by decide) (backOf (W := 0) (rm3 l Z a0 hw [] f j c1 t1 kc kt z p2 0 (([(.int (0 : Int32)), (.int (0 : Int32)), (.int (0 : Int32)), (.int (0 : Int32))] : List Value).set j.toNatClampNeg (.int p2)) [(.int (0 : Int32)), (.int (0 : Int32)), (.int (0 : Int32)), (.int (0 : Int32))] T133.heap n0 z142 f137 f138 A5 f141 hj (own_hit pj) (own_z4 _)) hZ (hw _ (List.mem_of_getElem? (i := 34) rfl)) (hw _ (List.mem_of_getElem? (i := 6) rfl)) (by decide) (by decide)) q145a q145c (g := (mkF m 92 #[.val (.int p0), .val (.int p1), .val (.int p2), .val (.int p3), .val (.int p4), .val (.int p5), .val (.int z), .val (.int j), .val (.int o), .val (.ref wg), .val (.ref f), .val (.int (1 : Int32))] [(.int j), (.ref f)])) rfl (by rw [hml]; rfl) (Steps.refl _) (argsL := [(.int j)]) (rest := []) (lenOf pd_1 rfl) rfl (by show 2 * 0 + _ ≤ _; exact Nat.le_of_eq rfl) (hb hby at_92) (fun _ _ => ⟨rfl, rfl, (by decide : 6 + 0 ≤ _), (by decide : 25 + 0 ≤ _)⟩)
    dsimp only [Pt.U, Pt.locs, Pt.cells, Pt.slots] at X145 l145 y145 z145 st145 hQ145
    subst l145 y145 z145
    obtain ⟨rfl, Nq145, eh145⟩ := hQ145
    have N146 := Fr.app N134 Nq145
    have pre145 : Rch p.tables e below (s₁.setTop (entryFrame m #[(.int p0), (.int p1), (.int p2), (.int p3), (.int p4), (.int p5)] maxLocals)) (T145.setTop (mkF m 95 #[.val (.int p0), .val (.int p1), .val (.int p2), .val (.int p3), .val (.int p4), .val (.int p5), .val (.int z), .val (.int j), .val (.int o), .val (.ref wg), .val (.ref f), .val (.int (1 : Int32))] [(.int (p2 - 0))])) := fun tgt ktg => pre144 tgt (st145.trans ktg)
    have pre147 : Rch p.tables e below (s₁.setTop (entryFrame m #[(.int p0), (.int p1), (.int p2), (.int p3), (.int p4), (.int p5)] maxLocals)) (T145.setTop (mkF m 96 #[.val (.int p0), .val (.int p1), .val (.int p2), .val (.int p3), .val (.int p4), .val (.int p5), .val (.int z), .val (.int j), .val (.int o), .val (.ref wg), .val (.ref f), .val (.int (1 : Int32))] [(.int p2), (.int (p2 - 0))])) := fun tgt ktg => pre145 tgt (by
      show Steps p.tables e below (T145.setTop (mkF m 95 #[.val (.int p0), .val (.int p1), .val (.int p2), .val (.int p3), .val (.int p4), .val (.int p5), .val (.int z), .val (.int j), .val (.int o), .val (.ref wg), .val (.ref f), .val (.int (1 : Int32))] [(.int (p2 - 0))])) _
      refine XS.iloadN X145.here hx rfl (hb hby at_95) rfl ?_
      exact ktg)
    have pre148 : Rch p.tables e below (s₁.setTop (entryFrame m #[(.int p0), (.int p1), (.int p2), (.int p3), (.int p4), (.int p5)] maxLocals)) (T145.setTop (mkF m 111 #[.val (.int p0), .val (.int p1), .val (.int p2), .val (.int p3), .val (.int p4), .val (.int p5), .val (.int z), .val (.int j), .val (.int o), .val (.ref wg), .val (.ref f), .val (.int (1 : Int32))] [(.int p3), (.int j), (.ref f)])) := fun tgt ktg => pre147 tgt (by
      show Steps p.tables e below (T145.setTop (mkF m 96 #[.val (.int p0), .val (.int p1), .val (.int p2), .val (.int p3), .val (.int p4), .val (.int p5), .val (.int z), .val (.int j), .val (.int o), .val (.ref wg), .val (.ref f), .val (.int (1 : Int32))] [(.int p2), (.int (p2 - 0))])) _
      refine XS.icmpNo X145.here hx rfl (hb hby at_96) rfl (teq (Int32.sub_zero p2)).2 ?_
      show Steps p.tables e below (T145.setTop (mkF m 99 #[.val (.int p0), .val (.int p1), .val (.int p2), .val (.int p3), .val (.int p4), .val (.int p5), .val (.int z), .val (.int j), .val (.int o), .val (.ref wg), .val (.ref f), .val (.int (1 : Int32))] [])) _
      refine XS.iconst X145.here hx rfl (hb hby at_99) ?_
      show Steps p.tables e below (T145.setTop (mkF m 100 #[.val (.int p0), .val (.int p1), .val (.int p2), .val (.int p3), .val (.int p4), .val (.int p5), .val (.int z), .val (.int j), .val (.int o), .val (.ref wg), .val (.ref f), .val (.int (1 : Int32))] [(.int (1 : Int32))])) _
      refine XS.goto X145.here hx rfl (pc0 := 100) (pc' := 104) rfl (hb hby at_100) (by decide) (by decide) ?_
      show Steps p.tables e below (T145.setTop (mkF m 104 #[.val (.int p0), .val (.int p1), .val (.int p2), .val (.int p3), .val (.int p4), .val (.int p5), .val (.int z), .val (.int j), .val (.int o), .val (.ref wg), .val (.ref f), .val (.int (1 : Int32))] [(.int (1 : Int32))])) _
      refine XS.istore X145.here hx rfl (hb hby at_104) rfl (l' := #[.val (.int p0), .val (.int p1), .val (.int p2), .val (.int p3), .val (.int p4), .val (.int p5), .val (.int z), .val (.int j), .val (.int o), .val (.ref wg), .val (.ref f), .val (.int (1 : Int32))]) rfl ?_
      show Steps p.tables e below (T145.setTop (mkF m 106 #[.val (.int p0), .val (.int p1), .val (.int p2), .val (.int p3), .val (.int p4), .val (.int p5), .val (.int z), .val (.int j), .val (.int o), .val (.ref wg), .val (.ref f), .val (.int (1 : Int32))] [])) _
      refine XS.aload X145.here hx rfl (hb hby at_106) rfl rfl ?_
      show Steps p.tables e below (T145.setTop (mkF m 108 #[.val (.int p0), .val (.int p1), .val (.int p2), .val (.int p3), .val (.int p4), .val (.int p5), .val (.int z), .val (.int j), .val (.int o), .val (.ref wg), .val (.ref f), .val (.int (1 : Int32))] [(.ref f)])) _
      refine XS.iload X145.here hx rfl (hb hby at_108) rfl ?_
      show Steps p.tables e below (T145.setTop (mkF m 110 #[.val (.int p0), .val (.int p1), .val (.int p2), .val (.int p3), .val (.int p4), .val (.int p5), .val (.int z), .val (.int j), .val (.int o), .val (.ref wg), .val (.ref f), .val (.int (1 : Int32))] [(.int j), (.ref f)])) _
      refine XS.iloadN X145.here hx rfl (hb hby at_110) rfl ?_
      exact ktg)
    obtain ⟨cq149, kq149, q149a, q149b, q149c⟩ := isOf hZ eh145 f136
    obtain ⟨_, _, ⟨T149, L149, k149, n149⟩, -, X149, ⟨Lc149, hQ149, l149, y149, z149⟩, st149⟩ := X145.virtualBack hx (y := (⟨"com/example/prudent_spot/prudentspot/placement/Fleet", "take", "(II)V"⟩ : MethodName)) (z := (⟨"com/example/prudent_spot/prudentspot/placement/Fleet", "take", "(II)V"⟩ : MethodName)) hown (mvT hZ (hw _ (List.mem_of_getElem? (i := 41) rfl))) (mvT hZ (hw _ (List.mem_of_getElem? (i := 42) rfl))) (notFace_of_selects (args := #[]) (mvT hZ (hw _ (List.mem_of_getElem? (i := 44) rfl)))) (mvT hZ (hw _ (List.mem_of_getElem? (i := 44) rfl))) (mvT hZ (hw _ (List.mem_of_getElem? (i := 43) rfl))) (by decide) (backOf (W := 0) (rm5 l Z a0 hw [] f j p3 t1 kt z 0 [(.int (0 : Int32)), (.int (0 : Int32)), (.int (0 : Int32)), (.int (0 : Int32))] T133.heap n0 z142 f138 f141 hj (own_z4 _) pj gt nft) hZ (hw _ (List.mem_of_getElem? (i := 45) rfl)) (hw _ (List.mem_of_getElem? (i := 6) rfl)) (by decide) (by decide)) q149a q149c (g := (mkF m 111 #[.val (.int p0), .val (.int p1), .val (.int p2), .val (.int p3), .val (.int p4), .val (.int p5), .val (.int z), .val (.int j), .val (.int o), .val (.ref wg), .val (.ref f), .val (.int (1 : Int32))] [(.int p3), (.int j), (.ref f)])) rfl (by rw [hml]; rfl) (Steps.refl _) (argsL := [(.int j), (.int p3)]) (rest := []) (lenOf pd_3 rfl) rfl (by show 2 * 0 + _ ≤ _; exact Nat.le_of_eq rfl) (hb hby at_111) (fun _ _ => ⟨rfl, eh145, (by decide : 6 + 0 ≤ _), (by decide : 25 + 0 ≤ _)⟩)
    dsimp only [Pt.U, Pt.locs, Pt.cells, Pt.slots] at X149 l149 y149 z149 st149 hQ149
    subst l149 y149 z149
    obtain ⟨rfl, Nq149, Kq149, A6⟩ := hQ149
    have N150 := Fr.app N146 Nq149
    have pre149 : Rch p.tables e below (s₁.setTop (entryFrame m #[(.int p0), (.int p1), (.int p2), (.int p3), (.int p4), (.int p5)] maxLocals)) (T149.setTop (mkF m 114 #[.val (.int p0), .val (.int p1), .val (.int p2), .val (.int p3), .val (.int p4), .val (.int p5), .val (.int z), .val (.int j), .val (.int o), .val (.ref wg), .val (.ref f), .val (.int (1 : Int32))] [])) := fun tgt ktg => pre148 tgt (st149.trans ktg)
    have f151 : Exa Z T149.heap wg "com/example/prudent_spot/prudentspot/capacity/Direction" := f135.keep Kq149
    have f152 : Exa Z T149.heap f "com/example/prudent_spot/prudentspot/placement/Fleet" := f136.keep Kq149
    have f153 : Fld Z T149.heap f "com/example/prudent_spot/prudentspot/placement/Fleet" "cores" "[I" (.ref c1) := f137.keep Kq149 (ninS nft nin0)
    have f154 : Fld Z T149.heap f "com/example/prudent_spot/prudentspot/placement/Fleet" "taken" "[I" (.ref t1) := f138.keep Kq149 (ninS nft nin0)
    have f155 : Fld Z T149.heap f "com/example/prudent_spot/prudentspot/placement/Fleet" "lastEvent" "[Ljava/time/Instant;" (.ref le) := f139.keep Kq149 (ninS nft nin0)
    have f156 : Fld Z T149.heap f "com/example/prudent_spot/prudentspot/placement/Fleet" "lastDirection" "[Lcom/example/prudent_spot/prudentspot/capacity/Direction;" (.ref ld) := f140.keep Kq149 (ninS nft nin0)
    have f157 : Arv Z T149.heap c1 kc .int z (([(.int (0 : Int32)), (.int (0 : Int32)), (.int (0 : Int32)), (.int (0 : Int32))] : List Value).set j.toNatClampNeg (.int p2)) (.int (0 : Int32)) := A5.keep Kq149 (ninS nct nin0)
    have z158 : n0 ≤ T149.heap.size := Nat.le_trans z142 Kq149.1
    have K159 : Keep h0 T149.heap [] := K143.trans Kq149 (allS (P := fun x => x ∈ ([] : List Addr) ∨ h0.size ≤ x) (Or.inr (Nat.le_trans K115.1 st_)) (all0 (P := fun x => x ∈ ([] : List Addr) ∨ h0.size ≤ x)))
    have pre160 : Rch p.tables e below (s₁.setTop (entryFrame m #[(.int p0), (.int p1), (.int p2), (.int p3), (.int p4), (.int p5)] maxLocals)) (T149.setTop (mkF m 120 #[.val (.int p0), .val (.int p1), .val (.int p2), .val (.int p3), .val (.int p4), .val (.int p5), .val (.int z), .val (.int j), .val (.int o), .val (.ref wg), .val (.ref f), .val (.int (1 : Int32))] [(.int p4), (.int j), (.ref f)])) := fun tgt ktg => pre149 tgt (by
      show Steps p.tables e below (T149.setTop (mkF m 114 #[.val (.int p0), .val (.int p1), .val (.int p2), .val (.int p3), .val (.int p4), .val (.int p5), .val (.int z), .val (.int j), .val (.int o), .val (.ref wg), .val (.ref f), .val (.int (1 : Int32))] [])) _
      refine XS.aload X149.here hx rfl (hb hby at_114) rfl rfl ?_
      show Steps p.tables e below (T149.setTop (mkF m 116 #[.val (.int p0), .val (.int p1), .val (.int p2), .val (.int p3), .val (.int p4), .val (.int p5), .val (.int z), .val (.int j), .val (.int o), .val (.ref wg), .val (.ref f), .val (.int (1 : Int32))] [(.ref f)])) _
      refine XS.iload X149.here hx rfl (hb hby at_116) rfl ?_
      show Steps p.tables e below (T149.setTop (mkF m 118 #[.val (.int p0), .val (.int p1), .val (.int p2), .val (.int p3), .val (.int p4), .val (.int p5), .val (.int z), .val (.int j), .val (.int o), .val (.ref wg), .val (.ref f), .val (.int (1 : Int32))] [(.int j), (.ref f)])) _
      refine XS.iload X149.here hx rfl (hb hby at_118) rfl ?_
      exact ktg)
    obtain ⟨cq161, kq161, q161a, q161b, q161c⟩ := isOf hZ rfl f152
    obtain ⟨_, _, ⟨T161, L161, k161, n161⟩, -, X161, ⟨Lc161, hQ161, l161, y161, z161⟩, st161⟩ := X149.virtualBack hx (y := (⟨"com/example/prudent_spot/prudentspot/placement/Fleet", "release", "(II)V"⟩ : MethodName)) (z := (⟨"com/example/prudent_spot/prudentspot/placement/Fleet", "release", "(II)V"⟩ : MethodName)) hown (mvT hZ (hw _ (List.mem_of_getElem? (i := 46) rfl))) (mvT hZ (hw _ (List.mem_of_getElem? (i := 47) rfl))) (notFace_of_selects (args := #[]) (mvT hZ (hw _ (List.mem_of_getElem? (i := 49) rfl)))) (mvT hZ (hw _ (List.mem_of_getElem? (i := 49) rfl))) (mvT hZ (hw _ (List.mem_of_getElem? (i := 48) rfl))) (by decide) (backOf (W := 0) (rm6 l Z a0 hw [] f j p4 t1 kt z (0 + p3) (([(.int (0 : Int32)), (.int (0 : Int32)), (.int (0 : Int32)), (.int (0 : Int32))] : List Value).set j.toNatClampNeg (.int (0 + p3))) T149.heap n0 z158 f154 A6 hj (own_hit pj) (by simpa using pj) gt nft) hZ (hw _ (List.mem_of_getElem? (i := 50) rfl)) (hw _ (List.mem_of_getElem? (i := 6) rfl)) (by decide) (by decide)) q161a q161c (g := (mkF m 120 #[.val (.int p0), .val (.int p1), .val (.int p2), .val (.int p3), .val (.int p4), .val (.int p5), .val (.int z), .val (.int j), .val (.int o), .val (.ref wg), .val (.ref f), .val (.int (1 : Int32))] [(.int p4), (.int j), (.ref f)])) rfl (by rw [hml]; rfl) (Steps.refl _) (argsL := [(.int j), (.int p4)]) (rest := []) (lenOf pd_3 rfl) rfl (by show 2 * 0 + _ ≤ _; exact Nat.le_of_eq rfl) (hb hby at_120) (fun _ _ => ⟨rfl, rfl, (by decide : 6 + 0 ≤ _), (by decide : 25 + 0 ≤ _)⟩)
    dsimp only [Pt.U, Pt.locs, Pt.cells, Pt.slots] at X161 l161 y161 z161 st161 hQ161
    subst l161 y161 z161
    obtain ⟨rfl, Nq161, Kq161, A7⟩ := hQ161
    have N162 := Fr.app N150 Nq161
    have pre161 : Rch p.tables e below (s₁.setTop (entryFrame m #[(.int p0), (.int p1), (.int p2), (.int p3), (.int p4), (.int p5)] maxLocals)) (T161.setTop (mkF m 123 #[.val (.int p0), .val (.int p1), .val (.int p2), .val (.int p3), .val (.int p4), .val (.int p5), .val (.int z), .val (.int j), .val (.int o), .val (.ref wg), .val (.ref f), .val (.int (1 : Int32))] [])) := fun tgt ktg => pre160 tgt (st161.trans ktg)
    have f163 : Exa Z T161.heap wg "com/example/prudent_spot/prudentspot/capacity/Direction" := f151.keep Kq161
    have f164 : Exa Z T161.heap f "com/example/prudent_spot/prudentspot/placement/Fleet" := f152.keep Kq161
    have f165 : Fld Z T161.heap f "com/example/prudent_spot/prudentspot/placement/Fleet" "cores" "[I" (.ref c1) := f153.keep Kq161 (ninS nft nin0)
    have f166 : Fld Z T161.heap f "com/example/prudent_spot/prudentspot/placement/Fleet" "taken" "[I" (.ref t1) := f154.keep Kq161 (ninS nft nin0)
    have f167 : Fld Z T161.heap f "com/example/prudent_spot/prudentspot/placement/Fleet" "lastEvent" "[Ljava/time/Instant;" (.ref le) := f155.keep Kq161 (ninS nft nin0)
    have f168 : Fld Z T161.heap f "com/example/prudent_spot/prudentspot/placement/Fleet" "lastDirection" "[Lcom/example/prudent_spot/prudentspot/capacity/Direction;" (.ref ld) := f156.keep Kq161 (ninS nft nin0)
    have f169 : Arv Z T161.heap c1 kc .int z (([(.int (0 : Int32)), (.int (0 : Int32)), (.int (0 : Int32)), (.int (0 : Int32))] : List Value).set j.toNatClampNeg (.int p2)) (.int (0 : Int32)) := f157.keep Kq161 (ninS nct nin0)
    have z170 : n0 ≤ T161.heap.size := Nat.le_trans z158 Kq161.1
    have K171 : Keep h0 T161.heap [] := K159.trans Kq161 (allS (P := fun x => x ∈ ([] : List Addr) ∨ h0.size ≤ x) (Or.inr (Nat.le_trans K115.1 st_)) (all0 (P := fun x => x ∈ ([] : List Addr) ∨ h0.size ≤ x)))
    have pre172 : Rch p.tables e below (s₁.setTop (entryFrame m #[(.int p0), (.int p1), (.int p2), (.int p3), (.int p4), (.int p5)] maxLocals)) (T161.setTop (mkF m 132 #[.val (.int p0), .val (.int p1), .val (.int p2), .val (.int p3), .val (.int p4), .val (.int p5), .val (.int z), .val (.int j), .val (.int o), .val (.ref wg), .val (.ref f), .val (.int (1 : Int32))] [(.int j), (.ref f)])) := fun tgt ktg => pre161 tgt (by
      show Steps p.tables e below (T161.setTop (mkF m 123 #[.val (.int p0), .val (.int p1), .val (.int p2), .val (.int p3), .val (.int p4), .val (.int p5), .val (.int z), .val (.int j), .val (.int o), .val (.ref wg), .val (.ref f), .val (.int (1 : Int32))] [])) _
      refine XS.iload X161.here hx rfl (hb hby at_123) rfl ?_
      show Steps p.tables e below (T161.setTop (mkF m 125 #[.val (.int p0), .val (.int p1), .val (.int p2), .val (.int p3), .val (.int p4), .val (.int p5), .val (.int z), .val (.int j), .val (.int o), .val (.ref wg), .val (.ref f), .val (.int (1 : Int32))] [(.int (1 : Int32))])) _
      refine XS.ifNo X161.here hx rfl (hb hby at_125) rfl ((if0 _ _).trans (feq (by decide : ¬ ((1 : Int32) = (0 : Int32)))).1) ?_
      show Steps p.tables e below (T161.setTop (mkF m 128 #[.val (.int p0), .val (.int p1), .val (.int p2), .val (.int p3), .val (.int p4), .val (.int p5), .val (.int z), .val (.int j), .val (.int o), .val (.ref wg), .val (.ref f), .val (.int (1 : Int32))] [])) _
      refine XS.aload X161.here hx rfl (hb hby at_128) rfl rfl ?_
      show Steps p.tables e below (T161.setTop (mkF m 130 #[.val (.int p0), .val (.int p1), .val (.int p2), .val (.int p3), .val (.int p4), .val (.int p5), .val (.int z), .val (.int j), .val (.int o), .val (.ref wg), .val (.ref f), .val (.int (1 : Int32))] [(.ref f)])) _
      refine XS.iload X161.here hx rfl (hb hby at_130) rfl ?_
      exact ktg)
    obtain ⟨cq173, kq173, q173a, q173b, q173c⟩ := isOf hZ rfl f164
    obtain ⟨_, _, ⟨T173, L173, k173, n173⟩, -, X173, ⟨Lc173, hQ173, l173, y173, z173⟩, st173⟩ := X161.virtualBack hx (y := (⟨"com/example/prudent_spot/prudentspot/placement/Fleet", "freeCores", "(I)I"⟩ : MethodName)) (z := (⟨"com/example/prudent_spot/prudentspot/placement/Fleet", "freeCores", "(I)I"⟩ : MethodName)) hown (mvT hZ (hw _ (List.mem_of_getElem? (i := 30) rfl))) (mvT hZ (hw _ (List.mem_of_getElem? (i := 31) rfl))) (notFace_of_selects (args := #[]) (mvT hZ (hw _ (List.mem_of_getElem? (i := 33) rfl)))) (mvT hZ (hw _ (List.mem_of_getElem? (i := 33) rfl))) (mvT hZ (hw _ (List.mem_of_getElem? (i := 32) rfl))) (by decide) (backOf (W := 0) (rm3 l Z a0 hw [] f j c1 t1 kc kt z p2 ((0 + p3) - p4) (([(.int (0 : Int32)), (.int (0 : Int32)), (.int (0 : Int32)), (.int (0 : Int32))] : List Value).set j.toNatClampNeg (.int p2)) ((([(.int (0 : Int32)), (.int (0 : Int32)), (.int (0 : Int32)), (.int (0 : Int32))] : List Value).set j.toNatClampNeg (.int (0 + p3))).set j.toNatClampNeg (.int ((0 + p3) - p4))) T161.heap n0 z170 f165 f166 f169 A7 hj (own_hit pj) (own_hit (by simpa using pj))) hZ (hw _ (List.mem_of_getElem? (i := 34) rfl)) (hw _ (List.mem_of_getElem? (i := 6) rfl)) (by decide) (by decide)) q173a q173c (g := (mkF m 132 #[.val (.int p0), .val (.int p1), .val (.int p2), .val (.int p3), .val (.int p4), .val (.int p5), .val (.int z), .val (.int j), .val (.int o), .val (.ref wg), .val (.ref f), .val (.int (1 : Int32))] [(.int j), (.ref f)])) rfl (by rw [hml]; rfl) (Steps.refl _) (argsL := [(.int j)]) (rest := []) (lenOf pd_1 rfl) rfl (by show 2 * 0 + _ ≤ _; exact Nat.le_of_eq rfl) (hb hby at_132) (fun _ _ => ⟨rfl, rfl, (by decide : 6 + 0 ≤ _), (by decide : 25 + 0 ≤ _)⟩)
    dsimp only [Pt.U, Pt.locs, Pt.cells, Pt.slots] at X173 l173 y173 z173 st173 hQ173
    subst l173 y173 z173
    obtain ⟨rfl, Nq173, eh173⟩ := hQ173
    have N174 := Fr.app N162 Nq173
    have pre173 : Rch p.tables e below (s₁.setTop (entryFrame m #[(.int p0), (.int p1), (.int p2), (.int p3), (.int p4), (.int p5)] maxLocals)) (T173.setTop (mkF m 135 #[.val (.int p0), .val (.int p1), .val (.int p2), .val (.int p3), .val (.int p4), .val (.int p5), .val (.int z), .val (.int j), .val (.int o), .val (.ref wg), .val (.ref f), .val (.int (1 : Int32))] [(.int (p2 - ((0 + p3) - p4)))])) := fun tgt ktg => pre172 tgt (st173.trans ktg)
    have pre175 : Rch p.tables e below (s₁.setTop (entryFrame m #[(.int p0), (.int p1), (.int p2), (.int p3), (.int p4), (.int p5)] maxLocals)) (T173.setTop (mkF m 141 #[.val (.int p0), .val (.int p1), .val (.int p2), .val (.int p3), .val (.int p4), .val (.int p5), .val (.int z), .val (.int j), .val (.int o), .val (.ref wg), .val (.ref f), .val (.int (1 : Int32))] [(.int ((p2 - p3) + p4)), (.int (p2 - ((0 + p3) - p4)))])) := fun tgt ktg => pre173 tgt (by
      show Steps p.tables e below (T173.setTop (mkF m 135 #[.val (.int p0), .val (.int p1), .val (.int p2), .val (.int p3), .val (.int p4), .val (.int p5), .val (.int z), .val (.int j), .val (.int o), .val (.ref wg), .val (.ref f), .val (.int (1 : Int32))] [(.int (p2 - ((0 + p3) - p4)))])) _
      refine XS.iloadN X173.here hx rfl (hb hby at_135) rfl ?_
      show Steps p.tables e below (T173.setTop (mkF m 136 #[.val (.int p0), .val (.int p1), .val (.int p2), .val (.int p3), .val (.int p4), .val (.int p5), .val (.int z), .val (.int j), .val (.int o), .val (.ref wg), .val (.ref f), .val (.int (1 : Int32))] [(.int p2), (.int (p2 - ((0 + p3) - p4)))])) _
      refine XS.iloadN X173.here hx rfl (hb hby at_136) rfl ?_
      show Steps p.tables e below (T173.setTop (mkF m 137 #[.val (.int p0), .val (.int p1), .val (.int p2), .val (.int p3), .val (.int p4), .val (.int p5), .val (.int z), .val (.int j), .val (.int o), .val (.ref wg), .val (.ref f), .val (.int (1 : Int32))] [(.int p3), (.int p2), (.int (p2 - ((0 + p3) - p4)))])) _
      refine XS.isub X173.here hx rfl (hb hby at_137) rfl ?_
      show Steps p.tables e below (T173.setTop (mkF m 138 #[.val (.int p0), .val (.int p1), .val (.int p2), .val (.int p3), .val (.int p4), .val (.int p5), .val (.int z), .val (.int j), .val (.int o), .val (.ref wg), .val (.ref f), .val (.int (1 : Int32))] [(.int (p2 - p3)), (.int (p2 - ((0 + p3) - p4)))])) _
      refine XS.iload X173.here hx rfl (hb hby at_138) rfl ?_
      show Steps p.tables e below (T173.setTop (mkF m 140 #[.val (.int p0), .val (.int p1), .val (.int p2), .val (.int p3), .val (.int p4), .val (.int p5), .val (.int z), .val (.int j), .val (.int o), .val (.ref wg), .val (.ref f), .val (.int (1 : Int32))] [(.int p4), (.int (p2 - p3)), (.int (p2 - ((0 + p3) - p4)))])) _
      refine XS.iadd X173.here hx rfl (hb hby at_140) rfl ?_
      exact ktg)
    have pre176 : Rch p.tables e below (s₁.setTop (entryFrame m #[(.int p0), (.int p1), (.int p2), (.int p3), (.int p4), (.int p5)] maxLocals)) (T173.setTop (mkF m 157 #[.val (.int p0), .val (.int p1), .val (.int p2), .val (.int p3), .val (.int p4), .val (.int p5), .val (.int z), .val (.int j), .val (.int o), .val (.ref wg), .val (.ref f), .val (.int (1 : Int32))] [(.int p5), (.int o), (.ref f)])) := fun tgt ktg => pre175 tgt (by
      show Steps p.tables e below (T173.setTop (mkF m 141 #[.val (.int p0), .val (.int p1), .val (.int p2), .val (.int p3), .val (.int p4), .val (.int p5), .val (.int z), .val (.int j), .val (.int o), .val (.ref wg), .val (.ref f), .val (.int (1 : Int32))] [(.int ((p2 - p3) + p4)), (.int (p2 - ((0 + p3) - p4)))])) _
      refine XS.icmpNo X173.here hx rfl (hb hby at_141) rfl (teq (own_ar1 p2 p3 p4)).2 ?_
      show Steps p.tables e below (T173.setTop (mkF m 144 #[.val (.int p0), .val (.int p1), .val (.int p2), .val (.int p3), .val (.int p4), .val (.int p5), .val (.int z), .val (.int j), .val (.int o), .val (.ref wg), .val (.ref f), .val (.int (1 : Int32))] [])) _
      refine XS.iconst X173.here hx rfl (hb hby at_144) ?_
      show Steps p.tables e below (T173.setTop (mkF m 145 #[.val (.int p0), .val (.int p1), .val (.int p2), .val (.int p3), .val (.int p4), .val (.int p5), .val (.int z), .val (.int j), .val (.int o), .val (.ref wg), .val (.ref f), .val (.int (1 : Int32))] [(.int (1 : Int32))])) _
      refine XS.goto X173.here hx rfl (pc0 := 145) (pc' := 149) rfl (hb hby at_145) (by decide) (by decide) ?_
      show Steps p.tables e below (T173.setTop (mkF m 149 #[.val (.int p0), .val (.int p1), .val (.int p2), .val (.int p3), .val (.int p4), .val (.int p5), .val (.int z), .val (.int j), .val (.int o), .val (.ref wg), .val (.ref f), .val (.int (1 : Int32))] [(.int (1 : Int32))])) _
      refine XS.istore X173.here hx rfl (hb hby at_149) rfl (l' := #[.val (.int p0), .val (.int p1), .val (.int p2), .val (.int p3), .val (.int p4), .val (.int p5), .val (.int z), .val (.int j), .val (.int o), .val (.ref wg), .val (.ref f), .val (.int (1 : Int32))]) rfl ?_
      show Steps p.tables e below (T173.setTop (mkF m 151 #[.val (.int p0), .val (.int p1), .val (.int p2), .val (.int p3), .val (.int p4), .val (.int p5), .val (.int z), .val (.int j), .val (.int o), .val (.ref wg), .val (.ref f), .val (.int (1 : Int32))] [])) _
      refine XS.aload X173.here hx rfl (hb hby at_151) rfl rfl ?_
      show Steps p.tables e below (T173.setTop (mkF m 153 #[.val (.int p0), .val (.int p1), .val (.int p2), .val (.int p3), .val (.int p4), .val (.int p5), .val (.int z), .val (.int j), .val (.int o), .val (.ref wg), .val (.ref f), .val (.int (1 : Int32))] [(.ref f)])) _
      refine XS.iload X173.here hx rfl (hb hby at_153) rfl ?_
      show Steps p.tables e below (T173.setTop (mkF m 155 #[.val (.int p0), .val (.int p1), .val (.int p2), .val (.int p3), .val (.int p4), .val (.int p5), .val (.int z), .val (.int j), .val (.int o), .val (.ref wg), .val (.ref f), .val (.int (1 : Int32))] [(.int o), (.ref f)])) _
      refine XS.iload X173.here hx rfl (hb hby at_155) rfl ?_
      exact ktg)
    by_cases coj : o = j
    · skip
      have po' : o.toNatClampNeg = j.toNatClampNeg := by rw [coj]
      obtain ⟨cq177, kq177, q177a, q177b, q177c⟩ := isOf hZ eh173 f164
      obtain ⟨_, _, ⟨T177, L177, k177, n177⟩, -, X177, ⟨Lc177, hQ177, l177, y177, z177⟩, st177⟩ := X173.virtualBack hx (y := (⟨"com/example/prudent_spot/prudentspot/placement/Fleet", "take", "(II)V"⟩ : MethodName)) (z := (⟨"com/example/prudent_spot/prudentspot/placement/Fleet", "take", "(II)V"⟩ : MethodName)) hown (mvT hZ (hw _ (List.mem_of_getElem? (i := 41) rfl))) (mvT hZ (hw _ (List.mem_of_getElem? (i := 42) rfl))) (notFace_of_selects (args := #[]) (mvT hZ (hw _ (List.mem_of_getElem? (i := 44) rfl)))) (mvT hZ (hw _ (List.mem_of_getElem? (i := 44) rfl))) (mvT hZ (hw _ (List.mem_of_getElem? (i := 43) rfl))) (by decide) (backOf (W := 0) (rm5 l Z a0 hw [] f o p5 t1 kt z ((0 + p3) - p4) ((([(.int (0 : Int32)), (.int (0 : Int32)), (.int (0 : Int32)), (.int (0 : Int32))] : List Value).set j.toNatClampNeg (.int (0 + p3))).set j.toNatClampNeg (.int ((0 + p3) - p4))) T161.heap n0 z170 f166 A7 ho (by rw [po']; exact (own_hit (by simpa using pj))) (by simpa using po) gt nft) hZ (hw _ (List.mem_of_getElem? (i := 45) rfl)) (hw _ (List.mem_of_getElem? (i := 6) rfl)) (by decide) (by decide)) q177a q177c (g := (mkF m 157 #[.val (.int p0), .val (.int p1), .val (.int p2), .val (.int p3), .val (.int p4), .val (.int p5), .val (.int z), .val (.int j), .val (.int o), .val (.ref wg), .val (.ref f), .val (.int (1 : Int32))] [(.int p5), (.int o), (.ref f)])) rfl (by rw [hml]; rfl) (Steps.refl _) (argsL := [(.int o), (.int p5)]) (rest := []) (lenOf pd_3 rfl) rfl (by show 2 * 0 + _ ≤ _; exact Nat.le_of_eq rfl) (hb hby at_157) (fun _ _ => ⟨rfl, eh173, (by decide : 6 + 0 ≤ _), (by decide : 25 + 0 ≤ _)⟩)
      dsimp only [Pt.U, Pt.locs, Pt.cells, Pt.slots] at X177 l177 y177 z177 st177 hQ177
      subst l177 y177 z177
      obtain ⟨rfl, Nq177, Kq177, A8⟩ := hQ177
      have N178 := Fr.app N174 Nq177
      have pre177 : Rch p.tables e below (s₁.setTop (entryFrame m #[(.int p0), (.int p1), (.int p2), (.int p3), (.int p4), (.int p5)] maxLocals)) (T177.setTop (mkF m 160 #[.val (.int p0), .val (.int p1), .val (.int p2), .val (.int p3), .val (.int p4), .val (.int p5), .val (.int z), .val (.int j), .val (.int o), .val (.ref wg), .val (.ref f), .val (.int (1 : Int32))] [])) := fun tgt ktg => pre176 tgt (st177.trans ktg)
      have f179 : Exa Z T177.heap wg "com/example/prudent_spot/prudentspot/capacity/Direction" := f163.keep Kq177
      have f180 : Exa Z T177.heap f "com/example/prudent_spot/prudentspot/placement/Fleet" := f164.keep Kq177
      have f181 : Fld Z T177.heap f "com/example/prudent_spot/prudentspot/placement/Fleet" "cores" "[I" (.ref c1) := f165.keep Kq177 (ninS nft nin0)
      have f182 : Fld Z T177.heap f "com/example/prudent_spot/prudentspot/placement/Fleet" "taken" "[I" (.ref t1) := f166.keep Kq177 (ninS nft nin0)
      have f183 : Fld Z T177.heap f "com/example/prudent_spot/prudentspot/placement/Fleet" "lastEvent" "[Ljava/time/Instant;" (.ref le) := f167.keep Kq177 (ninS nft nin0)
      have f184 : Fld Z T177.heap f "com/example/prudent_spot/prudentspot/placement/Fleet" "lastDirection" "[Lcom/example/prudent_spot/prudentspot/capacity/Direction;" (.ref ld) := f168.keep Kq177 (ninS nft nin0)
      have f185 : Arv Z T177.heap c1 kc .int z (([(.int (0 : Int32)), (.int (0 : Int32)), (.int (0 : Int32)), (.int (0 : Int32))] : List Value).set j.toNatClampNeg (.int p2)) (.int (0 : Int32)) := f169.keep Kq177 (ninS nct nin0)
      have z186 : n0 ≤ T177.heap.size := Nat.le_trans z170 Kq177.1
      have K187 : Keep h0 T177.heap [] := K171.trans Kq177 (allS (P := fun x => x ∈ ([] : List Addr) ∨ h0.size ≤ x) (Or.inr (Nat.le_trans K115.1 st_)) (all0 (P := fun x => x ∈ ([] : List Addr) ∨ h0.size ≤ x)))
      have pre188 : Rch p.tables e below (s₁.setTop (entryFrame m #[(.int p0), (.int p1), (.int p2), (.int p3), (.int p4), (.int p5)] maxLocals)) (T177.setTop (mkF m 204 #[.val (.int p0), .val (.int p1), .val (.int p2), .val (.int p3), .val (.int p4), .val (.int p5), .val (.int z), .val (.int j), .val (.int o), .val (.ref wg), .val (.ref f), .val (.int (1 : Int32))] [(.int j), (.ref f)])) := fun tgt ktg => pre177 tgt (by
        show Steps p.tables e below (T177.setTop (mkF m 160 #[.val (.int p0), .val (.int p1), .val (.int p2), .val (.int p3), .val (.int p4), .val (.int p5), .val (.int z), .val (.int j), .val (.int o), .val (.ref wg), .val (.ref f), .val (.int (1 : Int32))] [])) _
        refine XS.iload X177.here hx rfl (hb hby at_160) rfl ?_
        show Steps p.tables e below (T177.setTop (mkF m 162 #[.val (.int p0), .val (.int p1), .val (.int p2), .val (.int p3), .val (.int p4), .val (.int p5), .val (.int z), .val (.int j), .val (.int o), .val (.ref wg), .val (.ref f), .val (.int (1 : Int32))] [(.int o)])) _
        refine XS.iload X177.here hx rfl (hb hby at_162) rfl ?_
        show Steps p.tables e below (T177.setTop (mkF m 164 #[.val (.int p0), .val (.int p1), .val (.int p2), .val (.int p3), .val (.int p4), .val (.int p5), .val (.int z), .val (.int j), .val (.int o), .val (.ref wg), .val (.ref f), .val (.int (1 : Int32))] [(.int j), (.int o)])) _
        refine XS.icmpYes X177.here hx rfl (pc0 := 164) (pc' := 195) rfl (hb hby at_164) rfl (teq coj).1 (by decide) (by decide) ?_
        show Steps p.tables e below (T177.setTop (mkF m 195 #[.val (.int p0), .val (.int p1), .val (.int p2), .val (.int p3), .val (.int p4), .val (.int p5), .val (.int z), .val (.int j), .val (.int o), .val (.ref wg), .val (.ref f), .val (.int (1 : Int32))] [])) _
        refine XS.iload X177.here hx rfl (hb hby at_195) rfl ?_
        show Steps p.tables e below (T177.setTop (mkF m 197 #[.val (.int p0), .val (.int p1), .val (.int p2), .val (.int p3), .val (.int p4), .val (.int p5), .val (.int z), .val (.int j), .val (.int o), .val (.ref wg), .val (.ref f), .val (.int (1 : Int32))] [(.int (1 : Int32))])) _
        refine XS.ifNo X177.here hx rfl (hb hby at_197) rfl ((if0 _ _).trans (feq (by decide : ¬ ((1 : Int32) = (0 : Int32)))).1) ?_
        show Steps p.tables e below (T177.setTop (mkF m 200 #[.val (.int p0), .val (.int p1), .val (.int p2), .val (.int p3), .val (.int p4), .val (.int p5), .val (.int z), .val (.int j), .val (.int o), .val (.ref wg), .val (.ref f), .val (.int (1 : Int32))] [])) _
        refine XS.aload X177.here hx rfl (hb hby at_200) rfl rfl ?_
        show Steps p.tables e below (T177.setTop (mkF m 202 #[.val (.int p0), .val (.int p1), .val (.int p2), .val (.int p3), .val (.int p4), .val (.int p5), .val (.int z), .val (.int j), .val (.int o), .val (.ref wg), .val (.ref f), .val (.int (1 : Int32))] [(.ref f)])) _
        refine XS.iload X177.here hx rfl (hb hby at_202) rfl ?_
        exact ktg)
      obtain ⟨cq189, kq189, q189a, q189b, q189c⟩ := isOf hZ rfl f180
      obtain ⟨_, _, ⟨T189, L189, k189, n189⟩, -, X189, ⟨Lc189, hQ189, l189, y189, z189⟩, st189⟩ := X177.virtualBack hx (y := (⟨"com/example/prudent_spot/prudentspot/placement/Fleet", "freeCores", "(I)I"⟩ : MethodName)) (z := (⟨"com/example/prudent_spot/prudentspot/placement/Fleet", "freeCores", "(I)I"⟩ : MethodName)) hown (mvT hZ (hw _ (List.mem_of_getElem? (i := 30) rfl))) (mvT hZ (hw _ (List.mem_of_getElem? (i := 31) rfl))) (notFace_of_selects (args := #[]) (mvT hZ (hw _ (List.mem_of_getElem? (i := 33) rfl)))) (mvT hZ (hw _ (List.mem_of_getElem? (i := 33) rfl))) (mvT hZ (hw _ (List.mem_of_getElem? (i := 32) rfl))) (by decide) (backOf (W := 0) (rm3 l Z a0 hw [] f j c1 t1 kc kt z p2 (((0 + p3) - p4) + p5) (([(.int (0 : Int32)), (.int (0 : Int32)), (.int (0 : Int32)), (.int (0 : Int32))] : List Value).set j.toNatClampNeg (.int p2)) (((([(.int (0 : Int32)), (.int (0 : Int32)), (.int (0 : Int32)), (.int (0 : Int32))] : List Value).set j.toNatClampNeg (.int (0 + p3))).set j.toNatClampNeg (.int ((0 + p3) - p4))).set o.toNatClampNeg (.int (((0 + p3) - p4) + p5))) T177.heap n0 z186 f181 f182 f185 A8 hj (own_hit pj) (by rw [po']; exact own_hit (by simpa using pj))) hZ (hw _ (List.mem_of_getElem? (i := 34) rfl)) (hw _ (List.mem_of_getElem? (i := 6) rfl)) (by decide) (by decide)) q189a q189c (g := (mkF m 204 #[.val (.int p0), .val (.int p1), .val (.int p2), .val (.int p3), .val (.int p4), .val (.int p5), .val (.int z), .val (.int j), .val (.int o), .val (.ref wg), .val (.ref f), .val (.int (1 : Int32))] [(.int j), (.ref f)])) rfl (by rw [hml]; rfl) (Steps.refl _) (argsL := [(.int j)]) (rest := []) (lenOf pd_1 rfl) rfl (by show 2 * 0 + _ ≤ _; exact Nat.le_of_eq rfl) (hb hby at_204) (fun _ _ => ⟨rfl, rfl, (by decide : 6 + 0 ≤ _), (by decide : 25 + 0 ≤ _)⟩)
      dsimp only [Pt.U, Pt.locs, Pt.cells, Pt.slots] at X189 l189 y189 z189 st189 hQ189
      subst l189 y189 z189
      obtain ⟨rfl, Nq189, eh189⟩ := hQ189
      have N190 := Fr.app N178 Nq189
      have pre189 : Rch p.tables e below (s₁.setTop (entryFrame m #[(.int p0), (.int p1), (.int p2), (.int p3), (.int p4), (.int p5)] maxLocals)) (T189.setTop (mkF m 207 #[.val (.int p0), .val (.int p1), .val (.int p2), .val (.int p3), .val (.int p4), .val (.int p5), .val (.int z), .val (.int j), .val (.int o), .val (.ref wg), .val (.ref f), .val (.int (1 : Int32))] [(.int (p2 - (((0 + p3) - p4) + p5)))])) := fun tgt ktg => pre188 tgt (st189.trans ktg)
      have pre191 : Rch p.tables e below (s₁.setTop (entryFrame m #[(.int p0), (.int p1), (.int p2), (.int p3), (.int p4), (.int p5)] maxLocals)) (T189.setTop (mkF m 216 #[.val (.int p0), .val (.int p1), .val (.int p2), .val (.int p3), .val (.int p4), .val (.int p5), .val (.int z), .val (.int j), .val (.int o), .val (.ref wg), .val (.ref f), .val (.int (1 : Int32))] [(.int (((p2 - p3) + p4) - p5)), (.int (p2 - (((0 + p3) - p4) + p5)))])) := fun tgt ktg => pre189 tgt (by
        show Steps p.tables e below (T189.setTop (mkF m 207 #[.val (.int p0), .val (.int p1), .val (.int p2), .val (.int p3), .val (.int p4), .val (.int p5), .val (.int z), .val (.int j), .val (.int o), .val (.ref wg), .val (.ref f), .val (.int (1 : Int32))] [(.int (p2 - (((0 + p3) - p4) + p5)))])) _
        refine XS.iloadN X189.here hx rfl (hb hby at_207) rfl ?_
        show Steps p.tables e below (T189.setTop (mkF m 208 #[.val (.int p0), .val (.int p1), .val (.int p2), .val (.int p3), .val (.int p4), .val (.int p5), .val (.int z), .val (.int j), .val (.int o), .val (.ref wg), .val (.ref f), .val (.int (1 : Int32))] [(.int p2), (.int (p2 - (((0 + p3) - p4) + p5)))])) _
        refine XS.iloadN X189.here hx rfl (hb hby at_208) rfl ?_
        show Steps p.tables e below (T189.setTop (mkF m 209 #[.val (.int p0), .val (.int p1), .val (.int p2), .val (.int p3), .val (.int p4), .val (.int p5), .val (.int z), .val (.int j), .val (.int o), .val (.ref wg), .val (.ref f), .val (.int (1 : Int32))] [(.int p3), (.int p2), (.int (p2 - (((0 + p3) - p4) + p5)))])) _
        refine XS.isub X189.here hx rfl (hb hby at_209) rfl ?_
        show Steps p.tables e below (T189.setTop (mkF m 210 #[.val (.int p0), .val (.int p1), .val (.int p2), .val (.int p3), .val (.int p4), .val (.int p5), .val (.int z), .val (.int j), .val (.int o), .val (.ref wg), .val (.ref f), .val (.int (1 : Int32))] [(.int (p2 - p3)), (.int (p2 - (((0 + p3) - p4) + p5)))])) _
        refine XS.iload X189.here hx rfl (hb hby at_210) rfl ?_
        show Steps p.tables e below (T189.setTop (mkF m 212 #[.val (.int p0), .val (.int p1), .val (.int p2), .val (.int p3), .val (.int p4), .val (.int p5), .val (.int z), .val (.int j), .val (.int o), .val (.ref wg), .val (.ref f), .val (.int (1 : Int32))] [(.int p4), (.int (p2 - p3)), (.int (p2 - (((0 + p3) - p4) + p5)))])) _
        refine XS.iadd X189.here hx rfl (hb hby at_212) rfl ?_
        show Steps p.tables e below (T189.setTop (mkF m 213 #[.val (.int p0), .val (.int p1), .val (.int p2), .val (.int p3), .val (.int p4), .val (.int p5), .val (.int z), .val (.int j), .val (.int o), .val (.ref wg), .val (.ref f), .val (.int (1 : Int32))] [(.int ((p2 - p3) + p4)), (.int (p2 - (((0 + p3) - p4) + p5)))])) _
        refine XS.iload X189.here hx rfl (hb hby at_213) rfl ?_
        show Steps p.tables e below (T189.setTop (mkF m 215 #[.val (.int p0), .val (.int p1), .val (.int p2), .val (.int p3), .val (.int p4), .val (.int p5), .val (.int z), .val (.int j), .val (.int o), .val (.ref wg), .val (.ref f), .val (.int (1 : Int32))] [(.int p5), (.int ((p2 - p3) + p4)), (.int (p2 - (((0 + p3) - p4) + p5)))])) _
        refine XS.isub X189.here hx rfl (hb hby at_215) rfl ?_
        exact ktg)
      have pre192 : Rch p.tables e below (s₁.setTop (entryFrame m #[(.int p0), (.int p1), (.int p2), (.int p3), (.int p4), (.int p5)] maxLocals)) (T189.setTop (mkF m 228 #[.val (.int p0), .val (.int p1), .val (.int p2), .val (.int p3), .val (.int p4), .val (.int p5), .val (.int z), .val (.int j), .val (.int o), .val (.ref wg), .val (.ref f), .val (.int (1 : Int32))] [(.int (1 : Int32))])) := fun tgt ktg => pre191 tgt (by
        show Steps p.tables e below (T189.setTop (mkF m 216 #[.val (.int p0), .val (.int p1), .val (.int p2), .val (.int p3), .val (.int p4), .val (.int p5), .val (.int z), .val (.int j), .val (.int o), .val (.ref wg), .val (.ref f), .val (.int (1 : Int32))] [(.int (((p2 - p3) + p4) - p5)), (.int (p2 - (((0 + p3) - p4) + p5)))])) _
        refine XS.icmpNo X189.here hx rfl (hb hby at_216) rfl (teq (own_ar2 p2 p3 p4 p5)).2 ?_
        show Steps p.tables e below (T189.setTop (mkF m 219 #[.val (.int p0), .val (.int p1), .val (.int p2), .val (.int p3), .val (.int p4), .val (.int p5), .val (.int z), .val (.int j), .val (.int o), .val (.ref wg), .val (.ref f), .val (.int (1 : Int32))] [])) _
        refine XS.iconst X189.here hx rfl (hb hby at_219) ?_
        show Steps p.tables e below (T189.setTop (mkF m 220 #[.val (.int p0), .val (.int p1), .val (.int p2), .val (.int p3), .val (.int p4), .val (.int p5), .val (.int z), .val (.int j), .val (.int o), .val (.ref wg), .val (.ref f), .val (.int (1 : Int32))] [(.int (1 : Int32))])) _
        refine XS.goto X189.here hx rfl (pc0 := 220) (pc' := 224) rfl (hb hby at_220) (by decide) (by decide) ?_
        show Steps p.tables e below (T189.setTop (mkF m 224 #[.val (.int p0), .val (.int p1), .val (.int p2), .val (.int p3), .val (.int p4), .val (.int p5), .val (.int z), .val (.int j), .val (.int o), .val (.ref wg), .val (.ref f), .val (.int (1 : Int32))] [(.int (1 : Int32))])) _
        refine XS.istore X189.here hx rfl (hb hby at_224) rfl (l' := #[.val (.int p0), .val (.int p1), .val (.int p2), .val (.int p3), .val (.int p4), .val (.int p5), .val (.int z), .val (.int j), .val (.int o), .val (.ref wg), .val (.ref f), .val (.int (1 : Int32))]) rfl ?_
        show Steps p.tables e below (T189.setTop (mkF m 226 #[.val (.int p0), .val (.int p1), .val (.int p2), .val (.int p3), .val (.int p4), .val (.int p5), .val (.int z), .val (.int j), .val (.int o), .val (.ref wg), .val (.ref f), .val (.int (1 : Int32))] [])) _
        refine XS.iload X189.here hx rfl (hb hby at_226) rfl ?_
        exact ktg)
      obtain ⟨fs, hr, hrun, hended, hW, hsame⟩ := X189.leave (v := some (.int (1 : Int32))) (fun h => by rw [Bd.returns] at h; cases h)
      refine ⟨_, _, pre192 _ ?_, hrun, hended, _, _, rfl, ?_, ⟨_, rfl⟩, hW, hsame.mono (by decide) (by decide)⟩
      · show Steps p.tables e below (T189.setTop (mkF m 228 #[.val (.int p0), .val (.int p1), .val (.int p2), .val (.int p3), .val (.int p4), .val (.int p5), .val (.int z), .val (.int j), .val (.int o), .val (.ref wg), .val (.ref f), .val (.int (1 : Int32))] [(.int (1 : Int32))])) _
        exact retN X189 hx (t := .boolean) Bd.returns (by simp) (hb hby at_228) hr
      · show Q0 Z p0 p1 p2 p3 p4 p5 h0 n0 _ T189.heap _
        rw [eh189]
        exact ⟨rfl, N190⟩
    · skip
      have po' : j.toNatClampNeg ≠ o.toNatClampNeg := own_clamp hj.1 ho.1 (fun q => coj q.symm)
      obtain ⟨cq193, kq193, q193a, q193b, q193c⟩ := isOf hZ eh173 f164
      obtain ⟨_, _, ⟨T193, L193, k193, n193⟩, -, X193, ⟨Lc193, hQ193, l193, y193, z193⟩, st193⟩ := X173.virtualBack hx (y := (⟨"com/example/prudent_spot/prudentspot/placement/Fleet", "take", "(II)V"⟩ : MethodName)) (z := (⟨"com/example/prudent_spot/prudentspot/placement/Fleet", "take", "(II)V"⟩ : MethodName)) hown (mvT hZ (hw _ (List.mem_of_getElem? (i := 41) rfl))) (mvT hZ (hw _ (List.mem_of_getElem? (i := 42) rfl))) (notFace_of_selects (args := #[]) (mvT hZ (hw _ (List.mem_of_getElem? (i := 44) rfl)))) (mvT hZ (hw _ (List.mem_of_getElem? (i := 44) rfl))) (mvT hZ (hw _ (List.mem_of_getElem? (i := 43) rfl))) (by decide) (backOf (W := 0) (rm5 l Z a0 hw [] f o p5 t1 kt z 0 ((([(.int (0 : Int32)), (.int (0 : Int32)), (.int (0 : Int32)), (.int (0 : Int32))] : List Value).set j.toNatClampNeg (.int (0 + p3))).set j.toNatClampNeg (.int ((0 + p3) - p4))) T161.heap n0 z170 f166 A7 ho ((own_miss po').trans ((own_miss po').trans (own_z4 _))) (by simpa using po) gt nft) hZ (hw _ (List.mem_of_getElem? (i := 45) rfl)) (hw _ (List.mem_of_getElem? (i := 6) rfl)) (by decide) (by decide)) q193a q193c (g := (mkF m 157 #[.val (.int p0), .val (.int p1), .val (.int p2), .val (.int p3), .val (.int p4), .val (.int p5), .val (.int z), .val (.int j), .val (.int o), .val (.ref wg), .val (.ref f), .val (.int (1 : Int32))] [(.int p5), (.int o), (.ref f)])) rfl (by rw [hml]; rfl) (Steps.refl _) (argsL := [(.int o), (.int p5)]) (rest := []) (lenOf pd_3 rfl) rfl (by show 2 * 0 + _ ≤ _; exact Nat.le_of_eq rfl) (hb hby at_157) (fun _ _ => ⟨rfl, eh173, (by decide : 6 + 0 ≤ _), (by decide : 25 + 0 ≤ _)⟩)
      dsimp only [Pt.U, Pt.locs, Pt.cells, Pt.slots] at X193 l193 y193 z193 st193 hQ193
      subst l193 y193 z193
      obtain ⟨rfl, Nq193, Kq193, A8⟩ := hQ193
      have N194 := Fr.app N174 Nq193
      have pre193 : Rch p.tables e below (s₁.setTop (entryFrame m #[(.int p0), (.int p1), (.int p2), (.int p3), (.int p4), (.int p5)] maxLocals)) (T193.setTop (mkF m 160 #[.val (.int p0), .val (.int p1), .val (.int p2), .val (.int p3), .val (.int p4), .val (.int p5), .val (.int z), .val (.int j), .val (.int o), .val (.ref wg), .val (.ref f), .val (.int (1 : Int32))] [])) := fun tgt ktg => pre176 tgt (st193.trans ktg)
      have f195 : Exa Z T193.heap wg "com/example/prudent_spot/prudentspot/capacity/Direction" := f163.keep Kq193
      have f196 : Exa Z T193.heap f "com/example/prudent_spot/prudentspot/placement/Fleet" := f164.keep Kq193
      have f197 : Fld Z T193.heap f "com/example/prudent_spot/prudentspot/placement/Fleet" "cores" "[I" (.ref c1) := f165.keep Kq193 (ninS nft nin0)
      have f198 : Fld Z T193.heap f "com/example/prudent_spot/prudentspot/placement/Fleet" "taken" "[I" (.ref t1) := f166.keep Kq193 (ninS nft nin0)
      have f199 : Fld Z T193.heap f "com/example/prudent_spot/prudentspot/placement/Fleet" "lastEvent" "[Ljava/time/Instant;" (.ref le) := f167.keep Kq193 (ninS nft nin0)
      have f200 : Fld Z T193.heap f "com/example/prudent_spot/prudentspot/placement/Fleet" "lastDirection" "[Lcom/example/prudent_spot/prudentspot/capacity/Direction;" (.ref ld) := f168.keep Kq193 (ninS nft nin0)
      have f201 : Arv Z T193.heap c1 kc .int z (([(.int (0 : Int32)), (.int (0 : Int32)), (.int (0 : Int32)), (.int (0 : Int32))] : List Value).set j.toNatClampNeg (.int p2)) (.int (0 : Int32)) := f169.keep Kq193 (ninS nct nin0)
      have z202 : n0 ≤ T193.heap.size := Nat.le_trans z170 Kq193.1
      have K203 : Keep h0 T193.heap [] := K171.trans Kq193 (allS (P := fun x => x ∈ ([] : List Addr) ∨ h0.size ≤ x) (Or.inr (Nat.le_trans K115.1 st_)) (all0 (P := fun x => x ∈ ([] : List Addr) ∨ h0.size ≤ x)))
      have pre204 : Rch p.tables e below (s₁.setTop (entryFrame m #[(.int p0), (.int p1), (.int p2), (.int p3), (.int p4), (.int p5)] maxLocals)) (T193.setTop (mkF m 176 #[.val (.int p0), .val (.int p1), .val (.int p2), .val (.int p3), .val (.int p4), .val (.int p5), .val (.int z), .val (.int j), .val (.int o), .val (.ref wg), .val (.ref f), .val (.int (1 : Int32))] [(.int o), (.ref f)])) := fun tgt ktg => pre193 tgt (by
        show Steps p.tables e below (T193.setTop (mkF m 160 #[.val (.int p0), .val (.int p1), .val (.int p2), .val (.int p3), .val (.int p4), .val (.int p5), .val (.int z), .val (.int j), .val (.int o), .val (.ref wg), .val (.ref f), .val (.int (1 : Int32))] [])) _
        refine XS.iload X193.here hx rfl (hb hby at_160) rfl ?_
        show Steps p.tables e below (T193.setTop (mkF m 162 #[.val (.int p0), .val (.int p1), .val (.int p2), .val (.int p3), .val (.int p4), .val (.int p5), .val (.int z), .val (.int j), .val (.int o), .val (.ref wg), .val (.ref f), .val (.int (1 : Int32))] [(.int o)])) _
        refine XS.iload X193.here hx rfl (hb hby at_162) rfl ?_
        show Steps p.tables e below (T193.setTop (mkF m 164 #[.val (.int p0), .val (.int p1), .val (.int p2), .val (.int p3), .val (.int p4), .val (.int p5), .val (.int z), .val (.int j), .val (.int o), .val (.ref wg), .val (.ref f), .val (.int (1 : Int32))] [(.int j), (.int o)])) _
        refine XS.icmpNo X193.here hx rfl (hb hby at_164) rfl (feq coj).1 ?_
        show Steps p.tables e below (T193.setTop (mkF m 167 #[.val (.int p0), .val (.int p1), .val (.int p2), .val (.int p3), .val (.int p4), .val (.int p5), .val (.int z), .val (.int j), .val (.int o), .val (.ref wg), .val (.ref f), .val (.int (1 : Int32))] [])) _
        refine XS.iload X193.here hx rfl (hb hby at_167) rfl ?_
        show Steps p.tables e below (T193.setTop (mkF m 169 #[.val (.int p0), .val (.int p1), .val (.int p2), .val (.int p3), .val (.int p4), .val (.int p5), .val (.int z), .val (.int j), .val (.int o), .val (.ref wg), .val (.ref f), .val (.int (1 : Int32))] [(.int (1 : Int32))])) _
        refine XS.ifNo X193.here hx rfl (hb hby at_169) rfl ((if0 _ _).trans (feq (by decide : ¬ ((1 : Int32) = (0 : Int32)))).1) ?_
        show Steps p.tables e below (T193.setTop (mkF m 172 #[.val (.int p0), .val (.int p1), .val (.int p2), .val (.int p3), .val (.int p4), .val (.int p5), .val (.int z), .val (.int j), .val (.int o), .val (.ref wg), .val (.ref f), .val (.int (1 : Int32))] [])) _
        refine XS.aload X193.here hx rfl (hb hby at_172) rfl rfl ?_
        show Steps p.tables e below (T193.setTop (mkF m 174 #[.val (.int p0), .val (.int p1), .val (.int p2), .val (.int p3), .val (.int p4), .val (.int p5), .val (.int z), .val (.int j), .val (.int o), .val (.ref wg), .val (.ref f), .val (.int (1 : Int32))] [(.ref f)])) _
        refine XS.iload X193.here hx rfl (hb hby at_174) rfl ?_
        exact ktg)
      obtain ⟨cq205, kq205, q205a, q205b, q205c⟩ := isOf hZ rfl f196
      obtain ⟨_, _, ⟨T205, L205, k205, n205⟩, -, X205, ⟨Lc205, hQ205, l205, y205, z205⟩, st205⟩ := X193.virtualBack hx (y := (⟨"com/example/prudent_spot/prudentspot/placement/Fleet", "freeCores", "(I)I"⟩ : MethodName)) (z := (⟨"com/example/prudent_spot/prudentspot/placement/Fleet", "freeCores", "(I)I"⟩ : MethodName)) hown (mvT hZ (hw _ (List.mem_of_getElem? (i := 30) rfl))) (mvT hZ (hw _ (List.mem_of_getElem? (i := 31) rfl))) (notFace_of_selects (args := #[]) (mvT hZ (hw _ (List.mem_of_getElem? (i := 33) rfl)))) (mvT hZ (hw _ (List.mem_of_getElem? (i := 33) rfl))) (mvT hZ (hw _ (List.mem_of_getElem? (i := 32) rfl))) (by decide) (backOf (W := 0) (rm3 l Z a0 hw [] f o c1 t1 kc kt z 0 (0 + p5) (([(.int (0 : Int32)), (.int (0 : Int32)), (.int (0 : Int32)), (.int (0 : Int32))] : List Value).set j.toNatClampNeg (.int p2)) (((([(.int (0 : Int32)), (.int (0 : Int32)), (.int (0 : Int32)), (.int (0 : Int32))] : List Value).set j.toNatClampNeg (.int (0 + p3))).set j.toNatClampNeg (.int ((0 + p3) - p4))).set o.toNatClampNeg (.int (0 + p5))) T193.heap n0 z202 f197 f198 f201 A8 ho ((own_miss po').trans (own_z4 _)) (own_hit (by simpa using po))) hZ (hw _ (List.mem_of_getElem? (i := 34) rfl)) (hw _ (List.mem_of_getElem? (i := 6) rfl)) (by decide) (by decide)) q205a q205c (g := (mkF m 176 #[.val (.int p0), .val (.int p1), .val (.int p2), .val (.int p3), .val (.int p4), .val (.int p5), .val (.int z), .val (.int j), .val (.int o), .val (.ref wg), .val (.ref f), .val (.int (1 : Int32))] [(.int o), (.ref f)])) rfl (by rw [hml]; rfl) (Steps.refl _) (argsL := [(.int o)]) (rest := []) (lenOf pd_1 rfl) rfl (by show 2 * 0 + _ ≤ _; exact Nat.le_of_eq rfl) (hb hby at_176) (fun _ _ => ⟨rfl, rfl, (by decide : 6 + 0 ≤ _), (by decide : 25 + 0 ≤ _)⟩)
      dsimp only [Pt.U, Pt.locs, Pt.cells, Pt.slots] at X205 l205 y205 z205 st205 hQ205
      subst l205 y205 z205
      obtain ⟨rfl, Nq205, eh205⟩ := hQ205
      have N206 := Fr.app N194 Nq205
      have pre205 : Rch p.tables e below (s₁.setTop (entryFrame m #[(.int p0), (.int p1), (.int p2), (.int p3), (.int p4), (.int p5)] maxLocals)) (T205.setTop (mkF m 179 #[.val (.int p0), .val (.int p1), .val (.int p2), .val (.int p3), .val (.int p4), .val (.int p5), .val (.int z), .val (.int j), .val (.int o), .val (.ref wg), .val (.ref f), .val (.int (1 : Int32))] [(.int (0 - (0 + p5)))])) := fun tgt ktg => pre204 tgt (st205.trans ktg)
      have pre207 : Rch p.tables e below (s₁.setTop (entryFrame m #[(.int p0), (.int p1), (.int p2), (.int p3), (.int p4), (.int p5)] maxLocals)) (T205.setTop (mkF m 182 #[.val (.int p0), .val (.int p1), .val (.int p2), .val (.int p3), .val (.int p4), .val (.int p5), .val (.int z), .val (.int j), .val (.int o), .val (.ref wg), .val (.ref f), .val (.int (1 : Int32))] [(.int (-p5)), (.int (0 - (0 + p5)))])) := fun tgt ktg => pre205 tgt (by
        show Steps p.tables e below (T205.setTop (mkF m 179 #[.val (.int p0), .val (.int p1), .val (.int p2), .val (.int p3), .val (.int p4), .val (.int p5), .val (.int z), .val (.int j), .val (.int o), .val (.ref wg), .val (.ref f), .val (.int (1 : Int32))] [(.int (0 - (0 + p5)))])) _
        refine XS.iload X205.here hx rfl (hb hby at_179) rfl ?_
        show Steps p.tables e below (T205.setTop (mkF m 181 #[.val (.int p0), .val (.int p1), .val (.int p2), .val (.int p3), .val (.int p4), .val (.int p5), .val (.int z), .val (.int j), .val (.int o), .val (.ref wg), .val (.ref f), .val (.int (1 : Int32))] [(.int p5), (.int (0 - (0 + p5)))])) _
        refine XS.ineg X205.here hx rfl (hb hby at_181) rfl ?_
        exact ktg)
      have pre208 : Rch p.tables e below (s₁.setTop (entryFrame m #[(.int p0), (.int p1), (.int p2), (.int p3), (.int p4), (.int p5)] maxLocals)) (T205.setTop (mkF m 228 #[.val (.int p0), .val (.int p1), .val (.int p2), .val (.int p3), .val (.int p4), .val (.int p5), .val (.int z), .val (.int j), .val (.int o), .val (.ref wg), .val (.ref f), .val (.int (1 : Int32))] [(.int (1 : Int32))])) := fun tgt ktg => pre207 tgt (by
        show Steps p.tables e below (T205.setTop (mkF m 182 #[.val (.int p0), .val (.int p1), .val (.int p2), .val (.int p3), .val (.int p4), .val (.int p5), .val (.int z), .val (.int j), .val (.int o), .val (.ref wg), .val (.ref f), .val (.int (1 : Int32))] [(.int (-p5)), (.int (0 - (0 + p5)))])) _
        refine XS.icmpNo X205.here hx rfl (hb hby at_182) rfl (teq (own_ar3 p5)).2 ?_
        show Steps p.tables e below (T205.setTop (mkF m 185 #[.val (.int p0), .val (.int p1), .val (.int p2), .val (.int p3), .val (.int p4), .val (.int p5), .val (.int z), .val (.int j), .val (.int o), .val (.ref wg), .val (.ref f), .val (.int (1 : Int32))] [])) _
        refine XS.iconst X205.here hx rfl (hb hby at_185) ?_
        show Steps p.tables e below (T205.setTop (mkF m 186 #[.val (.int p0), .val (.int p1), .val (.int p2), .val (.int p3), .val (.int p4), .val (.int p5), .val (.int z), .val (.int j), .val (.int o), .val (.ref wg), .val (.ref f), .val (.int (1 : Int32))] [(.int (1 : Int32))])) _
        refine XS.goto X205.here hx rfl (pc0 := 186) (pc' := 190) rfl (hb hby at_186) (by decide) (by decide) ?_
        show Steps p.tables e below (T205.setTop (mkF m 190 #[.val (.int p0), .val (.int p1), .val (.int p2), .val (.int p3), .val (.int p4), .val (.int p5), .val (.int z), .val (.int j), .val (.int o), .val (.ref wg), .val (.ref f), .val (.int (1 : Int32))] [(.int (1 : Int32))])) _
        refine XS.istore X205.here hx rfl (hb hby at_190) rfl (l' := #[.val (.int p0), .val (.int p1), .val (.int p2), .val (.int p3), .val (.int p4), .val (.int p5), .val (.int z), .val (.int j), .val (.int o), .val (.ref wg), .val (.ref f), .val (.int (1 : Int32))]) rfl ?_
        show Steps p.tables e below (T205.setTop (mkF m 192 #[.val (.int p0), .val (.int p1), .val (.int p2), .val (.int p3), .val (.int p4), .val (.int p5), .val (.int z), .val (.int j), .val (.int o), .val (.ref wg), .val (.ref f), .val (.int (1 : Int32))] [])) _
        refine XS.goto X205.here hx rfl (pc0 := 192) (pc' := 226) rfl (hb hby at_192) (by decide) (by decide) ?_
        show Steps p.tables e below (T205.setTop (mkF m 226 #[.val (.int p0), .val (.int p1), .val (.int p2), .val (.int p3), .val (.int p4), .val (.int p5), .val (.int z), .val (.int j), .val (.int o), .val (.ref wg), .val (.ref f), .val (.int (1 : Int32))] [])) _
        refine XS.iload X205.here hx rfl (hb hby at_226) rfl ?_
        exact ktg)
      obtain ⟨fs, hr, hrun, hended, hW, hsame⟩ := X205.leave (v := some (.int (1 : Int32))) (fun h => by rw [Bd.returns] at h; cases h)
      refine ⟨_, _, pre208 _ ?_, hrun, hended, _, _, rfl, ?_, ⟨_, rfl⟩, hW, hsame.mono (by decide) (by decide)⟩
      · show Steps p.tables e below (T205.setTop (mkF m 228 #[.val (.int p0), .val (.int p1), .val (.int p2), .val (.int p3), .val (.int p4), .val (.int p5), .val (.int z), .val (.int j), .val (.int o), .val (.ref wg), .val (.ref f), .val (.int (1 : Int32))] [(.int (1 : Int32))])) _
        exact retN X205 hx (t := .boolean) Bd.returns (by simp) (hb hby at_228) hr
      · show Q0 Z p0 p1 p2 p3 p4 p5 h0 n0 _ T205.heap _
        rw [eh205]
        exact ⟨rfl, N206⟩
set_option maxRecDepth 65536 in
set_option maxHeartbeats 40000000 in
theorem comes_1 {Post : Tables → Env → Array Value → State → Outcome → State → Prop} (hpost : ∀ tb e args s v u, (limb_1_1.after args s (.returned v) u = true ∧ limb_1_2.after args s (.returned v) u = true ∧ True) → FrameEnd s (.returned v) u (Jvm.fieldLocs frame_1_writes args s ++ Jvm.arrayLocs frame_1_arrays args s ++ Jvm.staticLocs frame_1_statics s) 24 128 → Post tb e args s (.returned v) u) :
    ArmFor flags0 classFile x code maxLocals ret World_1 tables_1 room_1 Calls_1 rest_1 Pre_1 Post := by
  intro l hfl _ _ p e ha hc hk s m args below hf hA hF happ hP
  obtain ⟨hcalls, hrest, hpre⟩ := hP
  obtain ⟨-, -, -, hnamed, -, -, -, hat⟩ := (Spec.applies_iff hf).mp happ
  obtain ⟨hg, hn⟩ := and_e (Cond.before_iff.mp (show (Jvm.Cond.and given_1 narrow_1).before args s = true from hpre))
  obtain ⟨gc, g0⟩ := and_e hg
  obtain ⟨ga0, g1⟩ := and_e g0
  obtain ⟨ga1, g2⟩ := and_e g1
  obtain ⟨ga2, g3⟩ := and_e g2
  obtain ⟨ga3, g4⟩ := and_e g3
  obtain ⟨ga4, g5⟩ := and_e g4
  obtain ⟨w0, w1, w2, w3, w4, w5, rfl⟩ : ∃ w0 w1 w2 w3 w4 w5 : Value, args = #[w0, w1, w2, w3, w4, w5] := by
    have hs : args.size = 6 := by simpa [Cond.value, given_1] using gc
    obtain ⟨L⟩ := args
    match L, hs with
    | [w0, w1, w2, w3, w4, w5], _ => exact ⟨w0, w1, w2, w3, w4, w5, rfl⟩
  have hw := fun d (hd : d ∈ tables_1) => atoms_spec (ws := Jvm.Cond.code x code maxLocals ret :: tables_1) hat d (List.mem_cons_of_mem _ hd)
  have hfit : Fit s := fun {y c} hc i hi => by
    obtain ⟨ha, rfl⟩ := Array.getElem?_eq_some_iff.mp hc
    have q := List.all_eq_true.mp ((Array.all_eq_true_iff_forall_mem.mp hF) _ (Array.getElem_mem ha)) i (List.mem_range.mpr hi)
    simpa [Array.getElem?_eq_getElem hi] using q
  obtain ⟨i0, ei0⟩ := is_v ga0
  obtain rfl : w0 = (.int i0) := Option.some.inj ei0
  obtain ⟨i1, ei1⟩ := is_v ga1
  obtain rfl : w1 = (.int i1) := Option.some.inj ei1
  obtain ⟨i2, ei2⟩ := is_v ga2
  obtain rfl : w2 = (.int i2) := Option.some.inj ei2
  obtain ⟨i3, ei3⟩ := is_v ga3
  obtain rfl : w3 = (.int i3) := Option.some.inj ei3
  obtain ⟨i4, ei4⟩ := is_v ga4
  obtain rfl : w4 = (.int i4) := Option.some.inj ei4
  obtain ⟨i5, ei5⟩ := is_v g5
  obtain rfl : w5 = (.int i5) := Option.some.inj ei5
  obtain ⟨n1, n2⟩ := and_e hn
  obtain ⟨v0, ev0⟩ := exa_v n1
  have S0 : Sta s s.heap "com/example/prudent_spot/prudentspot/capacity/Direction" "SHRINK" "Lcom/example/prudent_spot/prudentspot/capacity/Direction;" (.ref v0) := Sta.start ev0 (Or.inr ⟨(hw _ (List.mem_of_getElem? (i := 2) rfl)), (hw _ (List.mem_of_getElem? (i := 3) rfl))⟩)
  have E0 := Exa.start ev0 n1
  obtain ⟨v1, ev1⟩ := exa_v n2
  have S1 : Sta s s.heap "com/example/prudent_spot/prudentspot/capacity/Direction" "GROW" "Lcom/example/prudent_spot/prudentspot/capacity/Direction;" (.ref v1) := Sta.start ev1 (Or.inr ⟨(hw _ (List.mem_of_getElem? (i := 2) rfl)), (hw _ (List.mem_of_getElem? (i := 52) rfl))⟩)
  have E1 := Exa.start ev1 n2
  obtain ⟨n, o, h1, h2, h3, _, L, rfl, ⟨rfl, N⟩, hq⟩ := rm0 l s _ hw tables_1 i0 i1 i2 i3 i4 i5 s.heap s.heap.size (Nat.le_refl _) v0 v1 S0 S1 E0 E1 p e ha hc hk s m _ below hf ((Spec.applies_iff_loose hf).mp happ).1 ⟨rfl, State.Warmed39.refl s, rfl⟩ trivial
  refine ⟨n, _, h1, h2, h3, hpost _ _ _ _ _ _ ⟨Cond.after_iff.mpr rfl, Cond.after_iff.mpr (eq_i res_at (Term.int_eval (1)) rfl), trivial⟩ ⟨hq.1, hq.2.1, (hq.2.2.sift fun y hy => Or.inr (N y hy)).mono (by decide) (by decide)⟩⟩
theorem main_1_1 : Claimed_1_1 := comes_1 fun _ _ _ _ _ _ h hF => ⟨h.1, hF⟩
theorem main_1_2 : Claimed_1_2 := comes_1 fun _ _ _ _ _ _ h hF => ⟨h.2.1, hF⟩
end Jvm.Pilot.@@N@@
namespace Jvm.Pilot.@@N@@
open Jvm Jvm.ClassFile Sem Op Lib Jvm.Free Jvm.Stand Jvm.Pilot.@@N@@.Jvm.D
/-! MADE BY PROGRAM (witnessworld.py) out of the Statement's table words and the real class files: 22 classes; the members and pool entries that the words name. The judged class is class 1, her method 1. -/
namespace start1
open Jvm.ClassFile
def u (s : String) : CpInfo := .utf8 (stringToUtf16 s)
/-- a pool by its gaps: so many unusable entries, then the entry; so many at the end -/
def gap : Nat → List CpInfo → List CpInfo
  | 0, r => r
  | n + 1, r => .unusable :: gap n r
def poolList (es : List (Nat × CpInfo)) (last : Nat) : List CpInfo := es.foldr (fun e r => gap e.1 (e.2 :: r)) (gap last [])
def pool (es : List (Nat × CpInfo)) (last : Nat) : Array CpInfo := ⟨poolList es last⟩
def fileOf (pool : Array CpInfo) (this : Nat) (attrs : Array Attribute := #[]) (ms : Array MethodInfo := #[]) (fl : Nat := 33) (sup : Nat := 0) (ifs : Array Nat := #[]) (fds : Array FieldInfo := #[]) : ClassFile where
  minorVersion := 0
  majorVersion := 65
  constantPool := pool
  accessFlags := fl
  thisClass := this
  superClass := sup
  interfaces := ifs
  fields := fds
  methods := ms
  attributes := attrs
def plain (name : String) (sup : Option ClassId) : Class where
  name := name
  kind := .ordinary
  loader := none
  accessFlags := 33
  super := sup
  interfaces := #[]
  cf := none
  fields := #[]
  methods := #[]
  instanceTypes := #[]
  staticTypes := #[]
  resolved := #[]
  callSites := []
  init := .initialized
  statics := none
  mirror := none

def pool0 : Array CpInfo := pool [(5, u "<init>"), (0, u "()V"), (1, .class_ 10), (1, u "java/lang/Object")] 113

def k0c0 : Code := { maxStack := 0, maxLocals := 1, code := object_method_1_code, exceptionTable := #[], attributes := #[] }
def k0m0 : Method := { name := "<init>", desc := "()V", sig := { parameters := [], returnType := none }, accessFlags := 1, code := some k0c0 }
/-- java/lang/Object -/
def k0 : Class := { plain "java/lang/Object" none with
  accessFlags := 33
  interfaces := #[]
  cf := some (fileOf pool0 8 #[] #[{ accessFlags := 1, nameIndex := 5, descriptorIndex := 6, attributes := #[] }] 33 0 #[] #[])
  fields := #[]
  methods := #[k0m0]
  instanceTypes := #[]
  staticTypes := #[]
  resolved := Array.replicate 124 none
  statics := none }

def pool1 : Array CpInfo := pool [(2, .class_ 4), (1, u "java/lang/Object"), (0, u "<init>"), (0, u "()V"), (0, .integer 2147483647), (0, .fieldref 9 10), (0, .class_ 11), (0, .nameAndType 12 13), (0, u "com/example/prudent_spot/prudentspot/capacity/Direction"), (0, u "GROW"), (0, u "Lcom/example/prudent_spot/prudentspot/capacity/Direction;"), (0, .fieldref 9 15), (0, .nameAndType 16 13), (0, u "SHRINK"), (0, .class_ 18), (0, u "com/example/prudent_spot/prudentspot/placement/Fleet"), (0, .methodref 17 20), (0, .nameAndType 5 21), (0, u "(I)V"), (0, .methodref 17 23), (0, .nameAndType 24 25), (0, u "freeCores"), (0, u "(I)I"), (0, .methodref 17 27), (0, .nameAndType 28 29), (0, u "change"), (0, u "(ILjava/time/Instant;ILcom/example/prudent_spot/prudentspot/capacity/Direction;)V"), (0, .methodref 17 31), (0, .nameAndType 32 33), (0, u "take"), (0, u "(II)V"), (0, .methodref 17 35), (0, .nameAndType 36 33), (0, u "release"), (0, .class_ 38), (0, u "com/example/prudent_spot/prudentspot/placement/FleetFreeCoresPinLaw"), (2, u "law"), (0, u "(IIIIII)Z")] 3

def k1m0 : Method := { name := "<init>", desc := "()V", sig := { parameters := [], returnType := none }, accessFlags := 1, code := none }
def k1c1 : Code := { maxStack := 5, maxLocals := 12, code := code, exceptionTable := #[], attributes := #[] }
def k1m1 : Method := { name := "law", desc := "(IIIIII)Z", sig := { parameters := [.int, .int, .int, .int, .int, .int], returnType := some .boolean }, accessFlags := 9, code := some k1c1 }
/-- com/example/prudent_spot/prudentspot/placement/FleetFreeCoresPinLaw -/
def k1 : Class := { plain "com/example/prudent_spot/prudentspot/placement/FleetFreeCoresPinLaw" (some 0) with
  accessFlags := 49
  interfaces := #[]
  cf := some (fileOf pool1 37 #[] #[{ accessFlags := 1, nameIndex := 5, descriptorIndex := 6, attributes := #[] }, { accessFlags := 9, nameIndex := 41, descriptorIndex := 42, attributes := #[] }] 49 2 #[] #[])
  fields := #[]
  methods := #[k1m0, k1m1]
  instanceTypes := #[]
  staticTypes := #[]
  resolved := Array.replicate 46 none
  statics := none }

def pool2 : Array CpInfo := pool [(1, .class_ 2), (0, u "java/lang/constant/Constable"), (0, .class_ 4), (0, u "java/lang/Object")] 6

/-- java/lang/constant/Constable -/
def k2 : Class := { plain "java/lang/constant/Constable" (some 0) with
  accessFlags := 1537
  interfaces := #[]
  cf := some (fileOf pool2 1 #[] #[] 1537 3 #[] #[])
  fields := #[]
  methods := #[]
  instanceTypes := #[]
  staticTypes := #[]
  resolved := Array.replicate 11 none
  statics := none }

def pool3 : Array CpInfo := pool [(1, .class_ 2), (0, u "java/lang/Comparable"), (0, .class_ 4), (0, u "java/lang/Object")] 7

/-- java/lang/Comparable -/
def k3 : Class := { plain "java/lang/Comparable" (some 0) with
  accessFlags := 1537
  interfaces := #[]
  cf := some (fileOf pool3 1 #[] #[] 1537 3 #[] #[])
  fields := #[]
  methods := #[]
  instanceTypes := #[]
  staticTypes := #[]
  resolved := Array.replicate 12 none
  statics := none }

def pool4 : Array CpInfo := pool [(1, .class_ 2), (0, u "java/io/Serializable"), (0, .class_ 4), (0, u "java/lang/Object")] 2

/-- java/io/Serializable -/
def k4 : Class := { plain "java/io/Serializable" (some 0) with
  accessFlags := 1537
  interfaces := #[]
  cf := some (fileOf pool4 1 #[] #[] 1537 3 #[] #[])
  fields := #[]
  methods := #[]
  instanceTypes := #[]
  staticTypes := #[]
  resolved := Array.replicate 7 none
  statics := none }

def pool5 : Array CpInfo := pool [(2, .class_ 4), (1, u "java/lang/Enum"), (0, u "name"), (0, u "Ljava/lang/String;"), (2, u "ordinal"), (0, u "I"), (1, .class_ 14), (1, u "java/lang/Object"), (4, u "hash"), (86, .class_ 108), (1, u "java/lang/Enum$EnumDesc"), (2, .class_ 112), (0, u "java/lang/constant/Constable"), (0, .class_ 114), (0, u "java/lang/Comparable"), (0, .class_ 116), (0, u "java/io/Serializable")] 87

/-- java/lang/Enum -/
def k5 : Class := { plain "java/lang/Enum" (some 0) with
  accessFlags := 1057
  interfaces := #[2, 3, 4]
  cf := some (fileOf pool5 2 #[.nestMembers #[106]] #[] 1057 12 #[111, 113, 115] #[{ accessFlags := 18, nameIndex := 5, descriptorIndex := 6, attributes := #[] }, { accessFlags := 18, nameIndex := 9, descriptorIndex := 10, attributes := #[] }, { accessFlags := 2, nameIndex := 19, descriptorIndex := 10, attributes := #[] }])
  fields := #[{ name := "name", type := (.object "java/lang/String"), accessFlags := 18, slot := 0, constantValue := 0 }, { name := "ordinal", type := .int, accessFlags := 18, slot := 1, constantValue := 0 }, { name := "hash", type := .int, accessFlags := 2, slot := 2, constantValue := 0 }]
  methods := #[]
  instanceTypes := #[(.object "java/lang/String"), .int, .int]
  staticTypes := #[]
  resolved := Array.replicate 204 none
  statics := none }

def pool6 : Array CpInfo := pool [(1, .class_ 2), (0, u "com/example/prudent_spot/prudentspot/capacity/Direction"), (2, u "GROW"), (0, u "Lcom/example/prudent_spot/prudentspot/capacity/Direction;"), (2, u "SHRINK"), (2, u "$VALUES"), (0, u "[Lcom/example/prudent_spot/prudentspot/capacity/Direction;"), (6, .class_ 22), (1, u "java/lang/Enum")] 64

/-- com/example/prudent_spot/prudentspot/capacity/Direction -/
def k6 : Class := { plain "com/example/prudent_spot/prudentspot/capacity/Direction" (some 5) with
  accessFlags := 16433
  interfaces := #[]
  cf := some (fileOf pool6 1 #[] #[] 16433 20 #[] #[{ accessFlags := 16409, nameIndex := 5, descriptorIndex := 6, attributes := #[] }, { accessFlags := 16409, nameIndex := 9, descriptorIndex := 6, attributes := #[] }, { accessFlags := 4122, nameIndex := 12, descriptorIndex := 13, attributes := #[] }])
  fields := #[{ name := "GROW", type := (.object "com/example/prudent_spot/prudentspot/capacity/Direction"), accessFlags := 16409, slot := 0, constantValue := 0 }, { name := "SHRINK", type := (.object "com/example/prudent_spot/prudentspot/capacity/Direction"), accessFlags := 16409, slot := 1, constantValue := 0 }, { name := "$VALUES", type := (.array (.object "com/example/prudent_spot/prudentspot/capacity/Direction")), accessFlags := 4122, slot := 2, constantValue := 0 }]
  methods := #[]
  instanceTypes := #[(.object "java/lang/String"), .int, .int]
  staticTypes := #[(.object "com/example/prudent_spot/prudentspot/capacity/Direction"), (.object "com/example/prudent_spot/prudentspot/capacity/Direction"), (.array (.object "com/example/prudent_spot/prudentspot/capacity/Direction"))]
  resolved := Array.replicate 87 none
  statics := some 0 }

def pool7 : Array CpInfo := pool [(1, .methodref 2 3), (0, .class_ 4), (0, .nameAndType 5 6), (0, u "java/lang/Object"), (0, u "<init>"), (0, u "()V"), (0, .fieldref 8 9), (0, .class_ 10), (0, .nameAndType 11 12), (0, u "com/example/prudent_spot/prudentspot/placement/Fleet"), (0, u "cores"), (0, u "[I"), (0, .fieldref 8 14), (0, .nameAndType 15 12), (0, u "taken"), (0, .class_ 17), (0, u "java/time/Instant"), (0, .fieldref 8 19), (0, .nameAndType 20 21), (0, u "lastEvent"), (0, u "[Ljava/time/Instant;"), (0, .class_ 23), (0, u "com/example/prudent_spot/prudentspot/capacity/Direction"), (0, .fieldref 8 25), (0, .nameAndType 26 27), (0, u "lastDirection"), (0, u "[Lcom/example/prudent_spot/prudentspot/capacity/Direction;"), (0, .class_ 29), (0, u "java/time/Duration"), (0, .fieldref 8 31), (0, .nameAndType 32 33), (0, u "sinceChange"), (0, u "[Ljava/time/Duration;"), (4, u "(I)V"), (4, u "change"), (0, u "(ILjava/time/Instant;ILcom/example/prudent_spot/prudentspot/capacity/Direction;)V"), (3, u "take"), (0, u "(II)V"), (0, u "release"), (0, u "freeCores"), (0, u "(I)I")] 4

def k7c0 : Code := { maxStack := 2, maxLocals := 2, code := prog_16_method_1_code, exceptionTable := #[], attributes := #[] }
def k7m0 : Method := { name := "<init>", desc := "(I)V", sig := { parameters := [.int], returnType := none }, accessFlags := 0, code := some k7c0 }
def k7c1 : Code := { maxStack := 3, maxLocals := 5, code := prog_16_method_3_code, exceptionTable := #[], attributes := #[] }
def k7m1 : Method := { name := "change", desc := "(ILjava/time/Instant;ILcom/example/prudent_spot/prudentspot/capacity/Direction;)V", sig := { parameters := [.int, (.object "java/time/Instant"), .int, (.object "com/example/prudent_spot/prudentspot/capacity/Direction")], returnType := none }, accessFlags := 0, code := some k7c1 }
def k7c2 : Code := { maxStack := 4, maxLocals := 3, code := prog_16_method_5_code, exceptionTable := #[], attributes := #[] }
def k7m2 : Method := { name := "take", desc := "(II)V", sig := { parameters := [.int, .int], returnType := none }, accessFlags := 0, code := some k7c2 }
def k7c3 : Code := { maxStack := 4, maxLocals := 3, code := prog_16_method_6_code, exceptionTable := #[], attributes := #[] }
def k7m3 : Method := { name := "release", desc := "(II)V", sig := { parameters := [.int, .int], returnType := none }, accessFlags := 0, code := some k7c3 }
def k7c4 : Code := { maxStack := 3, maxLocals := 2, code := prog_16_method_7_code, exceptionTable := #[], attributes := #[] }
def k7m4 : Method := { name := "freeCores", desc := "(I)I", sig := { parameters := [.int], returnType := some .int }, accessFlags := 0, code := some k7c4 }
/-- com/example/prudent_spot/prudentspot/placement/Fleet -/
def k7 : Class := { plain "com/example/prudent_spot/prudentspot/placement/Fleet" (some 0) with
  accessFlags := 48
  interfaces := #[]
  cf := some (fileOf pool7 8 #[] #[{ accessFlags := 0, nameIndex := 5, descriptorIndex := 38, attributes := #[] }, { accessFlags := 0, nameIndex := 43, descriptorIndex := 44, attributes := #[] }, { accessFlags := 0, nameIndex := 48, descriptorIndex := 49, attributes := #[] }, { accessFlags := 0, nameIndex := 50, descriptorIndex := 49, attributes := #[] }, { accessFlags := 0, nameIndex := 51, descriptorIndex := 52, attributes := #[] }] 48 2 #[] #[{ accessFlags := 18, nameIndex := 11, descriptorIndex := 12, attributes := #[] }, { accessFlags := 18, nameIndex := 15, descriptorIndex := 12, attributes := #[] }, { accessFlags := 18, nameIndex := 20, descriptorIndex := 21, attributes := #[] }, { accessFlags := 18, nameIndex := 26, descriptorIndex := 27, attributes := #[] }, { accessFlags := 18, nameIndex := 32, descriptorIndex := 33, attributes := #[] }])
  fields := #[{ name := "cores", type := (.array .int), accessFlags := 18, slot := 0, constantValue := 0 }, { name := "taken", type := (.array .int), accessFlags := 18, slot := 1, constantValue := 0 }, { name := "lastEvent", type := (.array (.object "java/time/Instant")), accessFlags := 18, slot := 2, constantValue := 0 }, { name := "lastDirection", type := (.array (.object "com/example/prudent_spot/prudentspot/capacity/Direction")), accessFlags := 18, slot := 3, constantValue := 0 }, { name := "sinceChange", type := (.array (.object "java/time/Duration")), accessFlags := 18, slot := 4, constantValue := 0 }]
  methods := #[k7m0, k7m1, k7m2, k7m3, k7m4]
  instanceTypes := #[(.array .int), (.array .int), (.array (.object "java/time/Instant")), (.array (.object "com/example/prudent_spot/prudentspot/capacity/Direction")), (.array (.object "java/time/Duration"))]
  staticTypes := #[]
  resolved := Array.replicate 57 none
  statics := none }

def pool8 : Array CpInfo := pool [(4, .class_ 6), (1, u "java/time/temporal/TemporalAccessor"), (95, .class_ 103), (0, u "java/lang/Object")] 21

/-- java/time/temporal/TemporalAccessor -/
def k8 : Class := { plain "java/time/temporal/TemporalAccessor" (some 0) with
  accessFlags := 1537
  interfaces := #[]
  cf := some (fileOf pool8 4 #[] #[] 1537 102 #[] #[])
  fields := #[]
  methods := #[]
  instanceTypes := #[]
  staticTypes := #[]
  resolved := Array.replicate 125 none
  statics := none }

def pool9 : Array CpInfo := pool [(22, .class_ 24), (1, u "java/time/temporal/Temporal"), (2, .class_ 28), (0, u "java/lang/Object"), (0, .class_ 30), (0, u "java/time/temporal/TemporalAccessor")] 25

/-- java/time/temporal/Temporal -/
def k9 : Class := { plain "java/time/temporal/Temporal" (some 0) with
  accessFlags := 1537
  interfaces := #[8]
  cf := some (fileOf pool9 22 #[] #[] 1537 27 #[29] #[])
  fields := #[]
  methods := #[]
  instanceTypes := #[]
  staticTypes := #[]
  resolved := Array.replicate 56 none
  statics := none }

def pool10 : Array CpInfo := pool [(1, .class_ 2), (0, u "java/time/temporal/TemporalAdjuster"), (0, .class_ 4), (0, u "java/lang/Object")] 6

/-- java/time/temporal/TemporalAdjuster -/
def k10 : Class := { plain "java/time/temporal/TemporalAdjuster" (some 0) with
  accessFlags := 1537
  interfaces := #[]
  cf := some (fileOf pool10 1 #[] #[] 1537 3 #[] #[])
  fields := #[]
  methods := #[]
  instanceTypes := #[]
  staticTypes := #[]
  resolved := Array.replicate 11 none
  statics := none }

def pool11 : Array CpInfo := pool [(21, .class_ 23), (1, u "java/time/Instant"), (99, u "EPOCH"), (0, u "Ljava/time/Instant;"), (13, .class_ 139), (0, u "java/lang/Object"), (2, u "seconds"), (0, u "J"), (2, u "nanos"), (0, u "I"), (28, .class_ 178), (1, u "java/time/temporal/Temporal"), (3, .class_ 184), (1, u "java/time/Instant$1"), (23, .class_ 210), (1, u "java/time/temporal/TemporalAdjuster"), (212, u "MIN"), (4, u "MAX"), (0, .class_ 430), (0, u "java/lang/Comparable"), (0, .class_ 432), (0, u "java/io/Serializable"), (0, u "MIN_SECOND"), (1, u "MAX_SECOND"), (0, u "serialVersionUID")] 142

/-- java/time/Instant -/
def k11 : Class := { plain "java/time/Instant" (some 0) with
  accessFlags := 49
  interfaces := #[9, 10, 3, 4]
  cf := some (fileOf pool11 21 #[.nestMembers #[182]] #[] 49 138 #[176, 208, 429, 431] #[{ accessFlags := 25, nameIndex := 123, descriptorIndex := 124, attributes := #[] }, { accessFlags := 26, nameIndex := 433, descriptorIndex := 143, attributes := #[] }, { accessFlags := 26, nameIndex := 435, descriptorIndex := 143, attributes := #[] }, { accessFlags := 25, nameIndex := 423, descriptorIndex := 124, attributes := #[] }, { accessFlags := 25, nameIndex := 428, descriptorIndex := 124, attributes := #[] }, { accessFlags := 26, nameIndex := 436, descriptorIndex := 143, attributes := #[] }, { accessFlags := 18, nameIndex := 142, descriptorIndex := 143, attributes := #[] }, { accessFlags := 18, nameIndex := 146, descriptorIndex := 147, attributes := #[] }])
  fields := #[{ name := "EPOCH", type := (.object "java/time/Instant"), accessFlags := 25, slot := 0, constantValue := 0 }, { name := "MIN_SECOND", type := .long, accessFlags := 26, slot := 1, constantValue := 0 }, { name := "MAX_SECOND", type := .long, accessFlags := 26, slot := 2, constantValue := 0 }, { name := "MIN", type := (.object "java/time/Instant"), accessFlags := 25, slot := 3, constantValue := 0 }, { name := "MAX", type := (.object "java/time/Instant"), accessFlags := 25, slot := 4, constantValue := 0 }, { name := "serialVersionUID", type := .long, accessFlags := 26, slot := 5, constantValue := 0 }, { name := "seconds", type := .long, accessFlags := 18, slot := 0, constantValue := 0 }, { name := "nanos", type := .int, accessFlags := 18, slot := 1, constantValue := 0 }]
  methods := #[]
  instanceTypes := #[.long, .int]
  staticTypes := #[(.object "java/time/Instant"), .long, .long, (.object "java/time/Instant"), (.object "java/time/Instant"), .long]
  resolved := Array.replicate 579 none
  statics := none }

def pool12 : Array CpInfo := pool [(1, .class_ 2), (0, u "java/time/temporal/TemporalAmount"), (0, .class_ 4), (0, u "java/lang/Object")] 11

/-- java/time/temporal/TemporalAmount -/
def k12 : Class := { plain "java/time/temporal/TemporalAmount" (some 0) with
  accessFlags := 1537
  interfaces := #[]
  cf := some (fileOf pool12 1 #[] #[] 1537 3 #[] #[])
  fields := #[]
  methods := #[]
  instanceTypes := #[]
  staticTypes := #[]
  resolved := Array.replicate 16 none
  statics := none }

def pool13 : Array CpInfo := pool [(11, .class_ 13), (1, u "java/time/Duration"), (20, u "ZERO"), (0, u "Ljava/time/Duration;"), (13, .class_ 51), (1, u "java/time/temporal/TemporalAmount"), (27, .class_ 81), (1, u "java/time/Duration$Lazy"), (35, u "seconds"), (101, .class_ 220), (0, u "java/lang/Object"), (2, u "J"), (2, u "nanos"), (0, u "I"), (11, .class_ 241), (1, u "java/time/Duration$DurationUnits"), (27, .class_ 271), (1, u "java/time/Duration$1"), (91, u "BI_NANOS_PER_SECOND"), (0, u "Ljava/math/BigInteger;"), (120, .class_ 486), (0, u "java/lang/Comparable"), (0, .class_ 488), (0, u "java/io/Serializable"), (0, u "serialVersionUID")] 166

/-- java/time/Duration -/
def k13 : Class := { plain "java/time/Duration" (some 0) with
  accessFlags := 49
  interfaces := #[12, 3, 4]
  cf := some (fileOf pool13 11 #[.nestMembers #[269, 239, 79]] #[] 49 219 #[49, 485, 487] #[{ accessFlags := 25, nameIndex := 34, descriptorIndex := 35, attributes := #[] }, { accessFlags := 26, nameIndex := 489, descriptorIndex := 223, attributes := #[] }, { accessFlags := 26, nameIndex := 363, descriptorIndex := 364, attributes := #[] }, { accessFlags := 18, nameIndex := 117, descriptorIndex := 223, attributes := #[] }, { accessFlags := 18, nameIndex := 226, descriptorIndex := 227, attributes := #[] }])
  fields := #[{ name := "ZERO", type := (.object "java/time/Duration"), accessFlags := 25, slot := 0, constantValue := 0 }, { name := "serialVersionUID", type := .long, accessFlags := 26, slot := 1, constantValue := 0 }, { name := "BI_NANOS_PER_SECOND", type := (.object "java/math/BigInteger"), accessFlags := 26, slot := 2, constantValue := 0 }, { name := "seconds", type := .long, accessFlags := 18, slot := 0, constantValue := 0 }, { name := "nanos", type := .int, accessFlags := 18, slot := 1, constantValue := 0 }]
  methods := #[]
  instanceTypes := #[.long, .int]
  staticTypes := #[(.object "java/time/Duration"), .long, (.object "java/math/BigInteger")]
  resolved := Array.replicate 656 none
  statics := none }

def pool14 : Array CpInfo := pool [(1, u "java/lang/Cloneable"), (0, .class_ 1), (0, u "java/lang/Object"), (0, .class_ 3)] 3

/-- java/lang/Cloneable -/
def k14 : Class := { plain "java/lang/Cloneable" (some 0) with
  accessFlags := 1537
  interfaces := #[]
  cf := some (fileOf pool14 2 #[] #[] 1537 4 #[] #[])
  fields := #[]
  methods := #[]
  instanceTypes := #[]
  staticTypes := #[]
  resolved := Array.replicate 8 none
  statics := none }

/-- the primitive byte -/
def k15 : Class := { plain "byte" none with kind := .primitive 'B', accessFlags := 0x411 }
/-- [B -/
def k16 : Class := { plain "[B" (some 0) with kind := .array 15 .byte, interfaces := #[14, 4], accessFlags := 1041 }

/-- the primitive int -/
def k17 : Class := { plain "int" none with kind := .primitive 'I', accessFlags := 0x411 }
/-- [I -/
def k18 : Class := { plain "[I" (some 0) with kind := .array 17 .int, interfaces := #[14, 4], accessFlags := 1041 }

/-- [Lcom/example/prudent_spot/prudentspot/capacity/Direction; -/
def k19 : Class := { plain "[Lcom/example/prudent_spot/prudentspot/capacity/Direction;" (some 0) with kind := .array 6 (.object "com/example/prudent_spot/prudentspot/capacity/Direction"), interfaces := #[14, 4], accessFlags := 1041 }

/-- [Ljava/time/Duration; -/
def k20 : Class := { plain "[Ljava/time/Duration;" (some 0) with kind := .array 13 (.object "java/time/Duration"), interfaces := #[14, 4], accessFlags := 1041 }

/-- [Ljava/time/Instant; -/
def k21 : Class := { plain "[Ljava/time/Instant;" (some 0) with kind := .array 11 (.object "java/time/Instant"), interfaces := #[14, 4], accessFlags := 1041 }

def heap : Heap := #[{ cls := 6, slots := #[.ref 2, .ref 1, .null], vm := .statics 6 },
  { cls := 6, slots := #[.null, .int 0, .int 0], vm := .none },
  { cls := 6, slots := #[.null, .int 1, .int 0], vm := .none }]
def classes : Array Class := #[k0, k1, k2, k3, k4, k5, k6, k7, k8, k9, k10, k11, k12, k13, k14, k15, k16, k17, k18, k19, k20, k21]
def interned : List (Array UInt16 × Addr) := []
def slotsUsed : Nat := 9
def theMethod : MethodId := ⟨1, 1⟩
def args0 : Array Value := #[.int 1, .int 2, .int 3, .int 4, .int 5, .int 6]
def aboutOver (below : List Frame) : State where
  vm := { classes := classes, interned := interned.toArray }
  heap := heap
  slotsUsed := slotsUsed
  threads := #[{ frames := .invoking theMethod args0 :: below }]
def below0 : List Frame := [.native { method := ⟨0, 0⟩, args := #[] }]
def about1 : State := aboutOver below0
def p0 : Program := .bare "" "" ""
def e0 : Env := launch0.env 0 0 0
theorem w_frames : about1.frames = Frame.invoking theMethod args0 :: below0 := rfl
set_option maxRecDepth 65536 in
theorem w_args : argsFit about1.vm theMethod args0 = true := by decide +kernel
set_option maxRecDepth 65536 in
theorem w_heap : heapFits about1 = true := by decide +kernel
set_option maxRecDepth 65536 in
theorem w_runnable : about1.curStatus? = some .runnable := by decide +kernel
set_option maxRecDepth 65536 in
theorem w_alone : about1.alone = true := by decide +kernel
set_option maxRecDepth 65536 in
theorem w_named : about1.methodNamed? x = some theMethod := by decide +kernel
set_option maxRecDepth 65536 in
theorem w_hears : about1.hears theMethod below0 = true := by decide +kernel
set_option maxRecDepth 65536 in
theorem w_ripe : about1.ripe theMethod args0 below0 = true := by decide +kernel
theorem w_running : about1.status = .running := rfl
set_option maxRecDepth 65536 in
theorem w_room : about1.hasRoom e0.platform room_1 = true :=
  launch0.hasRoom_least _ room_1 (by decide +kernel) (by decide +kernel) (by decide +kernel) (by decide +kernel) (by decide +kernel) (by decide +kernel)
theorem allAtoms_all (ts : List Jvm.Cond) (a : Array Jvm.Value) (st : Jvm.State) : (allAtoms ts).before a st = ts.all (fun c => c.before a st) := by
  induction ts with
  | nil => rfl
  | cons c t ih =>
    show (Jvm.Cond.and c (allAtoms t)).before a st = _
    rw [Jvm.Cond.before_and, ih, List.all_cons]
def words1 : List Jvm.Cond := Jvm.Cond.code x code maxLocals ret :: tables_1
/-- a 'code' word, met by the world's own term for the bytes: nothing is compared byte by byte -/
theorem code_word {y : MethodName} {bytes : ByteArray} {mx : Nat} {rt : Option FieldType} {a : Array Value} {s : State} {m : MethodId} {meth : Method} {c : Code} (h1 : s.methodNamed? y = some m) (h2 : s.vm.method? m = some meth) (h3 : meth.code = some c) (h4 : c.code = bytes)
    (h5 : (c.maxLocals == mx && c.exceptionTable.isEmpty && decide (c.maxStack ≤ mostOperands) && decide (meth.sig.returnType = rt) && !meth.locks && decide (parseMethodDescriptor y.desc = some meth.sig)) = true) : (Jvm.Cond.code y bytes mx rt).before a s = true := by
  simp only [Bool.and_eq_true, beq_iff_eq, Bool.not_eq_true', decide_eq_true_eq] at h5
  obtain ⟨⟨⟨⟨⟨g1, g2⟩, g3⟩, g4⟩, g5⟩, g6⟩ := h5
  simp [Cond.before, Cond.holds, Cond.value, h1, h2, h3, h4, g1, g2, g3, g4, g5, g6]
def isCode : Jvm.Cond → Bool
  | .code _ _ _ _ => true
  | _ => false
theorem all_split {L : List Jvm.Cond} {P : Jvm.Cond → Bool} (h1 : L.all (fun c => isCode c || P c) = true) (h2 : ∀ c ∈ L.filter isCode, P c = true) : L.all P = true := by
  refine List.all_eq_true.mpr fun c hc => ?_
  have h := List.all_eq_true.mp h1 c hc
  rcases Bool.eq_false_or_eq_true (isCode c) with hi | hi
  · exact h2 c (List.mem_filter.mpr ⟨hc, hi⟩)
  · simpa [hi] using h
set_option maxRecDepth 65536 in
theorem w_c0 : (Jvm.Cond.code x code maxLocals ret).before args0 about1 = true := code_word (m := ⟨1, 1⟩) (meth := k1m1) (c := k1c1) (by decide +kernel) rfl rfl rfl (by decide +kernel)
set_option maxRecDepth 65536 in
theorem w_c1 : (Jvm.Cond.code ({ cls := "com/example/prudent_spot/prudentspot/placement/Fleet", name := "<init>", desc := "(I)V" } : Jvm.MethodName) prog_16_method_1_code (2 : Nat) (Option.none : Option Jvm.ClassFile.FieldType)).before args0 about1 = true := code_word (m := ⟨7, 0⟩) (meth := k7m0) (c := k7c0) (by decide +kernel) rfl rfl rfl (by decide +kernel)
set_option maxRecDepth 65536 in
theorem w_c2 : (Jvm.Cond.code ({ cls := "java/lang/Object", name := "<init>", desc := "()V" } : Jvm.MethodName) object_method_1_code (1 : Nat) (Option.none : Option Jvm.ClassFile.FieldType)).before args0 about1 = true := code_word (m := ⟨0, 0⟩) (meth := k0m0) (c := k0c0) (by decide +kernel) rfl rfl rfl (by decide +kernel)
set_option maxRecDepth 65536 in
theorem w_c3 : (Jvm.Cond.code ({ cls := "com/example/prudent_spot/prudentspot/placement/Fleet", name := "freeCores", desc := "(I)I" } : Jvm.MethodName) prog_16_method_7_code (2 : Nat) (Option.some Jvm.ClassFile.FieldType.int)).before args0 about1 = true := code_word (m := ⟨7, 4⟩) (meth := k7m4) (c := k7c4) (by decide +kernel) rfl rfl rfl (by decide +kernel)
set_option maxRecDepth 65536 in
theorem w_c4 : (Jvm.Cond.code ({ cls := "com/example/prudent_spot/prudentspot/placement/Fleet", name := "change", desc := "(ILjava/time/Instant;ILcom/example/prudent_spot/prudentspot/capacity/Direction;)V" } : Jvm.MethodName) prog_16_method_3_code (5 : Nat) (Option.none : Option Jvm.ClassFile.FieldType)).before args0 about1 = true := code_word (m := ⟨7, 1⟩) (meth := k7m1) (c := k7c1) (by decide +kernel) rfl rfl rfl (by decide +kernel)
set_option maxRecDepth 65536 in
theorem w_c5 : (Jvm.Cond.code ({ cls := "com/example/prudent_spot/prudentspot/placement/Fleet", name := "take", desc := "(II)V" } : Jvm.MethodName) prog_16_method_5_code (3 : Nat) (Option.none : Option Jvm.ClassFile.FieldType)).before args0 about1 = true := code_word (m := ⟨7, 2⟩) (meth := k7m2) (c := k7c2) (by decide +kernel) rfl rfl rfl (by decide +kernel)
set_option maxRecDepth 65536 in
theorem w_c6 : (Jvm.Cond.code ({ cls := "com/example/prudent_spot/prudentspot/placement/Fleet", name := "release", desc := "(II)V" } : Jvm.MethodName) prog_16_method_6_code (3 : Nat) (Option.none : Option Jvm.ClassFile.FieldType)).before args0 about1 = true := code_word (m := ⟨7, 3⟩) (meth := k7m3) (c := k7c3) (by decide +kernel) rfl rfl rfl (by decide +kernel)
def codes1 : List Jvm.Cond := [Jvm.Cond.code x code maxLocals ret, Jvm.Cond.code ({ cls := "com/example/prudent_spot/prudentspot/placement/Fleet", name := "<init>", desc := "(I)V" } : Jvm.MethodName) prog_16_method_1_code (2 : Nat) (Option.none : Option Jvm.ClassFile.FieldType), Jvm.Cond.code ({ cls := "java/lang/Object", name := "<init>", desc := "()V" } : Jvm.MethodName) object_method_1_code (1 : Nat) (Option.none : Option Jvm.ClassFile.FieldType), Jvm.Cond.code ({ cls := "com/example/prudent_spot/prudentspot/placement/Fleet", name := "freeCores", desc := "(I)I" } : Jvm.MethodName) prog_16_method_7_code (2 : Nat) (Option.some Jvm.ClassFile.FieldType.int), Jvm.Cond.code ({ cls := "com/example/prudent_spot/prudentspot/placement/Fleet", name := "change", desc := "(ILjava/time/Instant;ILcom/example/prudent_spot/prudentspot/capacity/Direction;)V" } : Jvm.MethodName) prog_16_method_3_code (5 : Nat) (Option.none : Option Jvm.ClassFile.FieldType), Jvm.Cond.code ({ cls := "com/example/prudent_spot/prudentspot/placement/Fleet", name := "take", desc := "(II)V" } : Jvm.MethodName) prog_16_method_5_code (3 : Nat) (Option.none : Option Jvm.ClassFile.FieldType), Jvm.Cond.code ({ cls := "com/example/prudent_spot/prudentspot/placement/Fleet", name := "release", desc := "(II)V" } : Jvm.MethodName) prog_16_method_6_code (3 : Nat) (Option.none : Option Jvm.ClassFile.FieldType)]
set_option maxRecDepth 65536 in
theorem codes_eq : words1.filter isCode = codes1 := rfl
theorem w_codes : ∀ c ∈ words1.filter isCode, c.before args0 about1 = true := by
  rw [codes_eq]
  intro c hc
  simp only [codes1, List.mem_cons, List.not_mem_nil, or_false] at hc
  rcases hc with rfl | rfl | rfl | rfl | rfl | rfl | rfl
  · exact w_c0
  · exact w_c1
  · exact w_c2
  · exact w_c3
  · exact w_c4
  · exact w_c5
  · exact w_c6
set_option maxRecDepth 65536 in
theorem w_t1 : (words1.take 24).all (fun c => isCode c || c.before args0 about1) = true := by decide +kernel
set_option maxRecDepth 65536 in
theorem w_t2 : ((words1.drop 24).take 24).all (fun c => isCode c || c.before args0 about1) = true := by decide +kernel
set_option maxRecDepth 65536 in
theorem w_t3 : ((words1.drop 24).drop 24).all (fun c => isCode c || c.before args0 about1) = true := by decide +kernel
theorem w_tables : (allAtoms (Jvm.Cond.code x code maxLocals ret :: tables_1)).before args0 about1 = true := by
  rw [allAtoms_all]
  show words1.all (fun c => c.before args0 about1) = true
  refine all_split ?_ w_codes
  rw [← List.take_append_drop 24 words1, List.all_append, w_t1, ← List.take_append_drop 24 (words1.drop 24), List.all_append, w_t2, w_t3]
  rfl
set_option maxRecDepth 65536 in
theorem w_case : (Jvm.Cond.and given_1 narrow_1).before args0 about1 = true := by decide +kernel
theorem w_applies : (headSpec (Jvm.Cond.code x code maxLocals ret :: tables_1) room_1).applies x e0.platform about1 = true :=
  (Spec.applies_iff w_frames).mpr ⟨w_running, w_runnable, w_alone, w_named, w_hears, w_ripe, w_room, w_tables⟩
theorem atStart : AtStart classFile x code maxLocals ret World_1 tables_1 room_1 Calls_1 rest_1 Pre_1 launch0 p0 e0 about1 theMethod args0 below0 :=
  ⟨lists_1, trivial, launch0.admits_env _ _ _, launch0.least_env, fairChoices_fair.cas, fairChoices_fair.clock, w_frames, w_args, w_heap, w_applies, trivial, trivial, w_case⟩
end start1
theorem witness_1 : WitnessClaimed_1 := ⟨start1.p0, start1.e0, start1.about1, start1.theMethod, start1.args0, start1.below0, start1.atStart⟩
end Jvm.Pilot.@@N@@
