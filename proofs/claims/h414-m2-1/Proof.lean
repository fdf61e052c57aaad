import JvmDerived
import JvmDerived.Pilot.@@N@@Statement
import JvmDerived.Pilot.@@N@@Code
set_option linter.unusedVariables false
set_option linter.unusedSimpArgs false
@@BLOCK:NumsL.lean.txt@@
namespace Jvm.RoadKit
open Sem ClassFile Op Lib Jvm.Stand Jvm.Free Jvm.LawKit
section New
variable {p : Program} {l : Launch} {e : Env} {R : Room} {s : State} {m : MethodId} {args : Array Value} {below : List Frame} {meth : Method} {c : Code} {T : State} {locs : List Loc} {cells slots : Nat}
theorem retI (X : Stand p l e R s m args below meth c T locs cells slots) (hx : p.tables.exec = Jvm.exec) {pc : Nat} {Ls : Array Slot} {z : Int32} {rest : List Value} (hret : meth.sig.returnType = some .int) (hd : decode c.code pc = .ok (.ireturn, 1)) {fs : List Frame}
    (hl : ∀ (f : JFrame) (acts : List Action), f.method = m → f.locked = none → f.entered = [] → (doReturn e (T.setTop f) acts (some (.int z))).1 = T.setFrames fs) : Steps p.tables e below (T.setTop (mkF m pc Ls (.int z :: rest))) (T.setFrames fs) := by
  have hm' : T.vm.method? m = some meth := X.method'
  have hn : narrow .int (.int z) = .int z := rfl
  show Steps p.tables e below (T.setTop { method := m, pc := pc, locals := Ls, stack := _ :: rest, locked := none }) _
  jvm_step X.here [X.here.top, hx, hd, hm', hret, hn]
  first | (intro acts; rw [hl _ acts rfl rfl rfl]) | rw [hl _ _ rfl rfl rfl]
  exact Steps.refl _
end New
theorem own_sta_keep {Z : State} {h h' : Heap} {C n d : String} {v : Value} {ws : List Addr} (F : Sta Z h C n d v) (K : Keep h h' ws) (q : ∀ x ∈ ws, ∀ cell : Cell, h[x]? = some cell → cell.vm.isStatics = false) : Sta Z h' C n d v := by
  obtain ⟨cf, i, k, f, st, cell, h1, h2, h3, h4, h5, h6, h7⟩ := F
  exact ⟨cf, i, k, f, st, cell, h1, h2, h3, h4, K.2.1 st cell h5 (fun hm => by rw [q st hm cell h5] at h6; cases h6), h6, h7⟩
/-- a class that is none of the interfaces -/
def NoFace (Z : State) (N : String) : Prop := ∃ (c : ClassId) (k : Class), Z.vm.findClass N = some c ∧ Z.vm.classes[c]? = some k ∧ k.isInterface = false
theorem own_noface {Z : State} {a0 : Array Value} {C : String} {y : MethodName} (w : (Cond.selects C y y).before a0 Z = true) : NoFace Z y.cls := by
  obtain ⟨c2, r2, m2, q1, q2, q3, q4, kP, hkP, hkPi⟩ := Cond.selects_spec w
  exact ⟨m2.cls, kP, findClass_of_methodNamed q3, hkP, hkPi⟩
theorem own_same {Z : State} {a0 : Array Value} {y : MethodName} (F : NoFace Z y.cls) (wi : (Cond.instanceMethod y).before a0 Z = true) (hy : y.cls ≠ "java/lang/invoke/MethodHandle" ∧ y.cls ≠ "java/lang/invoke/VarHandle") : (Cond.sameMethod y.cls y.cls y.name y.desc).before a0 Z = true := by
  obtain ⟨c, k, h1, h2, h3⟩ := F
  obtain ⟨mk, methM, hnamed, hmethM, -, -⟩ := Cond.instanceMethod_spec wi
  have hfound : Z.methodFound? y.cls y.name y.desc = some mk := State.methodFound?_of_named hnamed hy
  have hn : Z.methodNamed? ⟨y.cls, y.name, y.desc⟩ = some mk := hnamed
  simp only [Cond.before, Cond.holds, Cond.value, h1, hfound, hn, h2]
  simp; exact h3
theorem own_psel {Z : State} {a0 : Array Value} {y : MethodName} (F : NoFace Z y.cls) (wi : (Cond.instanceMethod y).before a0 Z = true) (wp : (Cond.privateMethod y).before a0 Z = true) (hy : y.cls ≠ "java/lang/invoke/MethodHandle" ∧ y.cls ≠ "java/lang/invoke/VarHandle") : (Cond.selects y.cls y y).before a0 Z = true := by
  obtain ⟨c, k, h1, h2, h3⟩ := F
  exact selects_self_of_private h1 h2 h3 (Cond.privateMethod_at wp) wi hy
/-- from A the run goes on as from B -/
def Rch (tb : Tables) (e : Env) (below : List Frame) (A B : State) : Prop := ∀ t, Steps tb e below B t → Steps tb e below A t
end Jvm.RoadKit
namespace Jvm.Pilot.@@N@@
open Jvm Jvm.ClassFile Sem Op Lib Jvm.Free Jvm.Stand Jvm.LawKit Jvm.RoadKit Bundle Jvm.Pilot.@@N@@.Jvm.D
theorem own_nar (x : Int32) : nar .byte (x.toInt8.toInt32) = x.toInt8.toInt32 := by
  show x.toInt8.toInt32.toInt8.toInt32 = x.toInt8.toInt32
  rw [Int8.toInt8_toInt32]
theorem own_n3 {x n : Int32} (h : n = (x &&& (3 : Int32))) : n = 0 ∨ n = 1 ∨ n = 2 ∨ n = 3 := by
  have e := Jvm.Kit.i32_mask x 3 (k := 2) (by decide) (by decide)
  rw [← h] at e
  have : n.toInt = 0 ∨ n.toInt = 1 ∨ n.toInt = 2 ∨ n.toInt = 3 := by omega
  rcases this with q | q | q | q
  · exact Or.inl (Int32.toInt_inj.mp q)
  · exact Or.inr (Or.inl (Int32.toInt_inj.mp q))
  · exact Or.inr (Or.inr (Or.inl (Int32.toInt_inj.mp q)))
  · exact Or.inr (Or.inr (Or.inr (Int32.toInt_inj.mp q)))
theorem d1_0 : decode prog_9_method_2_code 0 = .ok (.iconst 1, 1) := by decide +kernel
theorem d1_1 : decode prog_9_method_2_code 1 = .ok (.aload_n 0, 1) := by decide +kernel
theorem d1_2 : decode prog_9_method_2_code 2 = .ok (.arraylength, 1) := by decide +kernel
theorem d1_3 : decode prog_9_method_2_code 3 = .ok (.iadd, 1) := by decide +kernel
theorem d1_4 : decode prog_9_method_2_code 4 = .ok (.getstatic 7, 3) := by decide +kernel
theorem d1_7 : decode prog_9_method_2_code 7 = .ok (.arraylength, 1) := by decide +kernel
theorem d1_8 : decode prog_9_method_2_code 8 = .ok (.iadd, 1) := by decide +kernel
theorem d1_9 : decode prog_9_method_2_code 9 = .ok (.newarray .byte, 2) := by decide +kernel
theorem d1_11 : decode prog_9_method_2_code 11 = .ok (.astore_n 1, 1) := by decide +kernel
theorem d1_12 : decode prog_9_method_2_code 12 = .ok (.aload_n 1, 1) := by decide +kernel
theorem d1_13 : decode prog_9_method_2_code 13 = .ok (.iconst 0, 1) := by decide +kernel
theorem d1_14 : decode prog_9_method_2_code 14 = .ok (.bipush 11, 2) := by decide +kernel
theorem d1_16 : decode prog_9_method_2_code 16 = .ok (.bastore, 1) := by decide +kernel
theorem d1_17 : decode prog_9_method_2_code 17 = .ok (.aload_n 0, 1) := by decide +kernel
theorem d1_18 : decode prog_9_method_2_code 18 = .ok (.iconst 0, 1) := by decide +kernel
theorem d1_19 : decode prog_9_method_2_code 19 = .ok (.aload_n 1, 1) := by decide +kernel
theorem d1_20 : decode prog_9_method_2_code 20 = .ok (.iconst 1, 1) := by decide +kernel
theorem d1_21 : decode prog_9_method_2_code 21 = .ok (.aload_n 0, 1) := by decide +kernel
theorem d1_22 : decode prog_9_method_2_code 22 = .ok (.arraylength, 1) := by decide +kernel
theorem d1_23 : decode prog_9_method_2_code 23 = .ok (.invokestatic 13, 3) := by decide +kernel
theorem d1_26 : decode prog_9_method_2_code 26 = .ok (.getstatic 7, 3) := by decide +kernel
theorem d1_29 : decode prog_9_method_2_code 29 = .ok (.iconst 0, 1) := by decide +kernel
theorem d1_30 : decode prog_9_method_2_code 30 = .ok (.aload_n 1, 1) := by decide +kernel
theorem d1_31 : decode prog_9_method_2_code 31 = .ok (.iconst 1, 1) := by decide +kernel
theorem d1_32 : decode prog_9_method_2_code 32 = .ok (.aload_n 0, 1) := by decide +kernel
theorem d1_33 : decode prog_9_method_2_code 33 = .ok (.arraylength, 1) := by decide +kernel
theorem d1_34 : decode prog_9_method_2_code 34 = .ok (.iadd, 1) := by decide +kernel
theorem d1_35 : decode prog_9_method_2_code 35 = .ok (.getstatic 7, 3) := by decide +kernel
theorem d1_38 : decode prog_9_method_2_code 38 = .ok (.arraylength, 1) := by decide +kernel
theorem d1_39 : decode prog_9_method_2_code 39 = .ok (.invokestatic 13, 3) := by decide +kernel
theorem d1_42 : decode prog_9_method_2_code 42 = .ok (.aload_n 1, 1) := by decide +kernel
theorem d1_43 : decode prog_9_method_2_code 43 = .ok (.areturn, 1) := by decide +kernel
theorem pn_0 : plainName "Mllp" = true := by first | (simp [plainName, overriddenIn]; done) | decide +kernel
theorem ef_f0 (m : MethodId) (x0 : Addr) : entryFrame m #[(.ref x0)] 2 = mkF m 0 #[.val (.ref x0), .unset] [] := by first | (simp [entryFrame, mkF, argsToLocals, Value.category]; done) | rfl
def Qf0 (Z : State) (a : Addr) (w : Addr) (ka kw : ClassId) (h0 : Heap) (n0 : Nat) (v : Option Value) (h : Heap) (L : List Loc) : Prop := ∃ (r : Addr) (kr : ClassId), v = some (.ref r) ∧ Fr n0 L ∧ Keep h0 h [] ∧ h0.size ≤ r ∧ Arv Z h r kr .byte (3 : Int32) [(.int (11 : Int32)), (.int (28 : Int32)), (.int (13 : Int32))] (.int (0 : Int32))
set_option maxRecDepth 65536 in
set_option maxHeartbeats 40000000 in
theorem rmf0 (l : Launch) (Z : State) (a0 : Array Value) (hw : ∀ d ∈ tables_1, d.before a0 Z = true) (ws : List Jvm.Cond) (a : Addr) (w : Addr) (ka kw : ClassId) (h0 : Heap) (n0 : Nat) (Z0 : n0 ≤ h0.size) (S1 : Sta Z h0 "Mllp" "END" "[B" (.ref w)) (AE : Arv Z h0 w kw .byte (2 : Int32) [(.int (28 : Int32)), (.int (13 : Int32))] (.int (0 : Int32))) (AC : Arv Z h0 a ka .byte (0 : Int32) [] (.int (0 : Int32))) (nea : a ≠ w) :
    MetFree l (⟨"Mllp", "frame", "([B)[B"⟩ : MethodName) (head1 (Jvm.Cond.code (⟨"Mllp", "frame", "([B)[B"⟩ : MethodName) prog_9_method_2_code 2 (some (.array .byte)) :: ws) ({ frames := 1, cells := 1, slots := 3, locals := 40 } : Room)) (fun aA U => aA = #[(.ref a)] ∧ Z.Warmed39 U.vm ∧ U.heap = h0) (fun _ _ _ _ _ => True) (fun _ U oO U' => ∃ vV LL, oO = .returned vV ∧ Qf0 Z a w ka kw h0 n0 vV U'.heap LL ∧ FrameEnd U oO U' LL ({ frames := 1, cells := 1, slots := 3, locals := 40 } : Room).cells ({ frames := 1, cells := 1, slots := 3, locals := 40 } : Room).slots) := by
  refine MetFree.of_bodySF (plainFor_of_name pn_0) hisR ?_
  intro p e s m args below meth c s₁ Bd hml0 hP hK
  obtain ⟨rfl, hZ, hh⟩ := hP
  have hx := Bd.exec
  have hby := Bd.bytes
  have hml : c.maxLocals = 2 := hml0
  have hown : s.vm.findClass "Mllp" = some m.cls := findClass_of_methodNamed Bd.named
  have hnm := (name_of_methodNamed Bd.named Bd.method).1
  have X0 : Stand p l e ({ frames := 1, cells := 1, slots := 3, locals := 40 } : Room) s m #[(.ref a)] below meth c s₁ [] 0 0 := Stand.of_body Bd
  have e0 : s₁.heap = h0 := by rw [← hh, Bd.state]; rfl
  have N0 := Fr.nil n0
  have K0 : Keep h0 h0 [] := Keep.refl _ _
  have pre0 : Rch p.tables e below (s₁.setTop (entryFrame m #[(.ref a)] 2)) (s₁.setTop (mkF m 0 #[.val (.ref a), .unset] [])) := fun tgt ktg => castTop (ef_f0 m a) ktg
  have pre1 : Rch p.tables e below (s₁.setTop (entryFrame m #[(.ref a)] 2)) (s₁.setTop (mkF m 2 #[.val (.ref a), .unset] [(.ref a), (.int (1 : Int32))])) := fun tgt ktg => pre0 tgt (by
    show Steps p.tables e below (s₁.setTop (mkF m 0 #[.val (.ref a), .unset] [])) _
    refine XS.iconst X0.here hx rfl (hb hby d1_0) ?_
    show Steps p.tables e below (s₁.setTop (mkF m 1 #[.val (.ref a), .unset] [(.int (1 : Int32))])) _
    refine XS.aloadN X0.here hx rfl (hb hby d1_1) rfl rfl ?_
    exact ktg)
  obtain ⟨cl_2, Ar_2, q_2, S_2, N_2, H_2, G_2⟩ := id AC
  have pre3 : Rch p.tables e below (s₁.setTop (entryFrame m #[(.ref a)] 2)) (s₁.setTop (mkF m 3 #[.val (.ref a), .unset] [(.int (0 : Int32)), (.int (1 : Int32))])) := fun tgt ktg => pre1 tgt (X0.arraylength hx (by rw [e0]; exact Ar_2.1) (State.isArrayOf_alike hZ.alike Ar_2.2.1) (g := (mkF m 2 #[.val (.ref a), .unset] [(.ref a), (.int (1 : Int32))])) rfl rfl (hb hby d1_2) _ (by rw [len_of S_2 N_2]; exact ktg))
  have pre4 : Rch p.tables e below (s₁.setTop (entryFrame m #[(.ref a)] 2)) (s₁.setTop (mkF m 4 #[.val (.ref a), .unset] [(.int (1 : Int32))])) := fun tgt ktg => pre3 tgt (by
    show Steps p.tables e below (s₁.setTop (mkF m 3 #[.val (.ref a), .unset] [(.int (0 : Int32)), (.int (1 : Int32))])) _
    refine XS.iadd X0.here hx rfl (hb hby d1_3) rfl ?_
    exact ktg)
  obtain ⟨T5, X5, e5, st5⟩ := getS2 X0 hx hZ hown (host := "") (Or.inl (hw _ (List.mem_of_getElem? (i := 5) rfl))) Via.refl e0 S1 (g := (mkF m 4 #[.val (.ref a), .unset] [(.int (1 : Int32))])) rfl (hb hby d1_4)
  have pre5 : Rch p.tables e below (s₁.setTop (entryFrame m #[(.ref a)] 2)) (T5.setTop (mkF m 7 #[.val (.ref a), .unset] [(.ref w), (.int (1 : Int32))])) := fun tgt ktg => pre4 tgt (st5 tgt ktg)
  obtain ⟨cl_6, Ar_6, q_6, S_6, N_6, H_6, G_6⟩ := id AE
  have pre7 : Rch p.tables e below (s₁.setTop (entryFrame m #[(.ref a)] 2)) (T5.setTop (mkF m 8 #[.val (.ref a), .unset] [(.int (2 : Int32)), (.int (1 : Int32))])) := fun tgt ktg => pre5 tgt (X5.arraylength hx (by rw [e5]; exact Ar_6.1) (State.isArrayOf_alike hZ.alike Ar_6.2.1) (g := (mkF m 7 #[.val (.ref a), .unset] [(.ref w), (.int (1 : Int32))])) rfl rfl (hb hby d1_7) _ (by rw [len_of S_6 N_6]; exact ktg))
  have pre8 : Rch p.tables e below (s₁.setTop (entryFrame m #[(.ref a)] 2)) (T5.setTop (mkF m 9 #[.val (.ref a), .unset] [(.int (3 : Int32))])) := fun tgt ktg => pre7 tgt (by
    show Steps p.tables e below (T5.setTop (mkF m 8 #[.val (.ref a), .unset] [(.int (2 : Int32)), (.int (1 : Int32))])) _
    refine XS.iadd X5.here hx rfl (hb hby d1_8) rfl ?_
    exact ktg)
  obtain ⟨T9, h9, k9, X9, e9, E9, A9, st9⟩ := newP X5 hx hZ (hw _ (List.mem_of_getElem? (i := 0) rfl)) e5 (g := (mkF m 9 #[.val (.ref a), .unset] [(.int (3 : Int32))])) rfl (hb hby d1_9) rfl (by decide) (cap := 3) (by decide) (by decide) (by decide) (by decide)
  obtain ⟨r, g9⟩ : ∃ nm_, nm_ = h0.size := ⟨_, rfl⟩
  rw [← g9] at A9 st9
  have ne_w_r : w ≠ r := Nat.ne_of_lt (Nat.lt_of_lt_of_le AE.lt (Nat.le_of_eq g9.symm))
  have ne_a_r : a ≠ r := Nat.ne_of_lt (Nat.lt_of_lt_of_le AC.lt (Nat.le_of_eq g9.symm))
  have g_r : n0 ≤ r := Nat.le_trans Z0 (Nat.le_of_eq g9.symm)
  have sz_r : h0.size ≤ r := Nat.le_trans K0.1 (Nat.le_of_eq g9.symm)
  have pre9 : Rch p.tables e below (s₁.setTop (entryFrame m #[(.ref a)] 2)) (T9.setTop (mkF m 11 #[.val (.ref a), .unset] [(.ref r)])) := fun tgt ktg => pre8 tgt (st9 tgt ktg)
  have f10 : Sta Z h9 "Mllp" "END" "[B" (.ref w) := S1.ext E9
  have f11 : Arv Z h9 w kw .byte (2 : Int32) [(.int (28 : Int32)), (.int (13 : Int32))] (.int (0 : Int32)) := AE.ext E9
  have f12 : Arv Z h9 a ka .byte (0 : Int32) [] (.int (0 : Int32)) := AC.ext E9
  have z13 : n0 ≤ h9.size := Nat.le_trans Z0 E9.1
  have K14 : Keep h0 h9 [] := K0.ext E9
  have f15 : Arv Z h9 r k9 .byte (3 : Int32) [(.int (0 : Int32)), (.int (0 : Int32)), (.int (0 : Int32))] (.int (0 : Int32)) := (Arv.new A9 (by decide)).pad (pad_rep [] (.int (0 : Int32)) 3)
  have pre16 : Rch p.tables e below (s₁.setTop (entryFrame m #[(.ref a)] 2)) (T9.setTop (mkF m 16 #[.val (.ref a), .val (.ref r)] [(.int (11 : Int32)), (.int (0 : Int32)), (.ref r)])) := fun tgt ktg => pre9 tgt (by
    show Steps p.tables e below (T9.setTop (mkF m 11 #[.val (.ref a), .unset] [(.ref r)])) _
    refine XS.astoreN X9.here hx rfl (hb hby d1_11) rfl rfl (l' := #[.val (.ref a), .val (.ref r)]) rfl ?_
    show Steps p.tables e below (T9.setTop (mkF m 12 #[.val (.ref a), .val (.ref r)] [])) _
    refine XS.aloadN X9.here hx rfl (hb hby d1_12) rfl rfl ?_
    show Steps p.tables e below (T9.setTop (mkF m 13 #[.val (.ref a), .val (.ref r)] [(.ref r)])) _
    refine XS.iconst X9.here hx rfl (hb hby d1_13) ?_
    show Steps p.tables e below (T9.setTop (mkF m 14 #[.val (.ref a), .val (.ref r)] [(.int (0 : Int32)), (.ref r)])) _
    refine XS.bipush X9.here hx rfl (hb hby d1_14) ?_
    exact ktg)
  obtain ⟨cl_17, Ar_17, q_17, S_17, N_17, H_17, G_17⟩ := id f15
  have hin_17 : ¬ ((0 : Int32) < 0 ∨ cl_17.slots.size ≤ ((0 : Int32)).toNatClampNeg) := inb_of S_17 ⟨by decide, by decide⟩
  obtain ⟨T18, h18, X18, e18, W18, st18⟩ := stB X9 hx hZ e9 Ar_17 (j := (0 : Int32)) hin_17 (g := (mkF m 16 #[.val (.ref a), .val (.ref r)] [(.int (11 : Int32)), (.int (0 : Int32)), (.ref r)])) rfl rfl (hb hby d1_16)
  have pre18 : Rch p.tables e below (s₁.setTop (entryFrame m #[(.ref a)] 2)) (T18.setTop (mkF m 17 #[.val (.ref a), .val (.ref r)] [])) := fun tgt ktg => pre16 tgt (st18 tgt ktg)
  have f19 : Sta Z h18 "Mllp" "END" "[B" (.ref w) := f10.wr W18
  have f20 : Arv Z h18 w kw .byte (2 : Int32) [(.int (28 : Int32)), (.int (13 : Int32))] (.int (0 : Int32)) := f11.other W18 ne_w_r
  have f21 : Arv Z h18 a ka .byte (0 : Int32) [] (.int (0 : Int32)) := f12.other W18 ne_a_r
  have z22 : n0 ≤ h18.size := Nat.le_trans z13 (Keep.of_wr W18).1
  have K23 : Keep h0 h18 [] := K14.wr W18 (Or.inr sz_r)
  have f24 : Arv Z h18 r k9 .byte (3 : Int32) [(.int (11 : Int32)), (.int (0 : Int32)), (.int (0 : Int32))] (.int (0 : Int32)) := Arv.set Ar_17 q_17 S_17 N_17 H_17 G_17 (fits_nar_byte _) W18 0 rfl (Nat.le_of_ble_eq_true rfl)
  have N25 := Fr.snoc X18 N0 g_r
  have pre26 : Rch p.tables e below (s₁.setTop (entryFrame m #[(.ref a)] 2)) (T18.setTop (mkF m 22 #[.val (.ref a), .val (.ref r)] [(.ref a), (.int (1 : Int32)), (.ref r), (.int (0 : Int32)), (.ref a)])) := fun tgt ktg => pre18 tgt (by
    show Steps p.tables e below (T18.setTop (mkF m 17 #[.val (.ref a), .val (.ref r)] [])) _
    refine XS.aloadN X18.here hx rfl (hb hby d1_17) rfl rfl ?_
    show Steps p.tables e below (T18.setTop (mkF m 18 #[.val (.ref a), .val (.ref r)] [(.ref a)])) _
    refine XS.iconst X18.here hx rfl (hb hby d1_18) ?_
    show Steps p.tables e below (T18.setTop (mkF m 19 #[.val (.ref a), .val (.ref r)] [(.int (0 : Int32)), (.ref a)])) _
    refine XS.aloadN X18.here hx rfl (hb hby d1_19) rfl rfl ?_
    show Steps p.tables e below (T18.setTop (mkF m 20 #[.val (.ref a), .val (.ref r)] [(.ref r), (.int (0 : Int32)), (.ref a)])) _
    refine XS.iconst X18.here hx rfl (hb hby d1_20) ?_
    show Steps p.tables e below (T18.setTop (mkF m 21 #[.val (.ref a), .val (.ref r)] [(.int (1 : Int32)), (.ref r), (.int (0 : Int32)), (.ref a)])) _
    refine XS.aloadN X18.here hx rfl (hb hby d1_21) rfl rfl ?_
    exact ktg)
  obtain ⟨cl_27, Ar_27, q_27, S_27, N_27, H_27, G_27⟩ := id f21
  have pre28 : Rch p.tables e below (s₁.setTop (entryFrame m #[(.ref a)] 2)) (T18.setTop (mkF m 23 #[.val (.ref a), .val (.ref r)] [(.int (0 : Int32)), (.int (1 : Int32)), (.ref r), (.int (0 : Int32)), (.ref a)])) := fun tgt ktg => pre26 tgt (X18.arraylength hx (by rw [e18]; exact Ar_27.1) (State.isArrayOf_alike hZ.alike Ar_27.2.1) (g := (mkF m 22 #[.val (.ref a), .val (.ref r)] [(.ref a), (.int (1 : Int32)), (.ref r), (.int (0 : Int32)), (.ref a)])) rfl rfl (hb hby d1_22) _ (by rw [len_of S_27 N_27]; exact ktg))
  obtain ⟨T29, h29, L29, X29, e29, N29, Kq29, V29, st29⟩ := cpA X18 hx hZ hown (hw _ (List.mem_of_getElem? (i := 7) rfl)) (hw _ (List.mem_of_getElem? (i := 10) rfl)) (hw _ (List.mem_of_getElem? (i := 8) rfl)) (hw _ (List.mem_of_getElem? (i := 9) rfl)) e18 f21 f24 (Or.inl ⟨rfl, rfl⟩) (by decide) (by decide) (by decide) (by decide) (by decide) (us := []) rfl (Nat.le_of_ble_eq_true rfl) (n0 := n0) N25 g_r (g := (mkF m 23 #[.val (.ref a), .val (.ref r)] [(.int (0 : Int32)), (.int (1 : Int32)), (.ref r), (.int (0 : Int32)), (.ref a)])) rfl (by rw [hml]; rfl) (rest := []) rfl (hb hby d1_23) (by decide) (W := 0) (by show 2 * 0 + _ ≤ _; exact Nat.le_of_eq rfl) (by decide)
  have pre29 : Rch p.tables e below (s₁.setTop (entryFrame m #[(.ref a)] 2)) (T29.setTop (mkF m 26 #[.val (.ref a), .val (.ref r)] [])) := fun tgt ktg => pre28 tgt (st29 tgt ktg)
  have f30 : Sta Z h29 "Mllp" "END" "[B" (.ref w) := own_sta_keep f19 Kq29 (nsS f24.nostat ns0)
  have f31 : Arv Z h29 w kw .byte (2 : Int32) [(.int (28 : Int32)), (.int (13 : Int32))] (.int (0 : Int32)) := f20.keep Kq29 (ninS ne_w_r nin0)
  have f32 : Arv Z h29 a ka .byte (0 : Int32) [] (.int (0 : Int32)) := f21.keep Kq29 (ninS ne_a_r nin0)
  have z33 : n0 ≤ h29.size := Nat.le_trans z22 Kq29.1
  have K34 : Keep h0 h29 [] := K23.trans Kq29 (allS (P := fun x => x ∈ ([] : List Addr) ∨ h0.size ≤ x) (Or.inr sz_r) (all0 (P := fun x => x ∈ ([] : List Addr) ∨ h0.size ≤ x)))
  have f35 : Arv Z h29 r k9 .byte (3 : Int32) [(.int (11 : Int32)), (.int (0 : Int32)), (.int (0 : Int32))] (.int (0 : Int32)) := V29
  obtain ⟨T36, X36, e36, st36⟩ := getS2 X29 hx hZ hown (host := "") (Or.inl (hw _ (List.mem_of_getElem? (i := 5) rfl))) Via.refl e29 f30 (g := (mkF m 26 #[.val (.ref a), .val (.ref r)] [])) rfl (hb hby d1_26)
  have pre36 : Rch p.tables e below (s₁.setTop (entryFrame m #[(.ref a)] 2)) (T36.setTop (mkF m 29 #[.val (.ref a), .val (.ref r)] [(.ref w)])) := fun tgt ktg => pre29 tgt (st36 tgt ktg)
  have pre37 : Rch p.tables e below (s₁.setTop (entryFrame m #[(.ref a)] 2)) (T36.setTop (mkF m 33 #[.val (.ref a), .val (.ref r)] [(.ref a), (.int (1 : Int32)), (.ref r), (.int (0 : Int32)), (.ref w)])) := fun tgt ktg => pre36 tgt (by
    show Steps p.tables e below (T36.setTop (mkF m 29 #[.val (.ref a), .val (.ref r)] [(.ref w)])) _
    refine XS.iconst X36.here hx rfl (hb hby d1_29) ?_
    show Steps p.tables e below (T36.setTop (mkF m 30 #[.val (.ref a), .val (.ref r)] [(.int (0 : Int32)), (.ref w)])) _
    refine XS.aloadN X36.here hx rfl (hb hby d1_30) rfl rfl ?_
    show Steps p.tables e below (T36.setTop (mkF m 31 #[.val (.ref a), .val (.ref r)] [(.ref r), (.int (0 : Int32)), (.ref w)])) _
    refine XS.iconst X36.here hx rfl (hb hby d1_31) ?_
    show Steps p.tables e below (T36.setTop (mkF m 32 #[.val (.ref a), .val (.ref r)] [(.int (1 : Int32)), (.ref r), (.int (0 : Int32)), (.ref w)])) _
    refine XS.aloadN X36.here hx rfl (hb hby d1_32) rfl rfl ?_
    exact ktg)
  obtain ⟨cl_38, Ar_38, q_38, S_38, N_38, H_38, G_38⟩ := id f32
  have pre39 : Rch p.tables e below (s₁.setTop (entryFrame m #[(.ref a)] 2)) (T36.setTop (mkF m 34 #[.val (.ref a), .val (.ref r)] [(.int (0 : Int32)), (.int (1 : Int32)), (.ref r), (.int (0 : Int32)), (.ref w)])) := fun tgt ktg => pre37 tgt (X36.arraylength hx (by rw [e36]; exact Ar_38.1) (State.isArrayOf_alike hZ.alike Ar_38.2.1) (g := (mkF m 33 #[.val (.ref a), .val (.ref r)] [(.ref a), (.int (1 : Int32)), (.ref r), (.int (0 : Int32)), (.ref w)])) rfl rfl (hb hby d1_33) _ (by rw [len_of S_38 N_38]; exact ktg))
  have pre40 : Rch p.tables e below (s₁.setTop (entryFrame m #[(.ref a)] 2)) (T36.setTop (mkF m 35 #[.val (.ref a), .val (.ref r)] [(.int (1 : Int32)), (.ref r), (.int (0 : Int32)), (.ref w)])) := fun tgt ktg => pre39 tgt (by
    show Steps p.tables e below (T36.setTop (mkF m 34 #[.val (.ref a), .val (.ref r)] [(.int (0 : Int32)), (.int (1 : Int32)), (.ref r), (.int (0 : Int32)), (.ref w)])) _
    refine XS.iadd X36.here hx rfl (hb hby d1_34) rfl ?_
    exact ktg)
  obtain ⟨T41, X41, e41, st41⟩ := getS2 X36 hx hZ hown (host := "") (Or.inl (hw _ (List.mem_of_getElem? (i := 5) rfl))) Via.refl e36 f30 (g := (mkF m 35 #[.val (.ref a), .val (.ref r)] [(.int (1 : Int32)), (.ref r), (.int (0 : Int32)), (.ref w)])) rfl (hb hby d1_35)
  have pre41 : Rch p.tables e below (s₁.setTop (entryFrame m #[(.ref a)] 2)) (T41.setTop (mkF m 38 #[.val (.ref a), .val (.ref r)] [(.ref w), (.int (1 : Int32)), (.ref r), (.int (0 : Int32)), (.ref w)])) := fun tgt ktg => pre40 tgt (st41 tgt ktg)
  obtain ⟨cl_42, Ar_42, q_42, S_42, N_42, H_42, G_42⟩ := id f31
  have pre43 : Rch p.tables e below (s₁.setTop (entryFrame m #[(.ref a)] 2)) (T41.setTop (mkF m 39 #[.val (.ref a), .val (.ref r)] [(.int (2 : Int32)), (.int (1 : Int32)), (.ref r), (.int (0 : Int32)), (.ref w)])) := fun tgt ktg => pre41 tgt (X41.arraylength hx (by rw [e41]; exact Ar_42.1) (State.isArrayOf_alike hZ.alike Ar_42.2.1) (g := (mkF m 38 #[.val (.ref a), .val (.ref r)] [(.ref w), (.int (1 : Int32)), (.ref r), (.int (0 : Int32)), (.ref w)])) rfl rfl (hb hby d1_38) _ (by rw [len_of S_42 N_42]; exact ktg))
  obtain ⟨T44, h44, L44, X44, e44, N44, Kq44, V44, st44⟩ := cpA X41 hx hZ hown (hw _ (List.mem_of_getElem? (i := 7) rfl)) (hw _ (List.mem_of_getElem? (i := 10) rfl)) (hw _ (List.mem_of_getElem? (i := 8) rfl)) (hw _ (List.mem_of_getElem? (i := 9) rfl)) e41 f31 f35 (Or.inl ⟨rfl, rfl⟩) (by decide) (by decide) (by decide) (by decide) (by decide) (us := [(.int (28 : Int32)), (.int (13 : Int32))]) rfl (Nat.le_of_ble_eq_true rfl) (n0 := n0) N29 g_r (g := (mkF m 39 #[.val (.ref a), .val (.ref r)] [(.int (2 : Int32)), (.int (1 : Int32)), (.ref r), (.int (0 : Int32)), (.ref w)])) rfl (by rw [hml]; rfl) (rest := []) rfl (hb hby d1_39) (by decide) (W := 0) (by show 2 * 0 + _ ≤ _; exact Nat.le_of_eq rfl) (by decide)
  have pre44 : Rch p.tables e below (s₁.setTop (entryFrame m #[(.ref a)] 2)) (T44.setTop (mkF m 42 #[.val (.ref a), .val (.ref r)] [])) := fun tgt ktg => pre43 tgt (st44 tgt ktg)
  have f45 : Sta Z h44 "Mllp" "END" "[B" (.ref w) := own_sta_keep f30 Kq44 (nsS f35.nostat ns0)
  have f46 : Arv Z h44 w kw .byte (2 : Int32) [(.int (28 : Int32)), (.int (13 : Int32))] (.int (0 : Int32)) := f31.keep Kq44 (ninS ne_w_r nin0)
  have f47 : Arv Z h44 a ka .byte (0 : Int32) [] (.int (0 : Int32)) := f32.keep Kq44 (ninS ne_a_r nin0)
  have z48 : n0 ≤ h44.size := Nat.le_trans z33 Kq44.1
  have K49 : Keep h0 h44 [] := K34.trans Kq44 (allS (P := fun x => x ∈ ([] : List Addr) ∨ h0.size ≤ x) (Or.inr sz_r) (all0 (P := fun x => x ∈ ([] : List Addr) ∨ h0.size ≤ x)))
  have f50 : Arv Z h44 r k9 .byte (3 : Int32) [(.int (11 : Int32)), (.int (28 : Int32)), (.int (13 : Int32))] (.int (0 : Int32)) := V44
  have pre51 : Rch p.tables e below (s₁.setTop (entryFrame m #[(.ref a)] 2)) (T44.setTop (mkF m 43 #[.val (.ref a), .val (.ref r)] [(.ref r)])) := fun tgt ktg => pre44 tgt (by
    show Steps p.tables e below (T44.setTop (mkF m 42 #[.val (.ref a), .val (.ref r)] [])) _
    refine XS.aloadN X44.here hx rfl (hb hby d1_42) rfl rfl ?_
    exact ktg)
  obtain ⟨fs, hr, hrun, hended, hW, hsame⟩ := X44.leave (v := some (.ref r)) (fun h => by rw [Bd.returns] at h; cases h)
  refine ⟨_, _, pre51 _ ?_, hrun, hended, _, _, rfl, ?_, ⟨_, rfl⟩, hW, hsame.mono (by decide) (by decide)⟩
  · show Steps p.tables e below (T44.setTop (mkF m 43 #[.val (.ref a), .val (.ref r)] [(.ref r)])) _
    jvm_step X44.here [X44.here.top, hx, (hb hby d1_43), X44.method', Bd.returns, Value.isRef, FieldType.isReference]
    first | (intro acts; rw [hr _ acts rfl rfl rfl]) | rw [hr _ _ rfl rfl rfl]
    exact Steps.refl _
  · show Qf0 Z a w ka kw h0 n0 _ T44.heap _
    rw [e44]
    exact ⟨r, k9, rfl, N44, K49, sz_r, f50⟩
theorem ef_f1 (m : MethodId) (x0 : Addr) : entryFrame m #[(.ref x0)] 2 = mkF m 0 #[.val (.ref x0), .unset] [] := by first | (simp [entryFrame, mkF, argsToLocals, Value.category]; done) | rfl
def Qf1 (Z : State) (a : Addr) (v0 : Int32) (w : Addr) (ka kw : ClassId) (h0 : Heap) (n0 : Nat) (v : Option Value) (h : Heap) (L : List Loc) : Prop := ∃ (r : Addr) (kr : ClassId), v = some (.ref r) ∧ Fr n0 L ∧ Keep h0 h [] ∧ h0.size ≤ r ∧ Arv Z h r kr .byte (4 : Int32) [(.int (11 : Int32)), (.int v0), (.int (28 : Int32)), (.int (13 : Int32))] (.int (0 : Int32))
set_option maxRecDepth 65536 in
set_option maxHeartbeats 40000000 in
theorem rmf1 (l : Launch) (Z : State) (a0 : Array Value) (hw : ∀ d ∈ tables_1, d.before a0 Z = true) (ws : List Jvm.Cond) (a : Addr) (v0 : Int32) (w : Addr) (ka kw : ClassId) (h0 : Heap) (n0 : Nat) (Z0 : n0 ≤ h0.size) (S1 : Sta Z h0 "Mllp" "END" "[B" (.ref w)) (AE : Arv Z h0 w kw .byte (2 : Int32) [(.int (28 : Int32)), (.int (13 : Int32))] (.int (0 : Int32))) (AC : Arv Z h0 a ka .byte (1 : Int32) [(.int v0)] (.int (0 : Int32))) (nea : a ≠ w) :
    MetFree l (⟨"Mllp", "frame", "([B)[B"⟩ : MethodName) (head1 (Jvm.Cond.code (⟨"Mllp", "frame", "([B)[B"⟩ : MethodName) prog_9_method_2_code 2 (some (.array .byte)) :: ws) ({ frames := 1, cells := 1, slots := 4, locals := 40 } : Room)) (fun aA U => aA = #[(.ref a)] ∧ Z.Warmed39 U.vm ∧ U.heap = h0) (fun _ _ _ _ _ => True) (fun _ U oO U' => ∃ vV LL, oO = .returned vV ∧ Qf1 Z a v0 w ka kw h0 n0 vV U'.heap LL ∧ FrameEnd U oO U' LL ({ frames := 1, cells := 1, slots := 4, locals := 40 } : Room).cells ({ frames := 1, cells := 1, slots := 4, locals := 40 } : Room).slots) := by
  refine MetFree.of_bodySF (plainFor_of_name pn_0) hisR ?_
  intro p e s m args below meth c s₁ Bd hml0 hP hK
  obtain ⟨rfl, hZ, hh⟩ := hP
  have hx := Bd.exec
  have hby := Bd.bytes
  have hml : c.maxLocals = 2 := hml0
  have hown : s.vm.findClass "Mllp" = some m.cls := findClass_of_methodNamed Bd.named
  have hnm := (name_of_methodNamed Bd.named Bd.method).1
  have X0 : Stand p l e ({ frames := 1, cells := 1, slots := 4, locals := 40 } : Room) s m #[(.ref a)] below meth c s₁ [] 0 0 := Stand.of_body Bd
  have e0 : s₁.heap = h0 := by rw [← hh, Bd.state]; rfl
  have N0 := Fr.nil n0
  have K0 : Keep h0 h0 [] := Keep.refl _ _
  have pre0 : Rch p.tables e below (s₁.setTop (entryFrame m #[(.ref a)] 2)) (s₁.setTop (mkF m 0 #[.val (.ref a), .unset] [])) := fun tgt ktg => castTop (ef_f1 m a) ktg
  have pre1 : Rch p.tables e below (s₁.setTop (entryFrame m #[(.ref a)] 2)) (s₁.setTop (mkF m 2 #[.val (.ref a), .unset] [(.ref a), (.int (1 : Int32))])) := fun tgt ktg => pre0 tgt (by
    show Steps p.tables e below (s₁.setTop (mkF m 0 #[.val (.ref a), .unset] [])) _
    refine XS.iconst X0.here hx rfl (hb hby d1_0) ?_
    show Steps p.tables e below (s₁.setTop (mkF m 1 #[.val (.ref a), .unset] [(.int (1 : Int32))])) _
    refine XS.aloadN X0.here hx rfl (hb hby d1_1) rfl rfl ?_
    exact ktg)
  obtain ⟨cl_2, Ar_2, q_2, S_2, N_2, H_2, G_2⟩ := id AC
  have pre3 : Rch p.tables e below (s₁.setTop (entryFrame m #[(.ref a)] 2)) (s₁.setTop (mkF m 3 #[.val (.ref a), .unset] [(.int (1 : Int32)), (.int (1 : Int32))])) := fun tgt ktg => pre1 tgt (X0.arraylength hx (by rw [e0]; exact Ar_2.1) (State.isArrayOf_alike hZ.alike Ar_2.2.1) (g := (mkF m 2 #[.val (.ref a), .unset] [(.ref a), (.int (1 : Int32))])) rfl rfl (hb hby d1_2) _ (by rw [len_of S_2 N_2]; exact ktg))
  have pre4 : Rch p.tables e below (s₁.setTop (entryFrame m #[(.ref a)] 2)) (s₁.setTop (mkF m 4 #[.val (.ref a), .unset] [(.int (2 : Int32))])) := fun tgt ktg => pre3 tgt (by
    show Steps p.tables e below (s₁.setTop (mkF m 3 #[.val (.ref a), .unset] [(.int (1 : Int32)), (.int (1 : Int32))])) _
    refine XS.iadd X0.here hx rfl (hb hby d1_3) rfl ?_
    exact ktg)
  obtain ⟨T5, X5, e5, st5⟩ := getS2 X0 hx hZ hown (host := "") (Or.inl (hw _ (List.mem_of_getElem? (i := 5) rfl))) Via.refl e0 S1 (g := (mkF m 4 #[.val (.ref a), .unset] [(.int (2 : Int32))])) rfl (hb hby d1_4)
  have pre5 : Rch p.tables e below (s₁.setTop (entryFrame m #[(.ref a)] 2)) (T5.setTop (mkF m 7 #[.val (.ref a), .unset] [(.ref w), (.int (2 : Int32))])) := fun tgt ktg => pre4 tgt (st5 tgt ktg)
  obtain ⟨cl_6, Ar_6, q_6, S_6, N_6, H_6, G_6⟩ := id AE
  have pre7 : Rch p.tables e below (s₁.setTop (entryFrame m #[(.ref a)] 2)) (T5.setTop (mkF m 8 #[.val (.ref a), .unset] [(.int (2 : Int32)), (.int (2 : Int32))])) := fun tgt ktg => pre5 tgt (X5.arraylength hx (by rw [e5]; exact Ar_6.1) (State.isArrayOf_alike hZ.alike Ar_6.2.1) (g := (mkF m 7 #[.val (.ref a), .unset] [(.ref w), (.int (2 : Int32))])) rfl rfl (hb hby d1_7) _ (by rw [len_of S_6 N_6]; exact ktg))
  have pre8 : Rch p.tables e below (s₁.setTop (entryFrame m #[(.ref a)] 2)) (T5.setTop (mkF m 9 #[.val (.ref a), .unset] [(.int (4 : Int32))])) := fun tgt ktg => pre7 tgt (by
    show Steps p.tables e below (T5.setTop (mkF m 8 #[.val (.ref a), .unset] [(.int (2 : Int32)), (.int (2 : Int32))])) _
    refine XS.iadd X5.here hx rfl (hb hby d1_8) rfl ?_
    exact ktg)
  obtain ⟨T9, h9, k9, X9, e9, E9, A9, st9⟩ := newP X5 hx hZ (hw _ (List.mem_of_getElem? (i := 0) rfl)) e5 (g := (mkF m 9 #[.val (.ref a), .unset] [(.int (4 : Int32))])) rfl (hb hby d1_9) rfl (by decide) (cap := 4) (by decide) (by decide) (by decide) (by decide)
  obtain ⟨r, g9⟩ : ∃ nm_, nm_ = h0.size := ⟨_, rfl⟩
  rw [← g9] at A9 st9
  have ne_w_r : w ≠ r := Nat.ne_of_lt (Nat.lt_of_lt_of_le AE.lt (Nat.le_of_eq g9.symm))
  have ne_a_r : a ≠ r := Nat.ne_of_lt (Nat.lt_of_lt_of_le AC.lt (Nat.le_of_eq g9.symm))
  have g_r : n0 ≤ r := Nat.le_trans Z0 (Nat.le_of_eq g9.symm)
  have sz_r : h0.size ≤ r := Nat.le_trans K0.1 (Nat.le_of_eq g9.symm)
  have pre9 : Rch p.tables e below (s₁.setTop (entryFrame m #[(.ref a)] 2)) (T9.setTop (mkF m 11 #[.val (.ref a), .unset] [(.ref r)])) := fun tgt ktg => pre8 tgt (st9 tgt ktg)
  have f10 : Sta Z h9 "Mllp" "END" "[B" (.ref w) := S1.ext E9
  have f11 : Arv Z h9 w kw .byte (2 : Int32) [(.int (28 : Int32)), (.int (13 : Int32))] (.int (0 : Int32)) := AE.ext E9
  have f12 : Arv Z h9 a ka .byte (1 : Int32) [(.int v0)] (.int (0 : Int32)) := AC.ext E9
  have z13 : n0 ≤ h9.size := Nat.le_trans Z0 E9.1
  have K14 : Keep h0 h9 [] := K0.ext E9
  have f15 : Arv Z h9 r k9 .byte (4 : Int32) [(.int (0 : Int32)), (.int (0 : Int32)), (.int (0 : Int32)), (.int (0 : Int32))] (.int (0 : Int32)) := (Arv.new A9 (by decide)).pad (pad_rep [] (.int (0 : Int32)) 4)
  have pre16 : Rch p.tables e below (s₁.setTop (entryFrame m #[(.ref a)] 2)) (T9.setTop (mkF m 16 #[.val (.ref a), .val (.ref r)] [(.int (11 : Int32)), (.int (0 : Int32)), (.ref r)])) := fun tgt ktg => pre9 tgt (by
    show Steps p.tables e below (T9.setTop (mkF m 11 #[.val (.ref a), .unset] [(.ref r)])) _
    refine XS.astoreN X9.here hx rfl (hb hby d1_11) rfl rfl (l' := #[.val (.ref a), .val (.ref r)]) rfl ?_
    show Steps p.tables e below (T9.setTop (mkF m 12 #[.val (.ref a), .val (.ref r)] [])) _
    refine XS.aloadN X9.here hx rfl (hb hby d1_12) rfl rfl ?_
    show Steps p.tables e below (T9.setTop (mkF m 13 #[.val (.ref a), .val (.ref r)] [(.ref r)])) _
    refine XS.iconst X9.here hx rfl (hb hby d1_13) ?_
    show Steps p.tables e below (T9.setTop (mkF m 14 #[.val (.ref a), .val (.ref r)] [(.int (0 : Int32)), (.ref r)])) _
    refine XS.bipush X9.here hx rfl (hb hby d1_14) ?_
    exact ktg)
  obtain ⟨cl_17, Ar_17, q_17, S_17, N_17, H_17, G_17⟩ := id f15
  have hin_17 : ¬ ((0 : Int32) < 0 ∨ cl_17.slots.size ≤ ((0 : Int32)).toNatClampNeg) := inb_of S_17 ⟨by decide, by decide⟩
  obtain ⟨T18, h18, X18, e18, W18, st18⟩ := stB X9 hx hZ e9 Ar_17 (j := (0 : Int32)) hin_17 (g := (mkF m 16 #[.val (.ref a), .val (.ref r)] [(.int (11 : Int32)), (.int (0 : Int32)), (.ref r)])) rfl rfl (hb hby d1_16)
  have pre18 : Rch p.tables e below (s₁.setTop (entryFrame m #[(.ref a)] 2)) (T18.setTop (mkF m 17 #[.val (.ref a), .val (.ref r)] [])) := fun tgt ktg => pre16 tgt (st18 tgt ktg)
  have f19 : Sta Z h18 "Mllp" "END" "[B" (.ref w) := f10.wr W18
  have f20 : Arv Z h18 w kw .byte (2 : Int32) [(.int (28 : Int32)), (.int (13 : Int32))] (.int (0 : Int32)) := f11.other W18 ne_w_r
  have f21 : Arv Z h18 a ka .byte (1 : Int32) [(.int v0)] (.int (0 : Int32)) := f12.other W18 ne_a_r
  have z22 : n0 ≤ h18.size := Nat.le_trans z13 (Keep.of_wr W18).1
  have K23 : Keep h0 h18 [] := K14.wr W18 (Or.inr sz_r)
  have f24 : Arv Z h18 r k9 .byte (4 : Int32) [(.int (11 : Int32)), (.int (0 : Int32)), (.int (0 : Int32)), (.int (0 : Int32))] (.int (0 : Int32)) := Arv.set Ar_17 q_17 S_17 N_17 H_17 G_17 (fits_nar_byte _) W18 0 rfl (Nat.le_of_ble_eq_true rfl)
  have N25 := Fr.snoc X18 N0 g_r
  have pre26 : Rch p.tables e below (s₁.setTop (entryFrame m #[(.ref a)] 2)) (T18.setTop (mkF m 22 #[.val (.ref a), .val (.ref r)] [(.ref a), (.int (1 : Int32)), (.ref r), (.int (0 : Int32)), (.ref a)])) := fun tgt ktg => pre18 tgt (by
    show Steps p.tables e below (T18.setTop (mkF m 17 #[.val (.ref a), .val (.ref r)] [])) _
    refine XS.aloadN X18.here hx rfl (hb hby d1_17) rfl rfl ?_
    show Steps p.tables e below (T18.setTop (mkF m 18 #[.val (.ref a), .val (.ref r)] [(.ref a)])) _
    refine XS.iconst X18.here hx rfl (hb hby d1_18) ?_
    show Steps p.tables e below (T18.setTop (mkF m 19 #[.val (.ref a), .val (.ref r)] [(.int (0 : Int32)), (.ref a)])) _
    refine XS.aloadN X18.here hx rfl (hb hby d1_19) rfl rfl ?_
    show Steps p.tables e below (T18.setTop (mkF m 20 #[.val (.ref a), .val (.ref r)] [(.ref r), (.int (0 : Int32)), (.ref a)])) _
    refine XS.iconst X18.here hx rfl (hb hby d1_20) ?_
    show Steps p.tables e below (T18.setTop (mkF m 21 #[.val (.ref a), .val (.ref r)] [(.int (1 : Int32)), (.ref r), (.int (0 : Int32)), (.ref a)])) _
    refine XS.aloadN X18.here hx rfl (hb hby d1_21) rfl rfl ?_
    exact ktg)
  obtain ⟨cl_27, Ar_27, q_27, S_27, N_27, H_27, G_27⟩ := id f21
  have pre28 : Rch p.tables e below (s₁.setTop (entryFrame m #[(.ref a)] 2)) (T18.setTop (mkF m 23 #[.val (.ref a), .val (.ref r)] [(.int (1 : Int32)), (.int (1 : Int32)), (.ref r), (.int (0 : Int32)), (.ref a)])) := fun tgt ktg => pre26 tgt (X18.arraylength hx (by rw [e18]; exact Ar_27.1) (State.isArrayOf_alike hZ.alike Ar_27.2.1) (g := (mkF m 22 #[.val (.ref a), .val (.ref r)] [(.ref a), (.int (1 : Int32)), (.ref r), (.int (0 : Int32)), (.ref a)])) rfl rfl (hb hby d1_22) _ (by rw [len_of S_27 N_27]; exact ktg))
  obtain ⟨T29, h29, L29, X29, e29, N29, Kq29, V29, st29⟩ := cpA X18 hx hZ hown (hw _ (List.mem_of_getElem? (i := 7) rfl)) (hw _ (List.mem_of_getElem? (i := 10) rfl)) (hw _ (List.mem_of_getElem? (i := 8) rfl)) (hw _ (List.mem_of_getElem? (i := 9) rfl)) e18 f21 f24 (Or.inl ⟨rfl, rfl⟩) (by decide) (by decide) (by decide) (by decide) (by decide) (us := [(.int v0)]) rfl (Nat.le_of_ble_eq_true rfl) (n0 := n0) N25 g_r (g := (mkF m 23 #[.val (.ref a), .val (.ref r)] [(.int (1 : Int32)), (.int (1 : Int32)), (.ref r), (.int (0 : Int32)), (.ref a)])) rfl (by rw [hml]; rfl) (rest := []) rfl (hb hby d1_23) (by decide) (W := 0) (by show 2 * 0 + _ ≤ _; exact Nat.le_of_eq rfl) (by decide)
  have pre29 : Rch p.tables e below (s₁.setTop (entryFrame m #[(.ref a)] 2)) (T29.setTop (mkF m 26 #[.val (.ref a), .val (.ref r)] [])) := fun tgt ktg => pre28 tgt (st29 tgt ktg)
  have f30 : Sta Z h29 "Mllp" "END" "[B" (.ref w) := own_sta_keep f19 Kq29 (nsS f24.nostat ns0)
  have f31 : Arv Z h29 w kw .byte (2 : Int32) [(.int (28 : Int32)), (.int (13 : Int32))] (.int (0 : Int32)) := f20.keep Kq29 (ninS ne_w_r nin0)
  have f32 : Arv Z h29 a ka .byte (1 : Int32) [(.int v0)] (.int (0 : Int32)) := f21.keep Kq29 (ninS ne_a_r nin0)
  have z33 : n0 ≤ h29.size := Nat.le_trans z22 Kq29.1
  have K34 : Keep h0 h29 [] := K23.trans Kq29 (allS (P := fun x => x ∈ ([] : List Addr) ∨ h0.size ≤ x) (Or.inr sz_r) (all0 (P := fun x => x ∈ ([] : List Addr) ∨ h0.size ≤ x)))
  have f35 : Arv Z h29 r k9 .byte (4 : Int32) [(.int (11 : Int32)), (.int v0), (.int (0 : Int32)), (.int (0 : Int32))] (.int (0 : Int32)) := V29
  obtain ⟨T36, X36, e36, st36⟩ := getS2 X29 hx hZ hown (host := "") (Or.inl (hw _ (List.mem_of_getElem? (i := 5) rfl))) Via.refl e29 f30 (g := (mkF m 26 #[.val (.ref a), .val (.ref r)] [])) rfl (hb hby d1_26)
  have pre36 : Rch p.tables e below (s₁.setTop (entryFrame m #[(.ref a)] 2)) (T36.setTop (mkF m 29 #[.val (.ref a), .val (.ref r)] [(.ref w)])) := fun tgt ktg => pre29 tgt (st36 tgt ktg)
  have pre37 : Rch p.tables e below (s₁.setTop (entryFrame m #[(.ref a)] 2)) (T36.setTop (mkF m 33 #[.val (.ref a), .val (.ref r)] [(.ref a), (.int (1 : Int32)), (.ref r), (.int (0 : Int32)), (.ref w)])) := fun tgt ktg => pre36 tgt (by
    show Steps p.tables e below (T36.setTop (mkF m 29 #[.val (.ref a), .val (.ref r)] [(.ref w)])) _
    refine XS.iconst X36.here hx rfl (hb hby d1_29) ?_
    show Steps p.tables e below (T36.setTop (mkF m 30 #[.val (.ref a), .val (.ref r)] [(.int (0 : Int32)), (.ref w)])) _
    refine XS.aloadN X36.here hx rfl (hb hby d1_30) rfl rfl ?_
    show Steps p.tables e below (T36.setTop (mkF m 31 #[.val (.ref a), .val (.ref r)] [(.ref r), (.int (0 : Int32)), (.ref w)])) _
    refine XS.iconst X36.here hx rfl (hb hby d1_31) ?_
    show Steps p.tables e below (T36.setTop (mkF m 32 #[.val (.ref a), .val (.ref r)] [(.int (1 : Int32)), (.ref r), (.int (0 : Int32)), (.ref w)])) _
    refine XS.aloadN X36.here hx rfl (hb hby d1_32) rfl rfl ?_
    exact ktg)
  obtain ⟨cl_38, Ar_38, q_38, S_38, N_38, H_38, G_38⟩ := id f32
  have pre39 : Rch p.tables e below (s₁.setTop (entryFrame m #[(.ref a)] 2)) (T36.setTop (mkF m 34 #[.val (.ref a), .val (.ref r)] [(.int (1 : Int32)), (.int (1 : Int32)), (.ref r), (.int (0 : Int32)), (.ref w)])) := fun tgt ktg => pre37 tgt (X36.arraylength hx (by rw [e36]; exact Ar_38.1) (State.isArrayOf_alike hZ.alike Ar_38.2.1) (g := (mkF m 33 #[.val (.ref a), .val (.ref r)] [(.ref a), (.int (1 : Int32)), (.ref r), (.int (0 : Int32)), (.ref w)])) rfl rfl (hb hby d1_33) _ (by rw [len_of S_38 N_38]; exact ktg))
  have pre40 : Rch p.tables e below (s₁.setTop (entryFrame m #[(.ref a)] 2)) (T36.setTop (mkF m 35 #[.val (.ref a), .val (.ref r)] [(.int (2 : Int32)), (.ref r), (.int (0 : Int32)), (.ref w)])) := fun tgt ktg => pre39 tgt (by
    show Steps p.tables e below (T36.setTop (mkF m 34 #[.val (.ref a), .val (.ref r)] [(.int (1 : Int32)), (.int (1 : Int32)), (.ref r), (.int (0 : Int32)), (.ref w)])) _
    refine XS.iadd X36.here hx rfl (hb hby d1_34) rfl ?_
    exact ktg)
  obtain ⟨T41, X41, e41, st41⟩ := getS2 X36 hx hZ hown (host := "") (Or.inl (hw _ (List.mem_of_getElem? (i := 5) rfl))) Via.refl e36 f30 (g := (mkF m 35 #[.val (.ref a), .val (.ref r)] [(.int (2 : Int32)), (.ref r), (.int (0 : Int32)), (.ref w)])) rfl (hb hby d1_35)
  have pre41 : Rch p.tables e below (s₁.setTop (entryFrame m #[(.ref a)] 2)) (T41.setTop (mkF m 38 #[.val (.ref a), .val (.ref r)] [(.ref w), (.int (2 : Int32)), (.ref r), (.int (0 : Int32)), (.ref w)])) := fun tgt ktg => pre40 tgt (st41 tgt ktg)
  obtain ⟨cl_42, Ar_42, q_42, S_42, N_42, H_42, G_42⟩ := id f31
  have pre43 : Rch p.tables e below (s₁.setTop (entryFrame m #[(.ref a)] 2)) (T41.setTop (mkF m 39 #[.val (.ref a), .val (.ref r)] [(.int (2 : Int32)), (.int (2 : Int32)), (.ref r), (.int (0 : Int32)), (.ref w)])) := fun tgt ktg => pre41 tgt (X41.arraylength hx (by rw [e41]; exact Ar_42.1) (State.isArrayOf_alike hZ.alike Ar_42.2.1) (g := (mkF m 38 #[.val (.ref a), .val (.ref r)] [(.ref w), (.int (2 : Int32)), (.ref r), (.int (0 : Int32)), (.ref w)])) rfl rfl (hb hby d1_38) _ (by rw [len_of S_42 N_42]; exact ktg))
  obtain ⟨T44, h44, L44, X44, e44, N44, Kq44, V44, st44⟩ := cpA X41 hx hZ hown (hw _ (List.mem_of_getElem? (i := 7) rfl)) (hw _ (List.mem_of_getElem? (i := 10) rfl)) (hw _ (List.mem_of_getElem? (i := 8) rfl)) (hw _ (List.mem_of_getElem? (i := 9) rfl)) e41 f31 f35 (Or.inl ⟨rfl, rfl⟩) (by decide) (by decide) (by decide) (by decide) (by decide) (us := [(.int (28 : Int32)), (.int (13 : Int32))]) rfl (Nat.le_of_ble_eq_true rfl) (n0 := n0) N29 g_r (g := (mkF m 39 #[.val (.ref a), .val (.ref r)] [(.int (2 : Int32)), (.int (2 : Int32)), (.ref r), (.int (0 : Int32)), (.ref w)])) rfl (by rw [hml]; rfl) (rest := []) rfl (hb hby d1_39) (by decide) (W := 0) (by show 2 * 0 + _ ≤ _; exact Nat.le_of_eq rfl) (by decide)
  have pre44 : Rch p.tables e below (s₁.setTop (entryFrame m #[(.ref a)] 2)) (T44.setTop (mkF m 42 #[.val (.ref a), .val (.ref r)] [])) := fun tgt ktg => pre43 tgt (st44 tgt ktg)
  have f45 : Sta Z h44 "Mllp" "END" "[B" (.ref w) := own_sta_keep f30 Kq44 (nsS f35.nostat ns0)
  have f46 : Arv Z h44 w kw .byte (2 : Int32) [(.int (28 : Int32)), (.int (13 : Int32))] (.int (0 : Int32)) := f31.keep Kq44 (ninS ne_w_r nin0)
  have f47 : Arv Z h44 a ka .byte (1 : Int32) [(.int v0)] (.int (0 : Int32)) := f32.keep Kq44 (ninS ne_a_r nin0)
  have z48 : n0 ≤ h44.size := Nat.le_trans z33 Kq44.1
  have K49 : Keep h0 h44 [] := K34.trans Kq44 (allS (P := fun x => x ∈ ([] : List Addr) ∨ h0.size ≤ x) (Or.inr sz_r) (all0 (P := fun x => x ∈ ([] : List Addr) ∨ h0.size ≤ x)))
  have f50 : Arv Z h44 r k9 .byte (4 : Int32) [(.int (11 : Int32)), (.int v0), (.int (28 : Int32)), (.int (13 : Int32))] (.int (0 : Int32)) := V44
  have pre51 : Rch p.tables e below (s₁.setTop (entryFrame m #[(.ref a)] 2)) (T44.setTop (mkF m 43 #[.val (.ref a), .val (.ref r)] [(.ref r)])) := fun tgt ktg => pre44 tgt (by
    show Steps p.tables e below (T44.setTop (mkF m 42 #[.val (.ref a), .val (.ref r)] [])) _
    refine XS.aloadN X44.here hx rfl (hb hby d1_42) rfl rfl ?_
    exact ktg)
  obtain ⟨fs, hr, hrun, hended, hW, hsame⟩ := X44.leave (v := some (.ref r)) (fun h => by rw [Bd.returns] at h; cases h)
  refine ⟨_, _, pre51 _ ?_, hrun, hended, _, _, rfl, ?_, ⟨_, rfl⟩, hW, hsame.mono (by decide) (by decide)⟩
  · show Steps p.tables e below (T44.setTop (mkF m 43 #[.val (.ref a), .val (.ref r)] [(.ref r)])) _
    jvm_step X44.here [X44.here.top, hx, (hb hby d1_43), X44.method', Bd.returns, Value.isRef, FieldType.isReference]
    first | (intro acts; rw [hr _ acts rfl rfl rfl]) | rw [hr _ _ rfl rfl rfl]
    exact Steps.refl _
  · show Qf1 Z a v0 w ka kw h0 n0 _ T44.heap _
    rw [e44]
    exact ⟨r, k9, rfl, N44, K49, sz_r, f50⟩
theorem ef_f2 (m : MethodId) (x0 : Addr) : entryFrame m #[(.ref x0)] 2 = mkF m 0 #[.val (.ref x0), .unset] [] := by first | (simp [entryFrame, mkF, argsToLocals, Value.category]; done) | rfl
def Qf2 (Z : State) (a : Addr) (v0 : Int32) (v1 : Int32) (w : Addr) (ka kw : ClassId) (h0 : Heap) (n0 : Nat) (v : Option Value) (h : Heap) (L : List Loc) : Prop := ∃ (r : Addr) (kr : ClassId), v = some (.ref r) ∧ Fr n0 L ∧ Keep h0 h [] ∧ h0.size ≤ r ∧ Arv Z h r kr .byte (5 : Int32) [(.int (11 : Int32)), (.int v0), (.int v1), (.int (28 : Int32)), (.int (13 : Int32))] (.int (0 : Int32))
set_option maxRecDepth 65536 in
set_option maxHeartbeats 40000000 in
theorem rmf2 (l : Launch) (Z : State) (a0 : Array Value) (hw : ∀ d ∈ tables_1, d.before a0 Z = true) (ws : List Jvm.Cond) (a : Addr) (v0 : Int32) (v1 : Int32) (w : Addr) (ka kw : ClassId) (h0 : Heap) (n0 : Nat) (Z0 : n0 ≤ h0.size) (S1 : Sta Z h0 "Mllp" "END" "[B" (.ref w)) (AE : Arv Z h0 w kw .byte (2 : Int32) [(.int (28 : Int32)), (.int (13 : Int32))] (.int (0 : Int32))) (AC : Arv Z h0 a ka .byte (2 : Int32) [(.int v0), (.int v1)] (.int (0 : Int32))) (nea : a ≠ w) :
    MetFree l (⟨"Mllp", "frame", "([B)[B"⟩ : MethodName) (head1 (Jvm.Cond.code (⟨"Mllp", "frame", "([B)[B"⟩ : MethodName) prog_9_method_2_code 2 (some (.array .byte)) :: ws) ({ frames := 1, cells := 1, slots := 5, locals := 40 } : Room)) (fun aA U => aA = #[(.ref a)] ∧ Z.Warmed39 U.vm ∧ U.heap = h0) (fun _ _ _ _ _ => True) (fun _ U oO U' => ∃ vV LL, oO = .returned vV ∧ Qf2 Z a v0 v1 w ka kw h0 n0 vV U'.heap LL ∧ FrameEnd U oO U' LL ({ frames := 1, cells := 1, slots := 5, locals := 40 } : Room).cells ({ frames := 1, cells := 1, slots := 5, locals := 40 } : Room).slots) := by
  refine MetFree.of_bodySF (plainFor_of_name pn_0) hisR ?_
  intro p e s m args below meth c s₁ Bd hml0 hP hK
  obtain ⟨rfl, hZ, hh⟩ := hP
  have hx := Bd.exec
  have hby := Bd.bytes
  have hml : c.maxLocals = 2 := hml0
  have hown : s.vm.findClass "Mllp" = some m.cls := findClass_of_methodNamed Bd.named
  have hnm := (name_of_methodNamed Bd.named Bd.method).1
  have X0 : Stand p l e ({ frames := 1, cells := 1, slots := 5, locals := 40 } : Room) s m #[(.ref a)] below meth c s₁ [] 0 0 := Stand.of_body Bd
  have e0 : s₁.heap = h0 := by rw [← hh, Bd.state]; rfl
  have N0 := Fr.nil n0
  have K0 : Keep h0 h0 [] := Keep.refl _ _
  have pre0 : Rch p.tables e below (s₁.setTop (entryFrame m #[(.ref a)] 2)) (s₁.setTop (mkF m 0 #[.val (.ref a), .unset] [])) := fun tgt ktg => castTop (ef_f2 m a) ktg
  have pre1 : Rch p.tables e below (s₁.setTop (entryFrame m #[(.ref a)] 2)) (s₁.setTop (mkF m 2 #[.val (.ref a), .unset] [(.ref a), (.int (1 : Int32))])) := fun tgt ktg => pre0 tgt (by
    show Steps p.tables e below (s₁.setTop (mkF m 0 #[.val (.ref a), .unset] [])) _
    refine XS.iconst X0.here hx rfl (hb hby d1_0) ?_
    show Steps p.tables e below (s₁.setTop (mkF m 1 #[.val (.ref a), .unset] [(.int (1 : Int32))])) _
    refine XS.aloadN X0.here hx rfl (hb hby d1_1) rfl rfl ?_
    exact ktg)
  obtain ⟨cl_2, Ar_2, q_2, S_2, N_2, H_2, G_2⟩ := id AC
  have pre3 : Rch p.tables e below (s₁.setTop (entryFrame m #[(.ref a)] 2)) (s₁.setTop (mkF m 3 #[.val (.ref a), .unset] [(.int (2 : Int32)), (.int (1 : Int32))])) := fun tgt ktg => pre1 tgt (X0.arraylength hx (by rw [e0]; exact Ar_2.1) (State.isArrayOf_alike hZ.alike Ar_2.2.1) (g := (mkF m 2 #[.val (.ref a), .unset] [(.ref a), (.int (1 : Int32))])) rfl rfl (hb hby d1_2) _ (by rw [len_of S_2 N_2]; exact ktg))
  have pre4 : Rch p.tables e below (s₁.setTop (entryFrame m #[(.ref a)] 2)) (s₁.setTop (mkF m 4 #[.val (.ref a), .unset] [(.int (3 : Int32))])) := fun tgt ktg => pre3 tgt (by
    show Steps p.tables e below (s₁.setTop (mkF m 3 #[.val (.ref a), .unset] [(.int (2 : Int32)), (.int (1 : Int32))])) _
    refine XS.iadd X0.here hx rfl (hb hby d1_3) rfl ?_
    exact ktg)
  obtain ⟨T5, X5, e5, st5⟩ := getS2 X0 hx hZ hown (host := "") (Or.inl (hw _ (List.mem_of_getElem? (i := 5) rfl))) Via.refl e0 S1 (g := (mkF m 4 #[.val (.ref a), .unset] [(.int (3 : Int32))])) rfl (hb hby d1_4)
  have pre5 : Rch p.tables e below (s₁.setTop (entryFrame m #[(.ref a)] 2)) (T5.setTop (mkF m 7 #[.val (.ref a), .unset] [(.ref w), (.int (3 : Int32))])) := fun tgt ktg => pre4 tgt (st5 tgt ktg)
  obtain ⟨cl_6, Ar_6, q_6, S_6, N_6, H_6, G_6⟩ := id AE
  have pre7 : Rch p.tables e below (s₁.setTop (entryFrame m #[(.ref a)] 2)) (T5.setTop (mkF m 8 #[.val (.ref a), .unset] [(.int (2 : Int32)), (.int (3 : Int32))])) := fun tgt ktg => pre5 tgt (X5.arraylength hx (by rw [e5]; exact Ar_6.1) (State.isArrayOf_alike hZ.alike Ar_6.2.1) (g := (mkF m 7 #[.val (.ref a), .unset] [(.ref w), (.int (3 : Int32))])) rfl rfl (hb hby d1_7) _ (by rw [len_of S_6 N_6]; exact ktg))
  have pre8 : Rch p.tables e below (s₁.setTop (entryFrame m #[(.ref a)] 2)) (T5.setTop (mkF m 9 #[.val (.ref a), .unset] [(.int (5 : Int32))])) := fun tgt ktg => pre7 tgt (by
    show Steps p.tables e below (T5.setTop (mkF m 8 #[.val (.ref a), .unset] [(.int (2 : Int32)), (.int (3 : Int32))])) _
    refine XS.iadd X5.here hx rfl (hb hby d1_8) rfl ?_
    exact ktg)
  obtain ⟨T9, h9, k9, X9, e9, E9, A9, st9⟩ := newP X5 hx hZ (hw _ (List.mem_of_getElem? (i := 0) rfl)) e5 (g := (mkF m 9 #[.val (.ref a), .unset] [(.int (5 : Int32))])) rfl (hb hby d1_9) rfl (by decide) (cap := 5) (by decide) (by decide) (by decide) (by decide)
  obtain ⟨r, g9⟩ : ∃ nm_, nm_ = h0.size := ⟨_, rfl⟩
  rw [← g9] at A9 st9
  have ne_w_r : w ≠ r := Nat.ne_of_lt (Nat.lt_of_lt_of_le AE.lt (Nat.le_of_eq g9.symm))
  have ne_a_r : a ≠ r := Nat.ne_of_lt (Nat.lt_of_lt_of_le AC.lt (Nat.le_of_eq g9.symm))
  have g_r : n0 ≤ r := Nat.le_trans Z0 (Nat.le_of_eq g9.symm)
  have sz_r : h0.size ≤ r := Nat.le_trans K0.1 (Nat.le_of_eq g9.symm)
  have pre9 : Rch p.tables e below (s₁.setTop (entryFrame m #[(.ref a)] 2)) (T9.setTop (mkF m 11 #[.val (.ref a), .unset] [(.ref r)])) := fun tgt ktg => pre8 tgt (st9 tgt ktg)
  have f10 : Sta Z h9 "Mllp" "END" "[B" (.ref w) := S1.ext E9
  have f11 : Arv Z h9 w kw .byte (2 : Int32) [(.int (28 : Int32)), (.int (13 : Int32))] (.int (0 : Int32)) := AE.ext E9
  have f12 : Arv Z h9 a ka .byte (2 : Int32) [(.int v0), (.int v1)] (.int (0 : Int32)) := AC.ext E9
  have z13 : n0 ≤ h9.size := Nat.le_trans Z0 E9.1
  have K14 : Keep h0 h9 [] := K0.ext E9
  have f15 : Arv Z h9 r k9 .byte (5 : Int32) [(.int (0 : Int32)), (.int (0 : Int32)), (.int (0 : Int32)), (.int (0 : Int32)), (.int (0 : Int32))] (.int (0 : Int32)) := (Arv.new A9 (by decide)).pad (pad_rep [] (.int (0 : Int32)) 5)
  have pre16 : Rch p.tables e below (s₁.setTop (entryFrame m #[(.ref a)] 2)) (T9.setTop (mkF m 16 #[.val (.ref a), .val (.ref r)] [(.int (11 : Int32)), (.int (0 : Int32)), (.ref r)])) := fun tgt ktg => pre9 tgt (by
    show Steps p.tables e below (T9.setTop (mkF m 11 #[.val (.ref a), .unset] [(.ref r)])) _
    refine XS.astoreN X9.here hx rfl (hb hby d1_11) rfl rfl (l' := #[.val (.ref a), .val (.ref r)]) rfl ?_
    show Steps p.tables e below (T9.setTop (mkF m 12 #[.val (.ref a), .val (.ref r)] [])) _
    refine XS.aloadN X9.here hx rfl (hb hby d1_12) rfl rfl ?_
    show Steps p.tables e below (T9.setTop (mkF m 13 #[.val (.ref a), .val (.ref r)] [(.ref r)])) _
    refine XS.iconst X9.here hx rfl (hb hby d1_13) ?_
    show Steps p.tables e below (T9.setTop (mkF m 14 #[.val (.ref a), .val (.ref r)] [(.int (0 : Int32)), (.ref r)])) _
    refine XS.bipush X9.here hx rfl (hb hby d1_14) ?_
    exact ktg)
  obtain ⟨cl_17, Ar_17, q_17, S_17, N_17, H_17, G_17⟩ := id f15
  have hin_17 : ¬ ((0 : Int32) < 0 ∨ cl_17.slots.size ≤ ((0 : Int32)).toNatClampNeg) := inb_of S_17 ⟨by decide, by decide⟩
  obtain ⟨T18, h18, X18, e18, W18, st18⟩ := stB X9 hx hZ e9 Ar_17 (j := (0 : Int32)) hin_17 (g := (mkF m 16 #[.val (.ref a), .val (.ref r)] [(.int (11 : Int32)), (.int (0 : Int32)), (.ref r)])) rfl rfl (hb hby d1_16)
  have pre18 : Rch p.tables e below (s₁.setTop (entryFrame m #[(.ref a)] 2)) (T18.setTop (mkF m 17 #[.val (.ref a), .val (.ref r)] [])) := fun tgt ktg => pre16 tgt (st18 tgt ktg)
  have f19 : Sta Z h18 "Mllp" "END" "[B" (.ref w) := f10.wr W18
  have f20 : Arv Z h18 w kw .byte (2 : Int32) [(.int (28 : Int32)), (.int (13 : Int32))] (.int (0 : Int32)) := f11.other W18 ne_w_r
  have f21 : Arv Z h18 a ka .byte (2 : Int32) [(.int v0), (.int v1)] (.int (0 : Int32)) := f12.other W18 ne_a_r
  have z22 : n0 ≤ h18.size := Nat.le_trans z13 (Keep.of_wr W18).1
  have K23 : Keep h0 h18 [] := K14.wr W18 (Or.inr sz_r)
  have f24 : Arv Z h18 r k9 .byte (5 : Int32) [(.int (11 : Int32)), (.int (0 : Int32)), (.int (0 : Int32)), (.int (0 : Int32)), (.int (0 : Int32))] (.int (0 : Int32)) := Arv.set Ar_17 q_17 S_17 N_17 H_17 G_17 (fits_nar_byte _) W18 0 rfl (Nat.le_of_ble_eq_true rfl)
  have N25 := Fr.snoc X18 N0 g_r
  have pre26 : Rch p.tables e below (s₁.setTop (entryFrame m #[(.ref a)] 2)) (T18.setTop (mkF m 22 #[.val (.ref a), .val (.ref r)] [(.ref a), (.int (1 : Int32)), (.ref r), (.int (0 : Int32)), (.ref a)])) := fun tgt ktg => pre18 tgt (by
    show Steps p.tables e below (T18.setTop (mkF m 17 #[.val (.ref a), .val (.ref r)] [])) _
    refine XS.aloadN X18.here hx rfl (hb hby d1_17) rfl rfl ?_
    show Steps p.tables e below (T18.setTop (mkF m 18 #[.val (.ref a), .val (.ref r)] [(.ref a)])) _
    refine XS.iconst X18.here hx rfl (hb hby d1_18) ?_
    show Steps p.tables e below (T18.setTop (mkF m 19 #[.val (.ref a), .val (.ref r)] [(.int (0 : Int32)), (.ref a)])) _
    refine XS.aloadN X18.here hx rfl (hb hby d1_19) rfl rfl ?_
    show Steps p.tables e below (T18.setTop (mkF m 20 #[.val (.ref a), .val (.ref r)] [(.ref r), (.int (0 : Int32)), (.ref a)])) _
    refine XS.iconst X18.here hx rfl (hb hby d1_20) ?_
    show Steps p.tables e below (T18.setTop (mkF m 21 #[.val (.ref a), .val (.ref r)] [(.int (1 : Int32)), (.ref r), (.int (0 : Int32)), (.ref a)])) _
    refine XS.aloadN X18.here hx rfl (hb hby d1_21) rfl rfl ?_
    exact ktg)
  obtain ⟨cl_27, Ar_27, q_27, S_27, N_27, H_27, G_27⟩ := id f21
  have pre28 : Rch p.tables e below (s₁.setTop (entryFrame m #[(.ref a)] 2)) (T18.setTop (mkF m 23 #[.val (.ref a), .val (.ref r)] [(.int (2 : Int32)), (.int (1 : Int32)), (.ref r), (.int (0 : Int32)), (.ref a)])) := fun tgt ktg => pre26 tgt (X18.arraylength hx (by rw [e18]; exact Ar_27.1) (State.isArrayOf_alike hZ.alike Ar_27.2.1) (g := (mkF m 22 #[.val (.ref a), .val (.ref r)] [(.ref a), (.int (1 : Int32)), (.ref r), (.int (0 : Int32)), (.ref a)])) rfl rfl (hb hby d1_22) _ (by rw [len_of S_27 N_27]; exact ktg))
  obtain ⟨T29, h29, L29, X29, e29, N29, Kq29, V29, st29⟩ := cpA X18 hx hZ hown (hw _ (List.mem_of_getElem? (i := 7) rfl)) (hw _ (List.mem_of_getElem? (i := 10) rfl)) (hw _ (List.mem_of_getElem? (i := 8) rfl)) (hw _ (List.mem_of_getElem? (i := 9) rfl)) e18 f21 f24 (Or.inl ⟨rfl, rfl⟩) (by decide) (by decide) (by decide) (by decide) (by decide) (us := [(.int v0), (.int v1)]) rfl (Nat.le_of_ble_eq_true rfl) (n0 := n0) N25 g_r (g := (mkF m 23 #[.val (.ref a), .val (.ref r)] [(.int (2 : Int32)), (.int (1 : Int32)), (.ref r), (.int (0 : Int32)), (.ref a)])) rfl (by rw [hml]; rfl) (rest := []) rfl (hb hby d1_23) (by decide) (W := 0) (by show 2 * 0 + _ ≤ _; exact Nat.le_of_eq rfl) (by decide)
  have pre29 : Rch p.tables e below (s₁.setTop (entryFrame m #[(.ref a)] 2)) (T29.setTop (mkF m 26 #[.val (.ref a), .val (.ref r)] [])) := fun tgt ktg => pre28 tgt (st29 tgt ktg)
  have f30 : Sta Z h29 "Mllp" "END" "[B" (.ref w) := own_sta_keep f19 Kq29 (nsS f24.nostat ns0)
  have f31 : Arv Z h29 w kw .byte (2 : Int32) [(.int (28 : Int32)), (.int (13 : Int32))] (.int (0 : Int32)) := f20.keep Kq29 (ninS ne_w_r nin0)
  have f32 : Arv Z h29 a ka .byte (2 : Int32) [(.int v0), (.int v1)] (.int (0 : Int32)) := f21.keep Kq29 (ninS ne_a_r nin0)
  have z33 : n0 ≤ h29.size := Nat.le_trans z22 Kq29.1
  have K34 : Keep h0 h29 [] := K23.trans Kq29 (allS (P := fun x => x ∈ ([] : List Addr) ∨ h0.size ≤ x) (Or.inr sz_r) (all0 (P := fun x => x ∈ ([] : List Addr) ∨ h0.size ≤ x)))
  have f35 : Arv Z h29 r k9 .byte (5 : Int32) [(.int (11 : Int32)), (.int v0), (.int v1), (.int (0 : Int32)), (.int (0 : Int32))] (.int (0 : Int32)) := V29
  obtain ⟨T36, X36, e36, st36⟩ := getS2 X29 hx hZ hown (host := "") (Or.inl (hw _ (List.mem_of_getElem? (i := 5) rfl))) Via.refl e29 f30 (g := (mkF m 26 #[.val (.ref a), .val (.ref r)] [])) rfl (hb hby d1_26)
  have pre36 : Rch p.tables e below (s₁.setTop (entryFrame m #[(.ref a)] 2)) (T36.setTop (mkF m 29 #[.val (.ref a), .val (.ref r)] [(.ref w)])) := fun tgt ktg => pre29 tgt (st36 tgt ktg)
  have pre37 : Rch p.tables e below (s₁.setTop (entryFrame m #[(.ref a)] 2)) (T36.setTop (mkF m 33 #[.val (.ref a), .val (.ref r)] [(.ref a), (.int (1 : Int32)), (.ref r), (.int (0 : Int32)), (.ref w)])) := fun tgt ktg => pre36 tgt (by
    show Steps p.tables e below (T36.setTop (mkF m 29 #[.val (.ref a), .val (.ref r)] [(.ref w)])) _
    refine XS.iconst X36.here hx rfl (hb hby d1_29) ?_
    show Steps p.tables e below (T36.setTop (mkF m 30 #[.val (.ref a), .val (.ref r)] [(.int (0 : Int32)), (.ref w)])) _
    refine XS.aloadN X36.here hx rfl (hb hby d1_30) rfl rfl ?_
    show Steps p.tables e below (T36.setTop (mkF m 31 #[.val (.ref a), .val (.ref r)] [(.ref r), (.int (0 : Int32)), (.ref w)])) _
    refine XS.iconst X36.here hx rfl (hb hby d1_31) ?_
    show Steps p.tables e below (T36.setTop (mkF m 32 #[.val (.ref a), .val (.ref r)] [(.int (1 : Int32)), (.ref r), (.int (0 : Int32)), (.ref w)])) _
    refine XS.aloadN X36.here hx rfl (hb hby d1_32) rfl rfl ?_
    exact ktg)
  obtain ⟨cl_38, Ar_38, q_38, S_38, N_38, H_38, G_38⟩ := id f32
  have pre39 : Rch p.tables e below (s₁.setTop (entryFrame m #[(.ref a)] 2)) (T36.setTop (mkF m 34 #[.val (.ref a), .val (.ref r)] [(.int (2 : Int32)), (.int (1 : Int32)), (.ref r), (.int (0 : Int32)), (.ref w)])) := fun tgt ktg => pre37 tgt (X36.arraylength hx (by rw [e36]; exact Ar_38.1) (State.isArrayOf_alike hZ.alike Ar_38.2.1) (g := (mkF m 33 #[.val (.ref a), .val (.ref r)] [(.ref a), (.int (1 : Int32)), (.ref r), (.int (0 : Int32)), (.ref w)])) rfl rfl (hb hby d1_33) _ (by rw [len_of S_38 N_38]; exact ktg))
  have pre40 : Rch p.tables e below (s₁.setTop (entryFrame m #[(.ref a)] 2)) (T36.setTop (mkF m 35 #[.val (.ref a), .val (.ref r)] [(.int (3 : Int32)), (.ref r), (.int (0 : Int32)), (.ref w)])) := fun tgt ktg => pre39 tgt (by
    show Steps p.tables e below (T36.setTop (mkF m 34 #[.val (.ref a), .val (.ref r)] [(.int (2 : Int32)), (.int (1 : Int32)), (.ref r), (.int (0 : Int32)), (.ref w)])) _
    refine XS.iadd X36.here hx rfl (hb hby d1_34) rfl ?_
    exact ktg)
  obtain ⟨T41, X41, e41, st41⟩ := getS2 X36 hx hZ hown (host := "") (Or.inl (hw _ (List.mem_of_getElem? (i := 5) rfl))) Via.refl e36 f30 (g := (mkF m 35 #[.val (.ref a), .val (.ref r)] [(.int (3 : Int32)), (.ref r), (.int (0 : Int32)), (.ref w)])) rfl (hb hby d1_35)
  have pre41 : Rch p.tables e below (s₁.setTop (entryFrame m #[(.ref a)] 2)) (T41.setTop (mkF m 38 #[.val (.ref a), .val (.ref r)] [(.ref w), (.int (3 : Int32)), (.ref r), (.int (0 : Int32)), (.ref w)])) := fun tgt ktg => pre40 tgt (st41 tgt ktg)
  obtain ⟨cl_42, Ar_42, q_42, S_42, N_42, H_42, G_42⟩ := id f31
  have pre43 : Rch p.tables e below (s₁.setTop (entryFrame m #[(.ref a)] 2)) (T41.setTop (mkF m 39 #[.val (.ref a), .val (.ref r)] [(.int (2 : Int32)), (.int (3 : Int32)), (.ref r), (.int (0 : Int32)), (.ref w)])) := fun tgt ktg => pre41 tgt (X41.arraylength hx (by rw [e41]; exact Ar_42.1) (State.isArrayOf_alike hZ.alike Ar_42.2.1) (g := (mkF m 38 #[.val (.ref a), .val (.ref r)] [(.ref w), (.int (3 : Int32)), (.ref r), (.int (0 : Int32)), (.ref w)])) rfl rfl (hb hby d1_38) _ (by rw [len_of S_42 N_42]; exact ktg))
  obtain ⟨T44, h44, L44, X44, e44, N44, Kq44, V44, st44⟩ := cpA X41 hx hZ hown (hw _ (List.mem_of_getElem? (i := 7) rfl)) (hw _ (List.mem_of_getElem? (i := 10) rfl)) (hw _ (List.mem_of_getElem? (i := 8) rfl)) (hw _ (List.mem_of_getElem? (i := 9) rfl)) e41 f31 f35 (Or.inl ⟨rfl, rfl⟩) (by decide) (by decide) (by decide) (by decide) (by decide) (us := [(.int (28 : Int32)), (.int (13 : Int32))]) rfl (Nat.le_of_ble_eq_true rfl) (n0 := n0) N29 g_r (g := (mkF m 39 #[.val (.ref a), .val (.ref r)] [(.int (2 : Int32)), (.int (3 : Int32)), (.ref r), (.int (0 : Int32)), (.ref w)])) rfl (by rw [hml]; rfl) (rest := []) rfl (hb hby d1_39) (by decide) (W := 0) (by show 2 * 0 + _ ≤ _; exact Nat.le_of_eq rfl) (by decide)
  have pre44 : Rch p.tables e below (s₁.setTop (entryFrame m #[(.ref a)] 2)) (T44.setTop (mkF m 42 #[.val (.ref a), .val (.ref r)] [])) := fun tgt ktg => pre43 tgt (st44 tgt ktg)
  have f45 : Sta Z h44 "Mllp" "END" "[B" (.ref w) := own_sta_keep f30 Kq44 (nsS f35.nostat ns0)
  have f46 : Arv Z h44 w kw .byte (2 : Int32) [(.int (28 : Int32)), (.int (13 : Int32))] (.int (0 : Int32)) := f31.keep Kq44 (ninS ne_w_r nin0)
  have f47 : Arv Z h44 a ka .byte (2 : Int32) [(.int v0), (.int v1)] (.int (0 : Int32)) := f32.keep Kq44 (ninS ne_a_r nin0)
  have z48 : n0 ≤ h44.size := Nat.le_trans z33 Kq44.1
  have K49 : Keep h0 h44 [] := K34.trans Kq44 (allS (P := fun x => x ∈ ([] : List Addr) ∨ h0.size ≤ x) (Or.inr sz_r) (all0 (P := fun x => x ∈ ([] : List Addr) ∨ h0.size ≤ x)))
  have f50 : Arv Z h44 r k9 .byte (5 : Int32) [(.int (11 : Int32)), (.int v0), (.int v1), (.int (28 : Int32)), (.int (13 : Int32))] (.int (0 : Int32)) := V44
  have pre51 : Rch p.tables e below (s₁.setTop (entryFrame m #[(.ref a)] 2)) (T44.setTop (mkF m 43 #[.val (.ref a), .val (.ref r)] [(.ref r)])) := fun tgt ktg => pre44 tgt (by
    show Steps p.tables e below (T44.setTop (mkF m 42 #[.val (.ref a), .val (.ref r)] [])) _
    refine XS.aloadN X44.here hx rfl (hb hby d1_42) rfl rfl ?_
    exact ktg)
  obtain ⟨fs, hr, hrun, hended, hW, hsame⟩ := X44.leave (v := some (.ref r)) (fun h => by rw [Bd.returns] at h; cases h)
  refine ⟨_, _, pre51 _ ?_, hrun, hended, _, _, rfl, ?_, ⟨_, rfl⟩, hW, hsame.mono (by decide) (by decide)⟩
  · show Steps p.tables e below (T44.setTop (mkF m 43 #[.val (.ref a), .val (.ref r)] [(.ref r)])) _
    jvm_step X44.here [X44.here.top, hx, (hb hby d1_43), X44.method', Bd.returns, Value.isRef, FieldType.isReference]
    first | (intro acts; rw [hr _ acts rfl rfl rfl]) | rw [hr _ _ rfl rfl rfl]
    exact Steps.refl _
  · show Qf2 Z a v0 v1 w ka kw h0 n0 _ T44.heap _
    rw [e44]
    exact ⟨r, k9, rfl, N44, K49, sz_r, f50⟩
theorem ef_f3 (m : MethodId) (x0 : Addr) : entryFrame m #[(.ref x0)] 2 = mkF m 0 #[.val (.ref x0), .unset] [] := by first | (simp [entryFrame, mkF, argsToLocals, Value.category]; done) | rfl
def Qf3 (Z : State) (a : Addr) (v0 : Int32) (v1 : Int32) (v2 : Int32) (w : Addr) (ka kw : ClassId) (h0 : Heap) (n0 : Nat) (v : Option Value) (h : Heap) (L : List Loc) : Prop := ∃ (r : Addr) (kr : ClassId), v = some (.ref r) ∧ Fr n0 L ∧ Keep h0 h [] ∧ h0.size ≤ r ∧ Arv Z h r kr .byte (6 : Int32) [(.int (11 : Int32)), (.int v0), (.int v1), (.int v2), (.int (28 : Int32)), (.int (13 : Int32))] (.int (0 : Int32))
set_option maxRecDepth 65536 in
set_option maxHeartbeats 40000000 in
theorem rmf3 (l : Launch) (Z : State) (a0 : Array Value) (hw : ∀ d ∈ tables_1, d.before a0 Z = true) (ws : List Jvm.Cond) (a : Addr) (v0 : Int32) (v1 : Int32) (v2 : Int32) (w : Addr) (ka kw : ClassId) (h0 : Heap) (n0 : Nat) (Z0 : n0 ≤ h0.size) (S1 : Sta Z h0 "Mllp" "END" "[B" (.ref w)) (AE : Arv Z h0 w kw .byte (2 : Int32) [(.int (28 : Int32)), (.int (13 : Int32))] (.int (0 : Int32))) (AC : Arv Z h0 a ka .byte (3 : Int32) [(.int v0), (.int v1), (.int v2)] (.int (0 : Int32))) (nea : a ≠ w) :
    MetFree l (⟨"Mllp", "frame", "([B)[B"⟩ : MethodName) (head1 (Jvm.Cond.code (⟨"Mllp", "frame", "([B)[B"⟩ : MethodName) prog_9_method_2_code 2 (some (.array .byte)) :: ws) ({ frames := 1, cells := 1, slots := 6, locals := 40 } : Room)) (fun aA U => aA = #[(.ref a)] ∧ Z.Warmed39 U.vm ∧ U.heap = h0) (fun _ _ _ _ _ => True) (fun _ U oO U' => ∃ vV LL, oO = .returned vV ∧ Qf3 Z a v0 v1 v2 w ka kw h0 n0 vV U'.heap LL ∧ FrameEnd U oO U' LL ({ frames := 1, cells := 1, slots := 6, locals := 40 } : Room).cells ({ frames := 1, cells := 1, slots := 6, locals := 40 } : Room).slots) := by
  refine MetFree.of_bodySF (plainFor_of_name pn_0) hisR ?_
  intro p e s m args below meth c s₁ Bd hml0 hP hK
  obtain ⟨rfl, hZ, hh⟩ := hP
  have hx := Bd.exec
  have hby := Bd.bytes
  have hml : c.maxLocals = 2 := hml0
  have hown : s.vm.findClass "Mllp" = some m.cls := findClass_of_methodNamed Bd.named
  have hnm := (name_of_methodNamed Bd.named Bd.method).1
  have X0 : Stand p l e ({ frames := 1, cells := 1, slots := 6, locals := 40 } : Room) s m #[(.ref a)] below meth c s₁ [] 0 0 := Stand.of_body Bd
  have e0 : s₁.heap = h0 := by rw [← hh, Bd.state]; rfl
  have N0 := Fr.nil n0
  have K0 : Keep h0 h0 [] := Keep.refl _ _
  have pre0 : Rch p.tables e below (s₁.setTop (entryFrame m #[(.ref a)] 2)) (s₁.setTop (mkF m 0 #[.val (.ref a), .unset] [])) := fun tgt ktg => castTop (ef_f3 m a) ktg
  have pre1 : Rch p.tables e below (s₁.setTop (entryFrame m #[(.ref a)] 2)) (s₁.setTop (mkF m 2 #[.val (.ref a), .unset] [(.ref a), (.int (1 : Int32))])) := fun tgt ktg => pre0 tgt (by
    show Steps p.tables e below (s₁.setTop (mkF m 0 #[.val (.ref a), .unset] [])) _
    refine XS.iconst X0.here hx rfl (hb hby d1_0) ?_
    show Steps p.tables e below (s₁.setTop (mkF m 1 #[.val (.ref a), .unset] [(.int (1 : Int32))])) _
    refine XS.aloadN X0.here hx rfl (hb hby d1_1) rfl rfl ?_
    exact ktg)
  obtain ⟨cl_2, Ar_2, q_2, S_2, N_2, H_2, G_2⟩ := id AC
  have pre3 : Rch p.tables e below (s₁.setTop (entryFrame m #[(.ref a)] 2)) (s₁.setTop (mkF m 3 #[.val (.ref a), .unset] [(.int (3 : Int32)), (.int (1 : Int32))])) := fun tgt ktg => pre1 tgt (X0.arraylength hx (by rw [e0]; exact Ar_2.1) (State.isArrayOf_alike hZ.alike Ar_2.2.1) (g := (mkF m 2 #[.val (.ref a), .unset] [(.ref a), (.int (1 : Int32))])) rfl rfl (hb hby d1_2) _ (by rw [len_of S_2 N_2]; exact ktg))
  have pre4 : Rch p.tables e below (s₁.setTop (entryFrame m #[(.ref a)] 2)) (s₁.setTop (mkF m 4 #[.val (.ref a), .unset] [(.int (4 : Int32))])) := fun tgt ktg => pre3 tgt (by
    show Steps p.tables e below (s₁.setTop (mkF m 3 #[.val (.ref a), .unset] [(.int (3 : Int32)), (.int (1 : Int32))])) _
    refine XS.iadd X0.here hx rfl (hb hby d1_3) rfl ?_
    exact ktg)
  obtain ⟨T5, X5, e5, st5⟩ := getS2 X0 hx hZ hown (host := "") (Or.inl (hw _ (List.mem_of_getElem? (i := 5) rfl))) Via.refl e0 S1 (g := (mkF m 4 #[.val (.ref a), .unset] [(.int (4 : Int32))])) rfl (hb hby d1_4)
  have pre5 : Rch p.tables e below (s₁.setTop (entryFrame m #[(.ref a)] 2)) (T5.setTop (mkF m 7 #[.val (.ref a), .unset] [(.ref w), (.int (4 : Int32))])) := fun tgt ktg => pre4 tgt (st5 tgt ktg)
  obtain ⟨cl_6, Ar_6, q_6, S_6, N_6, H_6, G_6⟩ := id AE
  have pre7 : Rch p.tables e below (s₁.setTop (entryFrame m #[(.ref a)] 2)) (T5.setTop (mkF m 8 #[.val (.ref a), .unset] [(.int (2 : Int32)), (.int (4 : Int32))])) := fun tgt ktg => pre5 tgt (X5.arraylength hx (by rw [e5]; exact Ar_6.1) (State.isArrayOf_alike hZ.alike Ar_6.2.1) (g := (mkF m 7 #[.val (.ref a), .unset] [(.ref w), (.int (4 : Int32))])) rfl rfl (hb hby d1_7) _ (by rw [len_of S_6 N_6]; exact ktg))
  have pre8 : Rch p.tables e below (s₁.setTop (entryFrame m #[(.ref a)] 2)) (T5.setTop (mkF m 9 #[.val (.ref a), .unset] [(.int (6 : Int32))])) := fun tgt ktg => pre7 tgt (by
    show Steps p.tables e below (T5.setTop (mkF m 8 #[.val (.ref a), .unset] [(.int (2 : Int32)), (.int (4 : Int32))])) _
    refine XS.iadd X5.here hx rfl (hb hby d1_8) rfl ?_
    exact ktg)
  obtain ⟨T9, h9, k9, X9, e9, E9, A9, st9⟩ := newP X5 hx hZ (hw _ (List.mem_of_getElem? (i := 0) rfl)) e5 (g := (mkF m 9 #[.val (.ref a), .unset] [(.int (6 : Int32))])) rfl (hb hby d1_9) rfl (by decide) (cap := 6) (by decide) (by decide) (by decide) (by decide)
  obtain ⟨r, g9⟩ : ∃ nm_, nm_ = h0.size := ⟨_, rfl⟩
  rw [← g9] at A9 st9
  have ne_w_r : w ≠ r := Nat.ne_of_lt (Nat.lt_of_lt_of_le AE.lt (Nat.le_of_eq g9.symm))
  have ne_a_r : a ≠ r := Nat.ne_of_lt (Nat.lt_of_lt_of_le AC.lt (Nat.le_of_eq g9.symm))
  have g_r : n0 ≤ r := Nat.le_trans Z0 (Nat.le_of_eq g9.symm)
  have sz_r : h0.size ≤ r := Nat.le_trans K0.1 (Nat.le_of_eq g9.symm)
  have pre9 : Rch p.tables e below (s₁.setTop (entryFrame m #[(.ref a)] 2)) (T9.setTop (mkF m 11 #[.val (.ref a), .unset] [(.ref r)])) := fun tgt ktg => pre8 tgt (st9 tgt ktg)
  have f10 : Sta Z h9 "Mllp" "END" "[B" (.ref w) := S1.ext E9
  have f11 : Arv Z h9 w kw .byte (2 : Int32) [(.int (28 : Int32)), (.int (13 : Int32))] (.int (0 : Int32)) := AE.ext E9
  have f12 : Arv Z h9 a ka .byte (3 : Int32) [(.int v0), (.int v1), (.int v2)] (.int (0 : Int32)) := AC.ext E9
  have z13 : n0 ≤ h9.size := Nat.le_trans Z0 E9.1
  have K14 : Keep h0 h9 [] := K0.ext E9
  have f15 : Arv Z h9 r k9 .byte (6 : Int32) [(.int (0 : Int32)), (.int (0 : Int32)), (.int (0 : Int32)), (.int (0 : Int32)), (.int (0 : Int32)), (.int (0 : Int32))] (.int (0 : Int32)) := (Arv.new A9 (by decide)).pad (pad_rep [] (.int (0 : Int32)) 6)
  have pre16 : Rch p.tables e below (s₁.setTop (entryFrame m #[(.ref a)] 2)) (T9.setTop (mkF m 16 #[.val (.ref a), .val (.ref r)] [(.int (11 : Int32)), (.int (0 : Int32)), (.ref r)])) := fun tgt ktg => pre9 tgt (by
    show Steps p.tables e below (T9.setTop (mkF m 11 #[.val (.ref a), .unset] [(.ref r)])) _
    refine XS.astoreN X9.here hx rfl (hb hby d1_11) rfl rfl (l' := #[.val (.ref a), .val (.ref r)]) rfl ?_
    show Steps p.tables e below (T9.setTop (mkF m 12 #[.val (.ref a), .val (.ref r)] [])) _
    refine XS.aloadN X9.here hx rfl (hb hby d1_12) rfl rfl ?_
    show Steps p.tables e below (T9.setTop (mkF m 13 #[.val (.ref a), .val (.ref r)] [(.ref r)])) _
    refine XS.iconst X9.here hx rfl (hb hby d1_13) ?_
    show Steps p.tables e below (T9.setTop (mkF m 14 #[.val (.ref a), .val (.ref r)] [(.int (0 : Int32)), (.ref r)])) _
    refine XS.bipush X9.here hx rfl (hb hby d1_14) ?_
    exact ktg)
  obtain ⟨cl_17, Ar_17, q_17, S_17, N_17, H_17, G_17⟩ := id f15
  have hin_17 : ¬ ((0 : Int32) < 0 ∨ cl_17.slots.size ≤ ((0 : Int32)).toNatClampNeg) := inb_of S_17 ⟨by decide, by decide⟩
  obtain ⟨T18, h18, X18, e18, W18, st18⟩ := stB X9 hx hZ e9 Ar_17 (j := (0 : Int32)) hin_17 (g := (mkF m 16 #[.val (.ref a), .val (.ref r)] [(.int (11 : Int32)), (.int (0 : Int32)), (.ref r)])) rfl rfl (hb hby d1_16)
  have pre18 : Rch p.tables e below (s₁.setTop (entryFrame m #[(.ref a)] 2)) (T18.setTop (mkF m 17 #[.val (.ref a), .val (.ref r)] [])) := fun tgt ktg => pre16 tgt (st18 tgt ktg)
  have f19 : Sta Z h18 "Mllp" "END" "[B" (.ref w) := f10.wr W18
  have f20 : Arv Z h18 w kw .byte (2 : Int32) [(.int (28 : Int32)), (.int (13 : Int32))] (.int (0 : Int32)) := f11.other W18 ne_w_r
  have f21 : Arv Z h18 a ka .byte (3 : Int32) [(.int v0), (.int v1), (.int v2)] (.int (0 : Int32)) := f12.other W18 ne_a_r
  have z22 : n0 ≤ h18.size := Nat.le_trans z13 (Keep.of_wr W18).1
  have K23 : Keep h0 h18 [] := K14.wr W18 (Or.inr sz_r)
  have f24 : Arv Z h18 r k9 .byte (6 : Int32) [(.int (11 : Int32)), (.int (0 : Int32)), (.int (0 : Int32)), (.int (0 : Int32)), (.int (0 : Int32)), (.int (0 : Int32))] (.int (0 : Int32)) := Arv.set Ar_17 q_17 S_17 N_17 H_17 G_17 (fits_nar_byte _) W18 0 rfl (Nat.le_of_ble_eq_true rfl)
  have N25 := Fr.snoc X18 N0 g_r
  have pre26 : Rch p.tables e below (s₁.setTop (entryFrame m #[(.ref a)] 2)) (T18.setTop (mkF m 22 #[.val (.ref a), .val (.ref r)] [(.ref a), (.int (1 : Int32)), (.ref r), (.int (0 : Int32)), (.ref a)])) := fun tgt ktg => pre18 tgt (by
    show Steps p.tables e below (T18.setTop (mkF m 17 #[.val (.ref a), .val (.ref r)] [])) _
    refine XS.aloadN X18.here hx rfl (hb hby d1_17) rfl rfl ?_
    show Steps p.tables e below (T18.setTop (mkF m 18 #[.val (.ref a), .val (.ref r)] [(.ref a)])) _
    refine XS.iconst X18.here hx rfl (hb hby d1_18) ?_
    show Steps p.tables e below (T18.setTop (mkF m 19 #[.val (.ref a), .val (.ref r)] [(.int (0 : Int32)), (.ref a)])) _
    refine XS.aloadN X18.here hx rfl (hb hby d1_19) rfl rfl ?_
    show Steps p.tables e below (T18.setTop (mkF m 20 #[.val (.ref a), .val (.ref r)] [(.ref r), (.int (0 : Int32)), (.ref a)])) _
    refine XS.iconst X18.here hx rfl (hb hby d1_20) ?_
    show Steps p.tables e below (T18.setTop (mkF m 21 #[.val (.ref a), .val (.ref r)] [(.int (1 : Int32)), (.ref r), (.int (0 : Int32)), (.ref a)])) _
    refine XS.aloadN X18.here hx rfl (hb hby d1_21) rfl rfl ?_
    exact ktg)
  obtain ⟨cl_27, Ar_27, q_27, S_27, N_27, H_27, G_27⟩ := id f21
  have pre28 : Rch p.tables e below (s₁.setTop (entryFrame m #[(.ref a)] 2)) (T18.setTop (mkF m 23 #[.val (.ref a), .val (.ref r)] [(.int (3 : Int32)), (.int (1 : Int32)), (.ref r), (.int (0 : Int32)), (.ref a)])) := fun tgt ktg => pre26 tgt (X18.arraylength hx (by rw [e18]; exact Ar_27.1) (State.isArrayOf_alike hZ.alike Ar_27.2.1) (g := (mkF m 22 #[.val (.ref a), .val (.ref r)] [(.ref a), (.int (1 : Int32)), (.ref r), (.int (0 : Int32)), (.ref a)])) rfl rfl (hb hby d1_22) _ (by rw [len_of S_27 N_27]; exact ktg))
  obtain ⟨T29, h29, L29, X29, e29, N29, Kq29, V29, st29⟩ := cpA X18 hx hZ hown (hw _ (List.mem_of_getElem? (i := 7) rfl)) (hw _ (List.mem_of_getElem? (i := 10) rfl)) (hw _ (List.mem_of_getElem? (i := 8) rfl)) (hw _ (List.mem_of_getElem? (i := 9) rfl)) e18 f21 f24 (Or.inl ⟨rfl, rfl⟩) (by decide) (by decide) (by decide) (by decide) (by decide) (us := [(.int v0), (.int v1), (.int v2)]) rfl (Nat.le_of_ble_eq_true rfl) (n0 := n0) N25 g_r (g := (mkF m 23 #[.val (.ref a), .val (.ref r)] [(.int (3 : Int32)), (.int (1 : Int32)), (.ref r), (.int (0 : Int32)), (.ref a)])) rfl (by rw [hml]; rfl) (rest := []) rfl (hb hby d1_23) (by decide) (W := 0) (by show 2 * 0 + _ ≤ _; exact Nat.le_of_eq rfl) (by decide)
  have pre29 : Rch p.tables e below (s₁.setTop (entryFrame m #[(.ref a)] 2)) (T29.setTop (mkF m 26 #[.val (.ref a), .val (.ref r)] [])) := fun tgt ktg => pre28 tgt (st29 tgt ktg)
  have f30 : Sta Z h29 "Mllp" "END" "[B" (.ref w) := own_sta_keep f19 Kq29 (nsS f24.nostat ns0)
  have f31 : Arv Z h29 w kw .byte (2 : Int32) [(.int (28 : Int32)), (.int (13 : Int32))] (.int (0 : Int32)) := f20.keep Kq29 (ninS ne_w_r nin0)
  have f32 : Arv Z h29 a ka .byte (3 : Int32) [(.int v0), (.int v1), (.int v2)] (.int (0 : Int32)) := f21.keep Kq29 (ninS ne_a_r nin0)
  have z33 : n0 ≤ h29.size := Nat.le_trans z22 Kq29.1
  have K34 : Keep h0 h29 [] := K23.trans Kq29 (allS (P := fun x => x ∈ ([] : List Addr) ∨ h0.size ≤ x) (Or.inr sz_r) (all0 (P := fun x => x ∈ ([] : List Addr) ∨ h0.size ≤ x)))
  have f35 : Arv Z h29 r k9 .byte (6 : Int32) [(.int (11 : Int32)), (.int v0), (.int v1), (.int v2), (.int (0 : Int32)), (.int (0 : Int32))] (.int (0 : Int32)) := V29
  obtain ⟨T36, X36, e36, st36⟩ := getS2 X29 hx hZ hown (host := "") (Or.inl (hw _ (List.mem_of_getElem? (i := 5) rfl))) Via.refl e29 f30 (g := (mkF m 26 #[.val (.ref a), .val (.ref r)] [])) rfl (hb hby d1_26)
  have pre36 : Rch p.tables e below (s₁.setTop (entryFrame m #[(.ref a)] 2)) (T36.setTop (mkF m 29 #[.val (.ref a), .val (.ref r)] [(.ref w)])) := fun tgt ktg => pre29 tgt (st36 tgt ktg)
  have pre37 : Rch p.tables e below (s₁.setTop (entryFrame m #[(.ref a)] 2)) (T36.setTop (mkF m 33 #[.val (.ref a), .val (.ref r)] [(.ref a), (.int (1 : Int32)), (.ref r), (.int (0 : Int32)), (.ref w)])) := fun tgt ktg => pre36 tgt (by
    show Steps p.tables e below (T36.setTop (mkF m 29 #[.val (.ref a), .val (.ref r)] [(.ref w)])) _
    refine XS.iconst X36.here hx rfl (hb hby d1_29) ?_
    show Steps p.tables e below (T36.setTop (mkF m 30 #[.val (.ref a), .val (.ref r)] [(.int (0 : Int32)), (.ref w)])) _
    refine XS.aloadN X36.here hx rfl (hb hby d1_30) rfl rfl ?_
    show Steps p.tables e below (T36.setTop (mkF m 31 #[.val (.ref a), .val (.ref r)] [(.ref r), (.int (0 : Int32)), (.ref w)])) _
    refine XS.iconst X36.here hx rfl (hb hby d1_31) ?_
    show Steps p.tables e below (T36.setTop (mkF m 32 #[.val (.ref a), .val (.ref r)] [(.int (1 : Int32)), (.ref r), (.int (0 : Int32)), (.ref w)])) _
    refine XS.aloadN X36.here hx rfl (hb hby d1_32) rfl rfl ?_
    exact ktg)
  obtain ⟨cl_38, Ar_38, q_38, S_38, N_38, H_38, G_38⟩ := id f32
  have pre39 : Rch p.tables e below (s₁.setTop (entryFrame m #[(.ref a)] 2)) (T36.setTop (mkF m 34 #[.val (.ref a), .val (.ref r)] [(.int (3 : Int32)), (.int (1 : Int32)), (.ref r), (.int (0 : Int32)), (.ref w)])) := fun tgt ktg => pre37 tgt (X36.arraylength hx (by rw [e36]; exact Ar_38.1) (State.isArrayOf_alike hZ.alike Ar_38.2.1) (g := (mkF m 33 #[.val (.ref a), .val (.ref r)] [(.ref a), (.int (1 : Int32)), (.ref r), (.int (0 : Int32)), (.ref w)])) rfl rfl (hb hby d1_33) _ (by rw [len_of S_38 N_38]; exact ktg))
  have pre40 : Rch p.tables e below (s₁.setTop (entryFrame m #[(.ref a)] 2)) (T36.setTop (mkF m 35 #[.val (.ref a), .val (.ref r)] [(.int (4 : Int32)), (.ref r), (.int (0 : Int32)), (.ref w)])) := fun tgt ktg => pre39 tgt (by
    show Steps p.tables e below (T36.setTop (mkF m 34 #[.val (.ref a), .val (.ref r)] [(.int (3 : Int32)), (.int (1 : Int32)), (.ref r), (.int (0 : Int32)), (.ref w)])) _
    refine XS.iadd X36.here hx rfl (hb hby d1_34) rfl ?_
    exact ktg)
  obtain ⟨T41, X41, e41, st41⟩ := getS2 X36 hx hZ hown (host := "") (Or.inl (hw _ (List.mem_of_getElem? (i := 5) rfl))) Via.refl e36 f30 (g := (mkF m 35 #[.val (.ref a), .val (.ref r)] [(.int (4 : Int32)), (.ref r), (.int (0 : Int32)), (.ref w)])) rfl (hb hby d1_35)
  have pre41 : Rch p.tables e below (s₁.setTop (entryFrame m #[(.ref a)] 2)) (T41.setTop (mkF m 38 #[.val (.ref a), .val (.ref r)] [(.ref w), (.int (4 : Int32)), (.ref r), (.int (0 : Int32)), (.ref w)])) := fun tgt ktg => pre40 tgt (st41 tgt ktg)
  obtain ⟨cl_42, Ar_42, q_42, S_42, N_42, H_42, G_42⟩ := id f31
  have pre43 : Rch p.tables e below (s₁.setTop (entryFrame m #[(.ref a)] 2)) (T41.setTop (mkF m 39 #[.val (.ref a), .val (.ref r)] [(.int (2 : Int32)), (.int (4 : Int32)), (.ref r), (.int (0 : Int32)), (.ref w)])) := fun tgt ktg => pre41 tgt (X41.arraylength hx (by rw [e41]; exact Ar_42.1) (State.isArrayOf_alike hZ.alike Ar_42.2.1) (g := (mkF m 38 #[.val (.ref a), .val (.ref r)] [(.ref w), (.int (4 : Int32)), (.ref r), (.int (0 : Int32)), (.ref w)])) rfl rfl (hb hby d1_38) _ (by rw [len_of S_42 N_42]; exact ktg))
  obtain ⟨T44, h44, L44, X44, e44, N44, Kq44, V44, st44⟩ := cpA X41 hx hZ hown (hw _ (List.mem_of_getElem? (i := 7) rfl)) (hw _ (List.mem_of_getElem? (i := 10) rfl)) (hw _ (List.mem_of_getElem? (i := 8) rfl)) (hw _ (List.mem_of_getElem? (i := 9) rfl)) e41 f31 f35 (Or.inl ⟨rfl, rfl⟩) (by decide) (by decide) (by decide) (by decide) (by decide) (us := [(.int (28 : Int32)), (.int (13 : Int32))]) rfl (Nat.le_of_ble_eq_true rfl) (n0 := n0) N29 g_r (g := (mkF m 39 #[.val (.ref a), .val (.ref r)] [(.int (2 : Int32)), (.int (4 : Int32)), (.ref r), (.int (0 : Int32)), (.ref w)])) rfl (by rw [hml]; rfl) (rest := []) rfl (hb hby d1_39) (by decide) (W := 0) (by show 2 * 0 + _ ≤ _; exact Nat.le_of_eq rfl) (by decide)
  have pre44 : Rch p.tables e below (s₁.setTop (entryFrame m #[(.ref a)] 2)) (T44.setTop (mkF m 42 #[.val (.ref a), .val (.ref r)] [])) := fun tgt ktg => pre43 tgt (st44 tgt ktg)
  have f45 : Sta Z h44 "Mllp" "END" "[B" (.ref w) := own_sta_keep f30 Kq44 (nsS f35.nostat ns0)
  have f46 : Arv Z h44 w kw .byte (2 : Int32) [(.int (28 : Int32)), (.int (13 : Int32))] (.int (0 : Int32)) := f31.keep Kq44 (ninS ne_w_r nin0)
  have f47 : Arv Z h44 a ka .byte (3 : Int32) [(.int v0), (.int v1), (.int v2)] (.int (0 : Int32)) := f32.keep Kq44 (ninS ne_a_r nin0)
  have z48 : n0 ≤ h44.size := Nat.le_trans z33 Kq44.1
  have K49 : Keep h0 h44 [] := K34.trans Kq44 (allS (P := fun x => x ∈ ([] : List Addr) ∨ h0.size ≤ x) (Or.inr sz_r) (all0 (P := fun x => x ∈ ([] : List Addr) ∨ h0.size ≤ x)))
  have f50 : Arv Z h44 r k9 .byte (6 : Int32) [(.int (11 : Int32)), (.int v0), (.int v1), (.int v2), (.int (28 : Int32)), (.int (13 : Int32))] (.int (0 : Int32)) := V44
  have pre51 : Rch p.tables e below (s₁.setTop (entryFrame m #[(.ref a)] 2)) (T44.setTop (mkF m 43 #[.val (.ref a), .val (.ref r)] [(.ref r)])) := fun tgt ktg => pre44 tgt (by
    show Steps p.tables e below (T44.setTop (mkF m 42 #[.val (.ref a), .val (.ref r)] [])) _
    refine XS.aloadN X44.here hx rfl (hb hby d1_42) rfl rfl ?_
    exact ktg)
  obtain ⟨fs, hr, hrun, hended, hW, hsame⟩ := X44.leave (v := some (.ref r)) (fun h => by rw [Bd.returns] at h; cases h)
  refine ⟨_, _, pre51 _ ?_, hrun, hended, _, _, rfl, ?_, ⟨_, rfl⟩, hW, hsame.mono (by decide) (by decide)⟩
  · show Steps p.tables e below (T44.setTop (mkF m 43 #[.val (.ref a), .val (.ref r)] [(.ref r)])) _
    jvm_step X44.here [X44.here.top, hx, (hb hby d1_43), X44.method', Bd.returns, Value.isRef, FieldType.isReference]
    first | (intro acts; rw [hr _ acts rfl rfl rfl]) | rw [hr _ _ rfl rfl rfl]
    exact Steps.refl _
  · show Qf3 Z a v0 v1 v2 w ka kw h0 n0 _ T44.heap _
    rw [e44]
    exact ⟨r, k9, rfl, N44, K49, sz_r, f50⟩
theorem pd_0 : parseMethodDescriptor "([B)[B" = some ⟨[(.array .byte)], some (.array .byte)⟩ := by decide +kernel
theorem pn_1 : plainName "MllpFramePinLaw" = true := by first | (simp [plainName, overriddenIn]; done) | decide +kernel
theorem ef_0 (m : MethodId) (x0 : Int32) (x1 : Int32) (x2 : Int32) (x3 : Int32) : entryFrame m #[(.int x0), (.int x1), (.int x2), (.int x3)] maxLocals = mkF m 0 #[.val (.int x0), .val (.int x1), .val (.int x2), .val (.int x3), .unset, .unset, .unset, .unset] [] := by first | (simp [entryFrame, mkF, argsToLocals, Value.category, maxLocals]; done) | rfl
def Q0 (Z : State) (p0 : Int32) (p1 : Int32) (p2 : Int32) (p3 : Int32) (h0 : Heap) (n0 : Nat) (v : Option Value) (h : Heap) (L : List Loc) : Prop := v = some (.int 1) ∧ Fr n0 L
set_option maxRecDepth 65536 in
set_option maxHeartbeats 40000000 in
theorem rm0 (l : Launch) (Z : State) (a0 : Array Value) (hw : ∀ d ∈ tables_1, d.before a0 Z = true) (ws : List Jvm.Cond) (p0 : Int32) (p1 : Int32) (p2 : Int32) (p3 : Int32) (h0 : Heap) (n0 : Nat) (Z0 : n0 ≤ h0.size) (w : Addr) (kw : ClassId) (S1 : Sta Z h0 "Mllp" "END" "[B" (.ref w)) (AE : Arv Z h0 w kw .byte (2 : Int32) [(.int (28 : Int32)), (.int (13 : Int32))] (.int (0 : Int32))) :
    MetFree l x (head1 (Jvm.Cond.code x code maxLocals ret :: ws) room_1) (fun aA U => aA = #[(.int p0), (.int p1), (.int p2), (.int p3)] ∧ Z.Warmed39 U.vm ∧ U.heap = h0) (fun _ _ _ _ _ => True) (fun _ U oO U' => ∃ vV LL, oO = .returned vV ∧ Q0 Z p0 p1 p2 p3 h0 n0 vV U'.heap LL ∧ FrameEnd U oO U' LL room_1.cells room_1.slots) := by
  refine MetFree.of_bodySF (plainFor_of_name pn_1) hisR ?_
  intro p e s m args below meth c s₁ Bd hml0 hP hK
  obtain ⟨rfl, hZ, hh⟩ := hP
  have hx := Bd.exec
  have hby := Bd.bytes
  have hml : c.maxLocals = 8 := hml0
  have hown : s.vm.findClass "MllpFramePinLaw" = some m.cls := findClass_of_methodNamed Bd.named
  have hnm := (name_of_methodNamed Bd.named Bd.method).1
  have X0 : Stand p l e room_1 s m #[(.int p0), (.int p1), (.int p2), (.int p3)] below meth c s₁ [] 0 0 := Stand.of_body Bd
  have e0 : s₁.heap = h0 := by rw [← hh, Bd.state]; rfl
  have N0 := Fr.nil n0
  have K0 : Keep h0 h0 [] := Keep.refl _ _
  have pre0 : Rch p.tables e below (s₁.setTop (entryFrame m #[(.int p0), (.int p1), (.int p2), (.int p3)] maxLocals)) (s₁.setTop (mkF m 0 #[.val (.int p0), .val (.int p1), .val (.int p2), .val (.int p3), .unset, .unset, .unset, .unset] [])) := fun tgt ktg => castTop (ef_0 m p0 p1 p2 p3) ktg
  have pre1 : Rch p.tables e below (s₁.setTop (entryFrame m #[(.int p0), (.int p1), (.int p2), (.int p3)] maxLocals)) (s₁.setTop (mkF m 3 #[.val (.int p0), .val (.int p1), .val (.int p2), .val (.int p3), .unset, .unset, .unset, .unset] [(.int (p0 &&& (3 : Int32)))])) := fun tgt ktg => pre0 tgt (by
    show Steps p.tables e below (s₁.setTop (mkF m 0 #[.val (.int p0), .val (.int p1), .val (.int p2), .val (.int p3), .unset, .unset, .unset, .unset] [])) _
    refine XS.iloadN X0.here hx rfl (hb hby at_0) rfl ?_
    show Steps p.tables e below (s₁.setTop (mkF m 1 #[.val (.int p0), .val (.int p1), .val (.int p2), .val (.int p3), .unset, .unset, .unset, .unset] [(.int p0)])) _
    refine XS.iconst X0.here hx rfl (hb hby at_1) ?_
    show Steps p.tables e below (s₁.setTop (mkF m 2 #[.val (.int p0), .val (.int p1), .val (.int p2), .val (.int p3), .unset, .unset, .unset, .unset] [(.int (3 : Int32)), (.int p0)])) _
    refine XS.iand X0.here hx rfl (hb hby at_2) rfl ?_
    exact ktg)
  obtain ⟨nn, hv_nn⟩ : ∃ nm_ : Int32, nm_ = (p0 &&& (3 : Int32)) := ⟨_, rfl⟩
  have pre2 : Rch p.tables e below (s₁.setTop (entryFrame m #[(.int p0), (.int p1), (.int p2), (.int p3)] maxLocals)) (s₁.setTop (mkF m 3 #[.val (.int p0), .val (.int p1), .val (.int p2), .val (.int p3), .unset, .unset, .unset, .unset] [(.int nn)])) := fun tgt ktg => pre1 tgt (by rw [hv_nn] at ktg; exact ktg)
  have pre3 : Rch p.tables e below (s₁.setTop (entryFrame m #[(.int p0), (.int p1), (.int p2), (.int p3)] maxLocals)) (s₁.setTop (mkF m 7 #[.val (.int p0), .val (.int p1), .val (.int p2), .val (.int p3), .val (.int nn), .unset, .unset, .unset] [(.int nn)])) := fun tgt ktg => pre2 tgt (by
    show Steps p.tables e below (s₁.setTop (mkF m 3 #[.val (.int p0), .val (.int p1), .val (.int p2), .val (.int p3), .unset, .unset, .unset, .unset] [(.int nn)])) _
    refine XS.istore X0.here hx rfl (hb hby at_3) rfl (l' := #[.val (.int p0), .val (.int p1), .val (.int p2), .val (.int p3), .val (.int nn), .unset, .unset, .unset]) rfl ?_
    show Steps p.tables e below (s₁.setTop (mkF m 5 #[.val (.int p0), .val (.int p1), .val (.int p2), .val (.int p3), .val (.int nn), .unset, .unset, .unset] [])) _
    refine XS.iload X0.here hx rfl (hb hby at_5) rfl ?_
    exact ktg)
  rcases own_n3 hv_nn with hn | hn | hn | hn
  · skip
    subst hn
    obtain ⟨T4, h4, k4, X4, e4, E4, A4, st4⟩ := newP X0 hx hZ (hw _ (List.mem_of_getElem? (i := 0) rfl)) e0 (g := (mkF m 7 #[.val (.int p0), .val (.int p1), .val (.int p2), .val (.int p3), .val (.int (0 : Int32)), .unset, .unset, .unset] [(.int (0 : Int32))])) rfl (hb hby at_7) rfl (by decide) (cap := 0) (by decide) (by decide) (by decide) (by decide)
    obtain ⟨a, g4⟩ : ∃ nm_, nm_ = h0.size := ⟨_, rfl⟩
    rw [← g4] at A4 st4
    have ne_w_a : w ≠ a := Nat.ne_of_lt (Nat.lt_of_lt_of_le AE.lt (Nat.le_of_eq g4.symm))
    have g_a : n0 ≤ a := Nat.le_trans Z0 (Nat.le_of_eq g4.symm)
    have sz_a : h0.size ≤ a := Nat.le_trans K0.1 (Nat.le_of_eq g4.symm)
    have pre4 : Rch p.tables e below (s₁.setTop (entryFrame m #[(.int p0), (.int p1), (.int p2), (.int p3)] maxLocals)) (T4.setTop (mkF m 9 #[.val (.int p0), .val (.int p1), .val (.int p2), .val (.int p3), .val (.int (0 : Int32)), .unset, .unset, .unset] [(.ref a)])) := fun tgt ktg => pre3 tgt (st4 tgt ktg)
    have f5 : Sta Z h4 "Mllp" "END" "[B" (.ref w) := S1.ext E4
    have f6 : Arv Z h4 w kw .byte (2 : Int32) [(.int (28 : Int32)), (.int (13 : Int32))] (.int (0 : Int32)) := AE.ext E4
    have z7 : n0 ≤ h4.size := Nat.le_trans Z0 E4.1
    have K8 : Keep h0 h4 [] := K0.ext E4
    have f9 : Arv Z h4 a k4 .byte (0 : Int32) [] (.int (0 : Int32)) := (Arv.new A4 (by decide)).pad (pad_rep [] (.int (0 : Int32)) 0)
    have pre10 : Rch p.tables e below (s₁.setTop (entryFrame m #[(.int p0), (.int p1), (.int p2), (.int p3)] maxLocals)) (T4.setTop (mkF m 48 #[.val (.int p0), .val (.int p1), .val (.int p2), .val (.int p3), .val (.int (0 : Int32)), .val (.ref a), .unset, .unset] [(.ref a)])) := fun tgt ktg => pre4 tgt (by
      show Steps p.tables e below (T4.setTop (mkF m 9 #[.val (.int p0), .val (.int p1), .val (.int p2), .val (.int p3), .val (.int (0 : Int32)), .unset, .unset, .unset] [(.ref a)])) _
      refine XS.astore X4.here hx rfl (hb hby at_9) rfl rfl (l' := #[.val (.int p0), .val (.int p1), .val (.int p2), .val (.int p3), .val (.int (0 : Int32)), .val (.ref a), .unset, .unset]) rfl ?_
      show Steps p.tables e below (T4.setTop (mkF m 11 #[.val (.int p0), .val (.int p1), .val (.int p2), .val (.int p3), .val (.int (0 : Int32)), .val (.ref a), .unset, .unset] [])) _
      refine XS.iload X4.here hx rfl (hb hby at_11) rfl ?_
      show Steps p.tables e below (T4.setTop (mkF m 13 #[.val (.int p0), .val (.int p1), .val (.int p2), .val (.int p3), .val (.int (0 : Int32)), .val (.ref a), .unset, .unset] [(.int (0 : Int32))])) _
      refine XS.ifYes X4.here hx rfl (pc0 := 13) (pc' := 22) rfl (hb hby at_13) rfl ((if0 _ _).trans (flt (by decide : ¬ ((0 : Int32) < (0 : Int32)))).2.2.2) (by decide) (by decide) ?_
      show Steps p.tables e below (T4.setTop (mkF m 22 #[.val (.int p0), .val (.int p1), .val (.int p2), .val (.int p3), .val (.int (0 : Int32)), .val (.ref a), .unset, .unset] [])) _
      refine XS.iload X4.here hx rfl (hb hby at_22) rfl ?_
      show Steps p.tables e below (T4.setTop (mkF m 24 #[.val (.int p0), .val (.int p1), .val (.int p2), .val (.int p3), .val (.int (0 : Int32)), .val (.ref a), .unset, .unset] [(.int (0 : Int32))])) _
      refine XS.iconst X4.here hx rfl (hb hby at_24) ?_
      show Steps p.tables e below (T4.setTop (mkF m 25 #[.val (.int p0), .val (.int p1), .val (.int p2), .val (.int p3), .val (.int (0 : Int32)), .val (.ref a), .unset, .unset] [(.int (1 : Int32)), (.int (0 : Int32))])) _
      refine XS.icmpYes X4.here hx rfl (pc0 := 25) (pc' := 34) rfl (hb hby at_25) rfl (flt (by decide : ¬ ((1 : Int32) < (0 : Int32)))).2.2.2 (by decide) (by decide) ?_
      show Steps p.tables e below (T4.setTop (mkF m 34 #[.val (.int p0), .val (.int p1), .val (.int p2), .val (.int p3), .val (.int (0 : Int32)), .val (.ref a), .unset, .unset] [])) _
      refine XS.iload X4.here hx rfl (hb hby at_34) rfl ?_
      show Steps p.tables e below (T4.setTop (mkF m 36 #[.val (.int p0), .val (.int p1), .val (.int p2), .val (.int p3), .val (.int (0 : Int32)), .val (.ref a), .unset, .unset] [(.int (0 : Int32))])) _
      refine XS.iconst X4.here hx rfl (hb hby at_36) ?_
      show Steps p.tables e below (T4.setTop (mkF m 37 #[.val (.int p0), .val (.int p1), .val (.int p2), .val (.int p3), .val (.int (0 : Int32)), .val (.ref a), .unset, .unset] [(.int (2 : Int32)), (.int (0 : Int32))])) _
      refine XS.icmpYes X4.here hx rfl (pc0 := 37) (pc' := 46) rfl (hb hby at_37) rfl (flt (by decide : ¬ ((2 : Int32) < (0 : Int32)))).2.2.2 (by decide) (by decide) ?_
      show Steps p.tables e below (T4.setTop (mkF m 46 #[.val (.int p0), .val (.int p1), .val (.int p2), .val (.int p3), .val (.int (0 : Int32)), .val (.ref a), .unset, .unset] [])) _
      refine XS.aload X4.here hx rfl (hb hby at_46) rfl rfl ?_
      exact ktg)
    obtain ⟨_, _, ⟨T11, L11, k11, n11⟩, -, X11, ⟨Lc11, hQ11, l11, y11, z11⟩, st11⟩ := Jvm.LawKit.callS X4 hx (y := (⟨"Mllp", "frame", "([B)[B"⟩ : MethodName)) hown (mvT hZ (hw _ (List.mem_of_getElem? (i := 1) rfl))) (mvT hZ (hw _ (List.mem_of_getElem? (i := 2) rfl))) (mvT hZ (hw _ (List.mem_of_getElem? (i := 3) rfl))) (mvT hZ (hw _ (List.mem_of_getElem? (i := 4) rfl))) (by decide) (backOf (W := 0) (rmf0 l Z a0 hw [] a w k4 kw h4 n0 z7 f5 f6 f9 (Ne.symm ne_w_a)) hZ (hw _ (List.mem_of_getElem? (i := 4) rfl)) (hw _ (List.mem_of_getElem? (i := 3) rfl)) (by decide) (by decide)) (g := (mkF m 48 #[.val (.int p0), .val (.int p1), .val (.int p2), .val (.int p3), .val (.int (0 : Int32)), .val (.ref a), .unset, .unset] [(.ref a)])) rfl (by rw [hml]; rfl) (argsL := [(.ref a)]) (rest := []) (lenOf pd_0 rfl) rfl (by show 2 * 0 + _ ≤ _; exact Nat.le_of_eq rfl) (hb hby at_48) (fun _ _ => ⟨rfl, e4, (by decide : 1 + 1 ≤ _), (by decide : 0 + 3 ≤ _)⟩)
    dsimp only [Pt.U, Pt.locs, Pt.cells, Pt.slots] at X11 l11 y11 z11 st11 hQ11
    subst l11 y11 z11
    obtain ⟨r, kr, rfl, Nq11, Kq11, gr, ar⟩ := hQ11
    have N12 := Fr.app N0 Nq11
    have pre11 : Rch p.tables e below (s₁.setTop (entryFrame m #[(.int p0), (.int p1), (.int p2), (.int p3)] maxLocals)) (T11.setTop (mkF m 51 #[.val (.int p0), .val (.int p1), .val (.int p2), .val (.int p3), .val (.int (0 : Int32)), .val (.ref a), .unset, .unset] [(.ref r)])) := fun tgt ktg => pre10 tgt (st11 tgt ktg)
    have f13 : Sta Z T11.heap "Mllp" "END" "[B" (.ref w) := own_sta_keep f5 Kq11 ns0
    have f14 : Arv Z T11.heap w kw .byte (2 : Int32) [(.int (28 : Int32)), (.int (13 : Int32))] (.int (0 : Int32)) := f6.keep Kq11 nin0
    have f15 : Arv Z T11.heap a k4 .byte (0 : Int32) [] (.int (0 : Int32)) := f9.keep Kq11 nin0
    have z16 : n0 ≤ T11.heap.size := Nat.le_trans z7 Kq11.1
    have K17 : Keep h0 T11.heap [] := K8.trans Kq11 (all0 (P := fun x => x ∈ ([] : List Addr) ∨ h0.size ≤ x))
    have pre18 : Rch p.tables e below (s₁.setTop (entryFrame m #[(.int p0), (.int p1), (.int p2), (.int p3)] maxLocals)) (T11.setTop (mkF m 60 #[.val (.int p0), .val (.int p1), .val (.int p2), .val (.int p3), .val (.int (0 : Int32)), .val (.ref a), .val (.ref r), .unset] [(.ref r)])) := fun tgt ktg => pre11 tgt (by
      show Steps p.tables e below (T11.setTop (mkF m 51 #[.val (.int p0), .val (.int p1), .val (.int p2), .val (.int p3), .val (.int (0 : Int32)), .val (.ref a), .unset, .unset] [(.ref r)])) _
      refine XS.astore X11.here hx rfl (hb hby at_51) rfl rfl (l' := #[.val (.int p0), .val (.int p1), .val (.int p2), .val (.int p3), .val (.int (0 : Int32)), .val (.ref a), .val (.ref r), .unset]) rfl ?_
      show Steps p.tables e below (T11.setTop (mkF m 53 #[.val (.int p0), .val (.int p1), .val (.int p2), .val (.int p3), .val (.int (0 : Int32)), .val (.ref a), .val (.ref r), .unset] [])) _
      refine XS.aload X11.here hx rfl (hb hby at_53) rfl rfl ?_
      show Steps p.tables e below (T11.setTop (mkF m 55 #[.val (.int p0), .val (.int p1), .val (.int p2), .val (.int p3), .val (.int (0 : Int32)), .val (.ref a), .val (.ref r), .unset] [(.ref r)])) _
      refine XS.ifnullNo X11.here hx rfl (hb hby at_55) rfl ?_
      show Steps p.tables e below (T11.setTop (mkF m 58 #[.val (.int p0), .val (.int p1), .val (.int p2), .val (.int p3), .val (.int (0 : Int32)), .val (.ref a), .val (.ref r), .unset] [])) _
      refine XS.aload X11.here hx rfl (hb hby at_58) rfl rfl ?_
      exact ktg)
    obtain ⟨cl_19, Ar_19, q_19, S_19, N_19, H_19, G_19⟩ := id ar
    have pre20 : Rch p.tables e below (s₁.setTop (entryFrame m #[(.int p0), (.int p1), (.int p2), (.int p3)] maxLocals)) (T11.setTop (mkF m 61 #[.val (.int p0), .val (.int p1), .val (.int p2), .val (.int p3), .val (.int (0 : Int32)), .val (.ref a), .val (.ref r), .unset] [(.int (3 : Int32))])) := fun tgt ktg => pre18 tgt (X11.arraylength hx Ar_19.1 (State.isArrayOf_alike hZ.alike Ar_19.2.1) (g := (mkF m 60 #[.val (.int p0), .val (.int p1), .val (.int p2), .val (.int p3), .val (.int (0 : Int32)), .val (.ref a), .val (.ref r), .unset] [(.ref r)])) rfl rfl (hb hby at_60) _ (by rw [len_of S_19 N_19]; exact ktg))
    have pre21 : Rch p.tables e below (s₁.setTop (entryFrame m #[(.int p0), (.int p1), (.int p2), (.int p3)] maxLocals)) (T11.setTop (mkF m 73 #[.val (.int p0), .val (.int p1), .val (.int p2), .val (.int p3), .val (.int (0 : Int32)), .val (.ref a), .val (.ref r), .unset] [(.int (0 : Int32)), (.ref r)])) := fun tgt ktg => pre20 tgt (by
      show Steps p.tables e below (T11.setTop (mkF m 61 #[.val (.int p0), .val (.int p1), .val (.int p2), .val (.int p3), .val (.int (0 : Int32)), .val (.ref a), .val (.ref r), .unset] [(.int (3 : Int32))])) _
      refine XS.iload X11.here hx rfl (hb hby at_61) rfl ?_
      show Steps p.tables e below (T11.setTop (mkF m 63 #[.val (.int p0), .val (.int p1), .val (.int p2), .val (.int p3), .val (.int (0 : Int32)), .val (.ref a), .val (.ref r), .unset] [(.int (0 : Int32)), (.int (3 : Int32))])) _
      refine XS.iconst X11.here hx rfl (hb hby at_63) ?_
      show Steps p.tables e below (T11.setTop (mkF m 64 #[.val (.int p0), .val (.int p1), .val (.int p2), .val (.int p3), .val (.int (0 : Int32)), .val (.ref a), .val (.ref r), .unset] [(.int (3 : Int32)), (.int (0 : Int32)), (.int (3 : Int32))])) _
      refine XS.iadd X11.here hx rfl (hb hby at_64) rfl ?_
      show Steps p.tables e below (T11.setTop (mkF m 65 #[.val (.int p0), .val (.int p1), .val (.int p2), .val (.int p3), .val (.int (0 : Int32)), .val (.ref a), .val (.ref r), .unset] [(.int (3 : Int32)), (.int (3 : Int32))])) _
      refine XS.icmpYes X11.here hx rfl (pc0 := 65) (pc' := 70) rfl (hb hby at_65) rfl (teq (rfl : (3 : Int32) = (3 : Int32))).1 (by decide) (by decide) ?_
      show Steps p.tables e below (T11.setTop (mkF m 70 #[.val (.int p0), .val (.int p1), .val (.int p2), .val (.int p3), .val (.int (0 : Int32)), .val (.ref a), .val (.ref r), .unset] [])) _
      refine XS.aload X11.here hx rfl (hb hby at_70) rfl rfl ?_
      show Steps p.tables e below (T11.setTop (mkF m 72 #[.val (.int p0), .val (.int p1), .val (.int p2), .val (.int p3), .val (.int (0 : Int32)), .val (.ref a), .val (.ref r), .unset] [(.ref r)])) _
      refine XS.iconst X11.here hx rfl (hb hby at_72) ?_
      exact ktg)
    obtain ⟨cl_22, Ar_22, q_22, S_22, N_22, H_22, G_22⟩ := id ar
    have hin_22 : ¬ ((0 : Int32) < 0 ∨ cl_22.slots.size ≤ ((0 : Int32)).toNatClampNeg) := inb_of S_22 ⟨by decide, by decide⟩
    have hat_22 : cl_22.slots[((0 : Int32)).toNatClampNeg]? = some (.int (11 : Int32)) := H_22.at hin_22 rfl
    have pre23 : Rch p.tables e below (s₁.setTop (entryFrame m #[(.int p0), (.int p1), (.int p2), (.int p3)] maxLocals)) (T11.setTop (mkF m 74 #[.val (.int p0), .val (.int p1), .val (.int p2), .val (.int p3), .val (.int (0 : Int32)), .val (.ref a), .val (.ref r), .unset] [(.int (11 : Int32))])) := fun tgt ktg => pre21 tgt (X11.baloadBytes hx (j := (0 : Int32)) (v := (.int (11 : Int32))) Ar_22.1 (State.isArrayOf_alike hZ.alike Ar_22.2.1) Ar_22.2.2 hin_22 hat_22 (g := (mkF m 73 #[.val (.int p0), .val (.int p1), .val (.int p2), .val (.int p3), .val (.int (0 : Int32)), .val (.ref a), .val (.ref r), .unset] [(.int (0 : Int32)), (.ref r)])) rfl rfl (hb hby at_73) _ ktg)
    have pre24 : Rch p.tables e below (s₁.setTop (entryFrame m #[(.int p0), (.int p1), (.int p2), (.int p3)] maxLocals)) (T11.setTop (mkF m 85 #[.val (.int p0), .val (.int p1), .val (.int p2), .val (.int p3), .val (.int (0 : Int32)), .val (.ref a), .val (.ref r), .unset] [(.int (1 : Int32)), (.ref r)])) := fun tgt ktg => pre23 tgt (by
      show Steps p.tables e below (T11.setTop (mkF m 74 #[.val (.int p0), .val (.int p1), .val (.int p2), .val (.int p3), .val (.int (0 : Int32)), .val (.ref a), .val (.ref r), .unset] [(.int (11 : Int32))])) _
      refine XS.bipush X11.here hx rfl (hb hby at_74) ?_
      show Steps p.tables e below (T11.setTop (mkF m 76 #[.val (.int p0), .val (.int p1), .val (.int p2), .val (.int p3), .val (.int (0 : Int32)), .val (.ref a), .val (.ref r), .unset] [(.int (11 : Int32)), (.int (11 : Int32))])) _
      refine XS.icmpNo X11.here hx rfl (hb hby at_76) rfl (teq (rfl : (11 : Int32) = (11 : Int32))).2 ?_
      show Steps p.tables e below (T11.setTop (mkF m 79 #[.val (.int p0), .val (.int p1), .val (.int p2), .val (.int p3), .val (.int (0 : Int32)), .val (.ref a), .val (.ref r), .unset] [])) _
      refine XS.aload X11.here hx rfl (hb hby at_79) rfl rfl ?_
      show Steps p.tables e below (T11.setTop (mkF m 81 #[.val (.int p0), .val (.int p1), .val (.int p2), .val (.int p3), .val (.int (0 : Int32)), .val (.ref a), .val (.ref r), .unset] [(.ref r)])) _
      refine XS.iload X11.here hx rfl (hb hby at_81) rfl ?_
      show Steps p.tables e below (T11.setTop (mkF m 83 #[.val (.int p0), .val (.int p1), .val (.int p2), .val (.int p3), .val (.int (0 : Int32)), .val (.ref a), .val (.ref r), .unset] [(.int (0 : Int32)), (.ref r)])) _
      refine XS.iconst X11.here hx rfl (hb hby at_83) ?_
      show Steps p.tables e below (T11.setTop (mkF m 84 #[.val (.int p0), .val (.int p1), .val (.int p2), .val (.int p3), .val (.int (0 : Int32)), .val (.ref a), .val (.ref r), .unset] [(.int (1 : Int32)), (.int (0 : Int32)), (.ref r)])) _
      refine XS.iadd X11.here hx rfl (hb hby at_84) rfl ?_
      exact ktg)
    obtain ⟨cl_25, Ar_25, q_25, S_25, N_25, H_25, G_25⟩ := id ar
    have hin_25 : ¬ ((1 : Int32) < 0 ∨ cl_25.slots.size ≤ ((1 : Int32)).toNatClampNeg) := inb_of S_25 ⟨by decide, by decide⟩
    have hat_25 : cl_25.slots[((1 : Int32)).toNatClampNeg]? = some (.int (28 : Int32)) := H_25.at hin_25 rfl
    have pre26 : Rch p.tables e below (s₁.setTop (entryFrame m #[(.int p0), (.int p1), (.int p2), (.int p3)] maxLocals)) (T11.setTop (mkF m 86 #[.val (.int p0), .val (.int p1), .val (.int p2), .val (.int p3), .val (.int (0 : Int32)), .val (.ref a), .val (.ref r), .unset] [(.int (28 : Int32))])) := fun tgt ktg => pre24 tgt (X11.baloadBytes hx (j := (1 : Int32)) (v := (.int (28 : Int32))) Ar_25.1 (State.isArrayOf_alike hZ.alike Ar_25.2.1) Ar_25.2.2 hin_25 hat_25 (g := (mkF m 85 #[.val (.int p0), .val (.int p1), .val (.int p2), .val (.int p3), .val (.int (0 : Int32)), .val (.ref a), .val (.ref r), .unset] [(.int (1 : Int32)), (.ref r)])) rfl rfl (hb hby at_85) _ ktg)
    have pre27 : Rch p.tables e below (s₁.setTop (entryFrame m #[(.int p0), (.int p1), (.int p2), (.int p3)] maxLocals)) (T11.setTop (mkF m 97 #[.val (.int p0), .val (.int p1), .val (.int p2), .val (.int p3), .val (.int (0 : Int32)), .val (.ref a), .val (.ref r), .unset] [(.int (2 : Int32)), (.ref r)])) := fun tgt ktg => pre26 tgt (by
      show Steps p.tables e below (T11.setTop (mkF m 86 #[.val (.int p0), .val (.int p1), .val (.int p2), .val (.int p3), .val (.int (0 : Int32)), .val (.ref a), .val (.ref r), .unset] [(.int (28 : Int32))])) _
      refine XS.bipush X11.here hx rfl (hb hby at_86) ?_
      show Steps p.tables e below (T11.setTop (mkF m 88 #[.val (.int p0), .val (.int p1), .val (.int p2), .val (.int p3), .val (.int (0 : Int32)), .val (.ref a), .val (.ref r), .unset] [(.int (28 : Int32)), (.int (28 : Int32))])) _
      refine XS.icmpNo X11.here hx rfl (hb hby at_88) rfl (teq (rfl : (28 : Int32) = (28 : Int32))).2 ?_
      show Steps p.tables e below (T11.setTop (mkF m 91 #[.val (.int p0), .val (.int p1), .val (.int p2), .val (.int p3), .val (.int (0 : Int32)), .val (.ref a), .val (.ref r), .unset] [])) _
      refine XS.aload X11.here hx rfl (hb hby at_91) rfl rfl ?_
      show Steps p.tables e below (T11.setTop (mkF m 93 #[.val (.int p0), .val (.int p1), .val (.int p2), .val (.int p3), .val (.int (0 : Int32)), .val (.ref a), .val (.ref r), .unset] [(.ref r)])) _
      refine XS.iload X11.here hx rfl (hb hby at_93) rfl ?_
      show Steps p.tables e below (T11.setTop (mkF m 95 #[.val (.int p0), .val (.int p1), .val (.int p2), .val (.int p3), .val (.int (0 : Int32)), .val (.ref a), .val (.ref r), .unset] [(.int (0 : Int32)), (.ref r)])) _
      refine XS.iconst X11.here hx rfl (hb hby at_95) ?_
      show Steps p.tables e below (T11.setTop (mkF m 96 #[.val (.int p0), .val (.int p1), .val (.int p2), .val (.int p3), .val (.int (0 : Int32)), .val (.ref a), .val (.ref r), .unset] [(.int (2 : Int32)), (.int (0 : Int32)), (.ref r)])) _
      refine XS.iadd X11.here hx rfl (hb hby at_96) rfl ?_
      exact ktg)
    obtain ⟨cl_28, Ar_28, q_28, S_28, N_28, H_28, G_28⟩ := id ar
    have hin_28 : ¬ ((2 : Int32) < 0 ∨ cl_28.slots.size ≤ ((2 : Int32)).toNatClampNeg) := inb_of S_28 ⟨by decide, by decide⟩
    have hat_28 : cl_28.slots[((2 : Int32)).toNatClampNeg]? = some (.int (13 : Int32)) := H_28.at hin_28 rfl
    have pre29 : Rch p.tables e below (s₁.setTop (entryFrame m #[(.int p0), (.int p1), (.int p2), (.int p3)] maxLocals)) (T11.setTop (mkF m 98 #[.val (.int p0), .val (.int p1), .val (.int p2), .val (.int p3), .val (.int (0 : Int32)), .val (.ref a), .val (.ref r), .unset] [(.int (13 : Int32))])) := fun tgt ktg => pre27 tgt (X11.baloadBytes hx (j := (2 : Int32)) (v := (.int (13 : Int32))) Ar_28.1 (State.isArrayOf_alike hZ.alike Ar_28.2.1) Ar_28.2.2 hin_28 hat_28 (g := (mkF m 97 #[.val (.int p0), .val (.int p1), .val (.int p2), .val (.int p3), .val (.int (0 : Int32)), .val (.ref a), .val (.ref r), .unset] [(.int (2 : Int32)), (.ref r)])) rfl rfl (hb hby at_97) _ ktg)
    have pre30 : Rch p.tables e below (s₁.setTop (entryFrame m #[(.int p0), (.int p1), (.int p2), (.int p3)] maxLocals)) (T11.setTop (mkF m 112 #[.val (.int p0), .val (.int p1), .val (.int p2), .val (.int p3), .val (.int (0 : Int32)), .val (.ref a), .val (.ref r), .val (.int (1 : Int32))] [(.int (0 : Int32))])) := fun tgt ktg => pre29 tgt (by
      show Steps p.tables e below (T11.setTop (mkF m 98 #[.val (.int p0), .val (.int p1), .val (.int p2), .val (.int p3), .val (.int (0 : Int32)), .val (.ref a), .val (.ref r), .unset] [(.int (13 : Int32))])) _
      refine XS.bipush X11.here hx rfl (hb hby at_98) ?_
      show Steps p.tables e below (T11.setTop (mkF m 100 #[.val (.int p0), .val (.int p1), .val (.int p2), .val (.int p3), .val (.int (0 : Int32)), .val (.ref a), .val (.ref r), .unset] [(.int (13 : Int32)), (.int (13 : Int32))])) _
      refine XS.icmpNo X11.here hx rfl (hb hby at_100) rfl (teq (rfl : (13 : Int32) = (13 : Int32))).2 ?_
      show Steps p.tables e below (T11.setTop (mkF m 103 #[.val (.int p0), .val (.int p1), .val (.int p2), .val (.int p3), .val (.int (0 : Int32)), .val (.ref a), .val (.ref r), .unset] [])) _
      refine XS.iconst X11.here hx rfl (hb hby at_103) ?_
      show Steps p.tables e below (T11.setTop (mkF m 104 #[.val (.int p0), .val (.int p1), .val (.int p2), .val (.int p3), .val (.int (0 : Int32)), .val (.ref a), .val (.ref r), .unset] [(.int (1 : Int32))])) _
      refine XS.goto X11.here hx rfl (pc0 := 104) (pc' := 108) rfl (hb hby at_104) (by decide) (by decide) ?_
      show Steps p.tables e below (T11.setTop (mkF m 108 #[.val (.int p0), .val (.int p1), .val (.int p2), .val (.int p3), .val (.int (0 : Int32)), .val (.ref a), .val (.ref r), .unset] [(.int (1 : Int32))])) _
      refine XS.istore X11.here hx rfl (hb hby at_108) rfl (l' := #[.val (.int p0), .val (.int p1), .val (.int p2), .val (.int p3), .val (.int (0 : Int32)), .val (.ref a), .val (.ref r), .val (.int (1 : Int32))]) rfl ?_
      show Steps p.tables e below (T11.setTop (mkF m 110 #[.val (.int p0), .val (.int p1), .val (.int p2), .val (.int p3), .val (.int (0 : Int32)), .val (.ref a), .val (.ref r), .val (.int (1 : Int32))] [])) _
      refine XS.iload X11.here hx rfl (hb hby at_110) rfl ?_
      exact ktg)
    have pre31 : Rch p.tables e below (s₁.setTop (entryFrame m #[(.int p0), (.int p1), (.int p2), (.int p3)] maxLocals)) (T11.setTop (mkF m 219 #[.val (.int p0), .val (.int p1), .val (.int p2), .val (.int p3), .val (.int (0 : Int32)), .val (.ref a), .val (.ref r), .val (.int (1 : Int32))] [(.int (1 : Int32))])) := fun tgt ktg => pre30 tgt (by
      show Steps p.tables e below (T11.setTop (mkF m 112 #[.val (.int p0), .val (.int p1), .val (.int p2), .val (.int p3), .val (.int (0 : Int32)), .val (.ref a), .val (.ref r), .val (.int (1 : Int32))] [(.int (0 : Int32))])) _
      refine XS.ifYes X11.here hx rfl (pc0 := 112) (pc' := 145) rfl (hb hby at_112) rfl ((if0 _ _).trans (flt (by decide : ¬ ((0 : Int32) < (0 : Int32)))).2.2.2) (by decide) (by decide) ?_
      show Steps p.tables e below (T11.setTop (mkF m 145 #[.val (.int p0), .val (.int p1), .val (.int p2), .val (.int p3), .val (.int (0 : Int32)), .val (.ref a), .val (.ref r), .val (.int (1 : Int32))] [])) _
      refine XS.iload X11.here hx rfl (hb hby at_145) rfl ?_
      show Steps p.tables e below (T11.setTop (mkF m 147 #[.val (.int p0), .val (.int p1), .val (.int p2), .val (.int p3), .val (.int (0 : Int32)), .val (.ref a), .val (.ref r), .val (.int (1 : Int32))] [(.int (0 : Int32))])) _
      refine XS.iconst X11.here hx rfl (hb hby at_147) ?_
      show Steps p.tables e below (T11.setTop (mkF m 148 #[.val (.int p0), .val (.int p1), .val (.int p2), .val (.int p3), .val (.int (0 : Int32)), .val (.ref a), .val (.ref r), .val (.int (1 : Int32))] [(.int (1 : Int32)), (.int (0 : Int32))])) _
      refine XS.icmpYes X11.here hx rfl (pc0 := 148) (pc' := 181) rfl (hb hby at_148) rfl (flt (by decide : ¬ ((1 : Int32) < (0 : Int32)))).2.2.2 (by decide) (by decide) ?_
      show Steps p.tables e below (T11.setTop (mkF m 181 #[.val (.int p0), .val (.int p1), .val (.int p2), .val (.int p3), .val (.int (0 : Int32)), .val (.ref a), .val (.ref r), .val (.int (1 : Int32))] [])) _
      refine XS.iload X11.here hx rfl (hb hby at_181) rfl ?_
      show Steps p.tables e below (T11.setTop (mkF m 183 #[.val (.int p0), .val (.int p1), .val (.int p2), .val (.int p3), .val (.int (0 : Int32)), .val (.ref a), .val (.ref r), .val (.int (1 : Int32))] [(.int (0 : Int32))])) _
      refine XS.iconst X11.here hx rfl (hb hby at_183) ?_
      show Steps p.tables e below (T11.setTop (mkF m 184 #[.val (.int p0), .val (.int p1), .val (.int p2), .val (.int p3), .val (.int (0 : Int32)), .val (.ref a), .val (.ref r), .val (.int (1 : Int32))] [(.int (2 : Int32)), (.int (0 : Int32))])) _
      refine XS.icmpYes X11.here hx rfl (pc0 := 184) (pc' := 217) rfl (hb hby at_184) rfl (flt (by decide : ¬ ((2 : Int32) < (0 : Int32)))).2.2.2 (by decide) (by decide) ?_
      show Steps p.tables e below (T11.setTop (mkF m 217 #[.val (.int p0), .val (.int p1), .val (.int p2), .val (.int p3), .val (.int (0 : Int32)), .val (.ref a), .val (.ref r), .val (.int (1 : Int32))] [])) _
      refine XS.iload X11.here hx rfl (hb hby at_217) rfl ?_
      exact ktg)
    obtain ⟨fs, hr, hrun, hended, hW, hsame⟩ := X11.leave (v := some (.int (1 : Int32))) (fun h => by rw [Bd.returns] at h; cases h)
    refine ⟨_, _, pre31 _ ?_, hrun, hended, _, _, rfl, ?_, ⟨_, rfl⟩, hW, hsame.mono (by decide) (by decide)⟩
    · show Steps p.tables e below (T11.setTop (mkF m 219 #[.val (.int p0), .val (.int p1), .val (.int p2), .val (.int p3), .val (.int (0 : Int32)), .val (.ref a), .val (.ref r), .val (.int (1 : Int32))] [(.int (1 : Int32))])) _
      exact retN X11 hx (t := .boolean) Bd.returns (by simp) (hb hby at_219) hr
    · show Q0 Z p0 p1 p2 p3 h0 n0 _ T11.heap _
      exact ⟨rfl, N12⟩
  · skip
    subst hn
    obtain ⟨v0, hv0⟩ : ∃ z : Int32, z = (p1.toInt8.toInt32) := ⟨_, rfl⟩
    have na0 : nar .byte (p1.toInt8.toInt32) = v0 := by rw [hv0]; exact own_nar _
    obtain ⟨T32, h32, k32, X32, e32, E32, A32, st32⟩ := newP X0 hx hZ (hw _ (List.mem_of_getElem? (i := 0) rfl)) e0 (g := (mkF m 7 #[.val (.int p0), .val (.int p1), .val (.int p2), .val (.int p3), .val (.int (1 : Int32)), .unset, .unset, .unset] [(.int (1 : Int32))])) rfl (hb hby at_7) rfl (by decide) (cap := 1) (by decide) (by decide) (by decide) (by decide)
    obtain ⟨a, g32⟩ : ∃ nm_, nm_ = h0.size := ⟨_, rfl⟩
    rw [← g32] at A32 st32
    have ne_w_a : w ≠ a := Nat.ne_of_lt (Nat.lt_of_lt_of_le AE.lt (Nat.le_of_eq g32.symm))
    have g_a : n0 ≤ a := Nat.le_trans Z0 (Nat.le_of_eq g32.symm)
    have sz_a : h0.size ≤ a := Nat.le_trans K0.1 (Nat.le_of_eq g32.symm)
    have pre32 : Rch p.tables e below (s₁.setTop (entryFrame m #[(.int p0), (.int p1), (.int p2), (.int p3)] maxLocals)) (T32.setTop (mkF m 9 #[.val (.int p0), .val (.int p1), .val (.int p2), .val (.int p3), .val (.int (1 : Int32)), .unset, .unset, .unset] [(.ref a)])) := fun tgt ktg => pre3 tgt (st32 tgt ktg)
    have f33 : Sta Z h32 "Mllp" "END" "[B" (.ref w) := S1.ext E32
    have f34 : Arv Z h32 w kw .byte (2 : Int32) [(.int (28 : Int32)), (.int (13 : Int32))] (.int (0 : Int32)) := AE.ext E32
    have z35 : n0 ≤ h32.size := Nat.le_trans Z0 E32.1
    have K36 : Keep h0 h32 [] := K0.ext E32
    have f37 : Arv Z h32 a k32 .byte (1 : Int32) [(.int (0 : Int32))] (.int (0 : Int32)) := (Arv.new A32 (by decide)).pad (pad_rep [] (.int (0 : Int32)) 1)
    have pre38 : Rch p.tables e below (s₁.setTop (entryFrame m #[(.int p0), (.int p1), (.int p2), (.int p3)] maxLocals)) (T32.setTop (mkF m 21 #[.val (.int p0), .val (.int p1), .val (.int p2), .val (.int p3), .val (.int (1 : Int32)), .val (.ref a), .unset, .unset] [(.int (p1.toInt8.toInt32)), (.int (0 : Int32)), (.ref a)])) := fun tgt ktg => pre32 tgt (by
      show Steps p.tables e below (T32.setTop (mkF m 9 #[.val (.int p0), .val (.int p1), .val (.int p2), .val (.int p3), .val (.int (1 : Int32)), .unset, .unset, .unset] [(.ref a)])) _
      refine XS.astore X32.here hx rfl (hb hby at_9) rfl rfl (l' := #[.val (.int p0), .val (.int p1), .val (.int p2), .val (.int p3), .val (.int (1 : Int32)), .val (.ref a), .unset, .unset]) rfl ?_
      show Steps p.tables e below (T32.setTop (mkF m 11 #[.val (.int p0), .val (.int p1), .val (.int p2), .val (.int p3), .val (.int (1 : Int32)), .val (.ref a), .unset, .unset] [])) _
      refine XS.iload X32.here hx rfl (hb hby at_11) rfl ?_
      show Steps p.tables e below (T32.setTop (mkF m 13 #[.val (.int p0), .val (.int p1), .val (.int p2), .val (.int p3), .val (.int (1 : Int32)), .val (.ref a), .unset, .unset] [(.int (1 : Int32))])) _
      refine XS.ifNo X32.here hx rfl (hb hby at_13) rfl ((if0 _ _).trans (tlt (by decide : (0 : Int32) < (1 : Int32))).2.2.2) ?_
      show Steps p.tables e below (T32.setTop (mkF m 16 #[.val (.int p0), .val (.int p1), .val (.int p2), .val (.int p3), .val (.int (1 : Int32)), .val (.ref a), .unset, .unset] [])) _
      refine XS.aload X32.here hx rfl (hb hby at_16) rfl rfl ?_
      show Steps p.tables e below (T32.setTop (mkF m 18 #[.val (.int p0), .val (.int p1), .val (.int p2), .val (.int p3), .val (.int (1 : Int32)), .val (.ref a), .unset, .unset] [(.ref a)])) _
      refine XS.iconst X32.here hx rfl (hb hby at_18) ?_
      show Steps p.tables e below (T32.setTop (mkF m 19 #[.val (.int p0), .val (.int p1), .val (.int p2), .val (.int p3), .val (.int (1 : Int32)), .val (.ref a), .unset, .unset] [(.int (0 : Int32)), (.ref a)])) _
      refine XS.iloadN X32.here hx rfl (hb hby at_19) rfl ?_
      show Steps p.tables e below (T32.setTop (mkF m 20 #[.val (.int p0), .val (.int p1), .val (.int p2), .val (.int p3), .val (.int (1 : Int32)), .val (.ref a), .unset, .unset] [(.int p1), (.int (0 : Int32)), (.ref a)])) _
      refine XT.i2b X32.here hx rfl (hb hby at_20) rfl ?_
      exact ktg)
    obtain ⟨cl_39, Ar_39, q_39, S_39, N_39, H_39, G_39⟩ := id f37
    have hin_39 : ¬ ((0 : Int32) < 0 ∨ cl_39.slots.size ≤ ((0 : Int32)).toNatClampNeg) := inb_of S_39 ⟨by decide, by decide⟩
    obtain ⟨T40, h40, X40, e40, W40, st40⟩ := stB X32 hx hZ e32 Ar_39 (j := (0 : Int32)) hin_39 (g := (mkF m 21 #[.val (.int p0), .val (.int p1), .val (.int p2), .val (.int p3), .val (.int (1 : Int32)), .val (.ref a), .unset, .unset] [(.int (p1.toInt8.toInt32)), (.int (0 : Int32)), (.ref a)])) rfl rfl (hb hby at_21)
    have pre40 : Rch p.tables e below (s₁.setTop (entryFrame m #[(.int p0), (.int p1), (.int p2), (.int p3)] maxLocals)) (T40.setTop (mkF m 22 #[.val (.int p0), .val (.int p1), .val (.int p2), .val (.int p3), .val (.int (1 : Int32)), .val (.ref a), .unset, .unset] [])) := fun tgt ktg => pre38 tgt (st40 tgt ktg)
    have f41 : Sta Z h40 "Mllp" "END" "[B" (.ref w) := f33.wr W40
    have f42 : Arv Z h40 w kw .byte (2 : Int32) [(.int (28 : Int32)), (.int (13 : Int32))] (.int (0 : Int32)) := f34.other W40 ne_w_a
    have z43 : n0 ≤ h40.size := Nat.le_trans z35 (Keep.of_wr W40).1
    have K44 : Keep h0 h40 [] := K36.wr W40 (Or.inr sz_a)
    have f45 : Arv Z h40 a k32 .byte (1 : Int32) [(.int (nar .byte (p1.toInt8.toInt32)))] (.int (0 : Int32)) := Arv.set Ar_39 q_39 S_39 N_39 H_39 G_39 (fits_nar_byte _) W40 0 rfl (Nat.le_of_ble_eq_true rfl)
    have N46 := Fr.snoc X40 N0 g_a
    rw [na0] at f45
    have pre47 : Rch p.tables e below (s₁.setTop (entryFrame m #[(.int p0), (.int p1), (.int p2), (.int p3)] maxLocals)) (T40.setTop (mkF m 48 #[.val (.int p0), .val (.int p1), .val (.int p2), .val (.int p3), .val (.int (1 : Int32)), .val (.ref a), .unset, .unset] [(.ref a)])) := fun tgt ktg => pre40 tgt (by
      show Steps p.tables e below (T40.setTop (mkF m 22 #[.val (.int p0), .val (.int p1), .val (.int p2), .val (.int p3), .val (.int (1 : Int32)), .val (.ref a), .unset, .unset] [])) _
      refine XS.iload X40.here hx rfl (hb hby at_22) rfl ?_
      show Steps p.tables e below (T40.setTop (mkF m 24 #[.val (.int p0), .val (.int p1), .val (.int p2), .val (.int p3), .val (.int (1 : Int32)), .val (.ref a), .unset, .unset] [(.int (1 : Int32))])) _
      refine XS.iconst X40.here hx rfl (hb hby at_24) ?_
      show Steps p.tables e below (T40.setTop (mkF m 25 #[.val (.int p0), .val (.int p1), .val (.int p2), .val (.int p3), .val (.int (1 : Int32)), .val (.ref a), .unset, .unset] [(.int (1 : Int32)), (.int (1 : Int32))])) _
      refine XS.icmpYes X40.here hx rfl (pc0 := 25) (pc' := 34) rfl (hb hby at_25) rfl (flt (by decide : ¬ ((1 : Int32) < (1 : Int32)))).2.2.2 (by decide) (by decide) ?_
      show Steps p.tables e below (T40.setTop (mkF m 34 #[.val (.int p0), .val (.int p1), .val (.int p2), .val (.int p3), .val (.int (1 : Int32)), .val (.ref a), .unset, .unset] [])) _
      refine XS.iload X40.here hx rfl (hb hby at_34) rfl ?_
      show Steps p.tables e below (T40.setTop (mkF m 36 #[.val (.int p0), .val (.int p1), .val (.int p2), .val (.int p3), .val (.int (1 : Int32)), .val (.ref a), .unset, .unset] [(.int (1 : Int32))])) _
      refine XS.iconst X40.here hx rfl (hb hby at_36) ?_
      show Steps p.tables e below (T40.setTop (mkF m 37 #[.val (.int p0), .val (.int p1), .val (.int p2), .val (.int p3), .val (.int (1 : Int32)), .val (.ref a), .unset, .unset] [(.int (2 : Int32)), (.int (1 : Int32))])) _
      refine XS.icmpYes X40.here hx rfl (pc0 := 37) (pc' := 46) rfl (hb hby at_37) rfl (flt (by decide : ¬ ((2 : Int32) < (1 : Int32)))).2.2.2 (by decide) (by decide) ?_
      show Steps p.tables e below (T40.setTop (mkF m 46 #[.val (.int p0), .val (.int p1), .val (.int p2), .val (.int p3), .val (.int (1 : Int32)), .val (.ref a), .unset, .unset] [])) _
      refine XS.aload X40.here hx rfl (hb hby at_46) rfl rfl ?_
      exact ktg)
    obtain ⟨_, _, ⟨T48, L48, k48, n48⟩, -, X48, ⟨Lc48, hQ48, l48, y48, z48⟩, st48⟩ := Jvm.LawKit.callS X40 hx (y := (⟨"Mllp", "frame", "([B)[B"⟩ : MethodName)) hown (mvT hZ (hw _ (List.mem_of_getElem? (i := 1) rfl))) (mvT hZ (hw _ (List.mem_of_getElem? (i := 2) rfl))) (mvT hZ (hw _ (List.mem_of_getElem? (i := 3) rfl))) (mvT hZ (hw _ (List.mem_of_getElem? (i := 4) rfl))) (by decide) (backOf (W := 0) (rmf1 l Z a0 hw [] a v0 w k32 kw h40 n0 z43 f41 f42 f45 (Ne.symm ne_w_a)) hZ (hw _ (List.mem_of_getElem? (i := 4) rfl)) (hw _ (List.mem_of_getElem? (i := 3) rfl)) (by decide) (by decide)) (g := (mkF m 48 #[.val (.int p0), .val (.int p1), .val (.int p2), .val (.int p3), .val (.int (1 : Int32)), .val (.ref a), .unset, .unset] [(.ref a)])) rfl (by rw [hml]; rfl) (argsL := [(.ref a)]) (rest := []) (lenOf pd_0 rfl) rfl (by show 2 * 0 + _ ≤ _; exact Nat.le_of_eq rfl) (hb hby at_48) (fun _ _ => ⟨rfl, e40, (by decide : 1 + 1 ≤ _), (by decide : 1 + 4 ≤ _)⟩)
    dsimp only [Pt.U, Pt.locs, Pt.cells, Pt.slots] at X48 l48 y48 z48 st48 hQ48
    subst l48 y48 z48
    obtain ⟨r, kr, rfl, Nq48, Kq48, gr, ar⟩ := hQ48
    have N49 := Fr.app N46 Nq48
    have pre48 : Rch p.tables e below (s₁.setTop (entryFrame m #[(.int p0), (.int p1), (.int p2), (.int p3)] maxLocals)) (T48.setTop (mkF m 51 #[.val (.int p0), .val (.int p1), .val (.int p2), .val (.int p3), .val (.int (1 : Int32)), .val (.ref a), .unset, .unset] [(.ref r)])) := fun tgt ktg => pre47 tgt (st48 tgt ktg)
    have f50 : Sta Z T48.heap "Mllp" "END" "[B" (.ref w) := own_sta_keep f41 Kq48 ns0
    have f51 : Arv Z T48.heap w kw .byte (2 : Int32) [(.int (28 : Int32)), (.int (13 : Int32))] (.int (0 : Int32)) := f42.keep Kq48 nin0
    have f52 : Arv Z T48.heap a k32 .byte (1 : Int32) [(.int v0)] (.int (0 : Int32)) := f45.keep Kq48 nin0
    have z53 : n0 ≤ T48.heap.size := Nat.le_trans z43 Kq48.1
    have K54 : Keep h0 T48.heap [] := K44.trans Kq48 (all0 (P := fun x => x ∈ ([] : List Addr) ∨ h0.size ≤ x))
    have pre55 : Rch p.tables e below (s₁.setTop (entryFrame m #[(.int p0), (.int p1), (.int p2), (.int p3)] maxLocals)) (T48.setTop (mkF m 60 #[.val (.int p0), .val (.int p1), .val (.int p2), .val (.int p3), .val (.int (1 : Int32)), .val (.ref a), .val (.ref r), .unset] [(.ref r)])) := fun tgt ktg => pre48 tgt (by
      show Steps p.tables e below (T48.setTop (mkF m 51 #[.val (.int p0), .val (.int p1), .val (.int p2), .val (.int p3), .val (.int (1 : Int32)), .val (.ref a), .unset, .unset] [(.ref r)])) _
      refine XS.astore X48.here hx rfl (hb hby at_51) rfl rfl (l' := #[.val (.int p0), .val (.int p1), .val (.int p2), .val (.int p3), .val (.int (1 : Int32)), .val (.ref a), .val (.ref r), .unset]) rfl ?_
      show Steps p.tables e below (T48.setTop (mkF m 53 #[.val (.int p0), .val (.int p1), .val (.int p2), .val (.int p3), .val (.int (1 : Int32)), .val (.ref a), .val (.ref r), .unset] [])) _
      refine XS.aload X48.here hx rfl (hb hby at_53) rfl rfl ?_
      show Steps p.tables e below (T48.setTop (mkF m 55 #[.val (.int p0), .val (.int p1), .val (.int p2), .val (.int p3), .val (.int (1 : Int32)), .val (.ref a), .val (.ref r), .unset] [(.ref r)])) _
      refine XS.ifnullNo X48.here hx rfl (hb hby at_55) rfl ?_
      show Steps p.tables e below (T48.setTop (mkF m 58 #[.val (.int p0), .val (.int p1), .val (.int p2), .val (.int p3), .val (.int (1 : Int32)), .val (.ref a), .val (.ref r), .unset] [])) _
      refine XS.aload X48.here hx rfl (hb hby at_58) rfl rfl ?_
      exact ktg)
    obtain ⟨cl_56, Ar_56, q_56, S_56, N_56, H_56, G_56⟩ := id ar
    have pre57 : Rch p.tables e below (s₁.setTop (entryFrame m #[(.int p0), (.int p1), (.int p2), (.int p3)] maxLocals)) (T48.setTop (mkF m 61 #[.val (.int p0), .val (.int p1), .val (.int p2), .val (.int p3), .val (.int (1 : Int32)), .val (.ref a), .val (.ref r), .unset] [(.int (4 : Int32))])) := fun tgt ktg => pre55 tgt (X48.arraylength hx Ar_56.1 (State.isArrayOf_alike hZ.alike Ar_56.2.1) (g := (mkF m 60 #[.val (.int p0), .val (.int p1), .val (.int p2), .val (.int p3), .val (.int (1 : Int32)), .val (.ref a), .val (.ref r), .unset] [(.ref r)])) rfl rfl (hb hby at_60) _ (by rw [len_of S_56 N_56]; exact ktg))
    have pre58 : Rch p.tables e below (s₁.setTop (entryFrame m #[(.int p0), (.int p1), (.int p2), (.int p3)] maxLocals)) (T48.setTop (mkF m 73 #[.val (.int p0), .val (.int p1), .val (.int p2), .val (.int p3), .val (.int (1 : Int32)), .val (.ref a), .val (.ref r), .unset] [(.int (0 : Int32)), (.ref r)])) := fun tgt ktg => pre57 tgt (by
      show Steps p.tables e below (T48.setTop (mkF m 61 #[.val (.int p0), .val (.int p1), .val (.int p2), .val (.int p3), .val (.int (1 : Int32)), .val (.ref a), .val (.ref r), .unset] [(.int (4 : Int32))])) _
      refine XS.iload X48.here hx rfl (hb hby at_61) rfl ?_
      show Steps p.tables e below (T48.setTop (mkF m 63 #[.val (.int p0), .val (.int p1), .val (.int p2), .val (.int p3), .val (.int (1 : Int32)), .val (.ref a), .val (.ref r), .unset] [(.int (1 : Int32)), (.int (4 : Int32))])) _
      refine XS.iconst X48.here hx rfl (hb hby at_63) ?_
      show Steps p.tables e below (T48.setTop (mkF m 64 #[.val (.int p0), .val (.int p1), .val (.int p2), .val (.int p3), .val (.int (1 : Int32)), .val (.ref a), .val (.ref r), .unset] [(.int (3 : Int32)), (.int (1 : Int32)), (.int (4 : Int32))])) _
      refine XS.iadd X48.here hx rfl (hb hby at_64) rfl ?_
      show Steps p.tables e below (T48.setTop (mkF m 65 #[.val (.int p0), .val (.int p1), .val (.int p2), .val (.int p3), .val (.int (1 : Int32)), .val (.ref a), .val (.ref r), .unset] [(.int (4 : Int32)), (.int (4 : Int32))])) _
      refine XS.icmpYes X48.here hx rfl (pc0 := 65) (pc' := 70) rfl (hb hby at_65) rfl (teq (rfl : (4 : Int32) = (4 : Int32))).1 (by decide) (by decide) ?_
      show Steps p.tables e below (T48.setTop (mkF m 70 #[.val (.int p0), .val (.int p1), .val (.int p2), .val (.int p3), .val (.int (1 : Int32)), .val (.ref a), .val (.ref r), .unset] [])) _
      refine XS.aload X48.here hx rfl (hb hby at_70) rfl rfl ?_
      show Steps p.tables e below (T48.setTop (mkF m 72 #[.val (.int p0), .val (.int p1), .val (.int p2), .val (.int p3), .val (.int (1 : Int32)), .val (.ref a), .val (.ref r), .unset] [(.ref r)])) _
      refine XS.iconst X48.here hx rfl (hb hby at_72) ?_
      exact ktg)
    obtain ⟨cl_59, Ar_59, q_59, S_59, N_59, H_59, G_59⟩ := id ar
    have hin_59 : ¬ ((0 : Int32) < 0 ∨ cl_59.slots.size ≤ ((0 : Int32)).toNatClampNeg) := inb_of S_59 ⟨by decide, by decide⟩
    have hat_59 : cl_59.slots[((0 : Int32)).toNatClampNeg]? = some (.int (11 : Int32)) := H_59.at hin_59 rfl
    have pre60 : Rch p.tables e below (s₁.setTop (entryFrame m #[(.int p0), (.int p1), (.int p2), (.int p3)] maxLocals)) (T48.setTop (mkF m 74 #[.val (.int p0), .val (.int p1), .val (.int p2), .val (.int p3), .val (.int (1 : Int32)), .val (.ref a), .val (.ref r), .unset] [(.int (11 : Int32))])) := fun tgt ktg => pre58 tgt (X48.baloadBytes hx (j := (0 : Int32)) (v := (.int (11 : Int32))) Ar_59.1 (State.isArrayOf_alike hZ.alike Ar_59.2.1) Ar_59.2.2 hin_59 hat_59 (g := (mkF m 73 #[.val (.int p0), .val (.int p1), .val (.int p2), .val (.int p3), .val (.int (1 : Int32)), .val (.ref a), .val (.ref r), .unset] [(.int (0 : Int32)), (.ref r)])) rfl rfl (hb hby at_73) _ ktg)
    have pre61 : Rch p.tables e below (s₁.setTop (entryFrame m #[(.int p0), (.int p1), (.int p2), (.int p3)] maxLocals)) (T48.setTop (mkF m 85 #[.val (.int p0), .val (.int p1), .val (.int p2), .val (.int p3), .val (.int (1 : Int32)), .val (.ref a), .val (.ref r), .unset] [(.int (2 : Int32)), (.ref r)])) := fun tgt ktg => pre60 tgt (by
      show Steps p.tables e below (T48.setTop (mkF m 74 #[.val (.int p0), .val (.int p1), .val (.int p2), .val (.int p3), .val (.int (1 : Int32)), .val (.ref a), .val (.ref r), .unset] [(.int (11 : Int32))])) _
      refine XS.bipush X48.here hx rfl (hb hby at_74) ?_
      show Steps p.tables e below (T48.setTop (mkF m 76 #[.val (.int p0), .val (.int p1), .val (.int p2), .val (.int p3), .val (.int (1 : Int32)), .val (.ref a), .val (.ref r), .unset] [(.int (11 : Int32)), (.int (11 : Int32))])) _
      refine XS.icmpNo X48.here hx rfl (hb hby at_76) rfl (teq (rfl : (11 : Int32) = (11 : Int32))).2 ?_
      show Steps p.tables e below (T48.setTop (mkF m 79 #[.val (.int p0), .val (.int p1), .val (.int p2), .val (.int p3), .val (.int (1 : Int32)), .val (.ref a), .val (.ref r), .unset] [])) _
      refine XS.aload X48.here hx rfl (hb hby at_79) rfl rfl ?_
      show Steps p.tables e below (T48.setTop (mkF m 81 #[.val (.int p0), .val (.int p1), .val (.int p2), .val (.int p3), .val (.int (1 : Int32)), .val (.ref a), .val (.ref r), .unset] [(.ref r)])) _
      refine XS.iload X48.here hx rfl (hb hby at_81) rfl ?_
      show Steps p.tables e below (T48.setTop (mkF m 83 #[.val (.int p0), .val (.int p1), .val (.int p2), .val (.int p3), .val (.int (1 : Int32)), .val (.ref a), .val (.ref r), .unset] [(.int (1 : Int32)), (.ref r)])) _
      refine XS.iconst X48.here hx rfl (hb hby at_83) ?_
      show Steps p.tables e below (T48.setTop (mkF m 84 #[.val (.int p0), .val (.int p1), .val (.int p2), .val (.int p3), .val (.int (1 : Int32)), .val (.ref a), .val (.ref r), .unset] [(.int (1 : Int32)), (.int (1 : Int32)), (.ref r)])) _
      refine XS.iadd X48.here hx rfl (hb hby at_84) rfl ?_
      exact ktg)
    obtain ⟨cl_62, Ar_62, q_62, S_62, N_62, H_62, G_62⟩ := id ar
    have hin_62 : ¬ ((2 : Int32) < 0 ∨ cl_62.slots.size ≤ ((2 : Int32)).toNatClampNeg) := inb_of S_62 ⟨by decide, by decide⟩
    have hat_62 : cl_62.slots[((2 : Int32)).toNatClampNeg]? = some (.int (28 : Int32)) := H_62.at hin_62 rfl
    have pre63 : Rch p.tables e below (s₁.setTop (entryFrame m #[(.int p0), (.int p1), (.int p2), (.int p3)] maxLocals)) (T48.setTop (mkF m 86 #[.val (.int p0), .val (.int p1), .val (.int p2), .val (.int p3), .val (.int (1 : Int32)), .val (.ref a), .val (.ref r), .unset] [(.int (28 : Int32))])) := fun tgt ktg => pre61 tgt (X48.baloadBytes hx (j := (2 : Int32)) (v := (.int (28 : Int32))) Ar_62.1 (State.isArrayOf_alike hZ.alike Ar_62.2.1) Ar_62.2.2 hin_62 hat_62 (g := (mkF m 85 #[.val (.int p0), .val (.int p1), .val (.int p2), .val (.int p3), .val (.int (1 : Int32)), .val (.ref a), .val (.ref r), .unset] [(.int (2 : Int32)), (.ref r)])) rfl rfl (hb hby at_85) _ ktg)
    have pre64 : Rch p.tables e below (s₁.setTop (entryFrame m #[(.int p0), (.int p1), (.int p2), (.int p3)] maxLocals)) (T48.setTop (mkF m 97 #[.val (.int p0), .val (.int p1), .val (.int p2), .val (.int p3), .val (.int (1 : Int32)), .val (.ref a), .val (.ref r), .unset] [(.int (3 : Int32)), (.ref r)])) := fun tgt ktg => pre63 tgt (by
      show Steps p.tables e below (T48.setTop (mkF m 86 #[.val (.int p0), .val (.int p1), .val (.int p2), .val (.int p3), .val (.int (1 : Int32)), .val (.ref a), .val (.ref r), .unset] [(.int (28 : Int32))])) _
      refine XS.bipush X48.here hx rfl (hb hby at_86) ?_
      show Steps p.tables e below (T48.setTop (mkF m 88 #[.val (.int p0), .val (.int p1), .val (.int p2), .val (.int p3), .val (.int (1 : Int32)), .val (.ref a), .val (.ref r), .unset] [(.int (28 : Int32)), (.int (28 : Int32))])) _
      refine XS.icmpNo X48.here hx rfl (hb hby at_88) rfl (teq (rfl : (28 : Int32) = (28 : Int32))).2 ?_
      show Steps p.tables e below (T48.setTop (mkF m 91 #[.val (.int p0), .val (.int p1), .val (.int p2), .val (.int p3), .val (.int (1 : Int32)), .val (.ref a), .val (.ref r), .unset] [])) _
      refine XS.aload X48.here hx rfl (hb hby at_91) rfl rfl ?_
      show Steps p.tables e below (T48.setTop (mkF m 93 #[.val (.int p0), .val (.int p1), .val (.int p2), .val (.int p3), .val (.int (1 : Int32)), .val (.ref a), .val (.ref r), .unset] [(.ref r)])) _
      refine XS.iload X48.here hx rfl (hb hby at_93) rfl ?_
      show Steps p.tables e below (T48.setTop (mkF m 95 #[.val (.int p0), .val (.int p1), .val (.int p2), .val (.int p3), .val (.int (1 : Int32)), .val (.ref a), .val (.ref r), .unset] [(.int (1 : Int32)), (.ref r)])) _
      refine XS.iconst X48.here hx rfl (hb hby at_95) ?_
      show Steps p.tables e below (T48.setTop (mkF m 96 #[.val (.int p0), .val (.int p1), .val (.int p2), .val (.int p3), .val (.int (1 : Int32)), .val (.ref a), .val (.ref r), .unset] [(.int (2 : Int32)), (.int (1 : Int32)), (.ref r)])) _
      refine XS.iadd X48.here hx rfl (hb hby at_96) rfl ?_
      exact ktg)
    obtain ⟨cl_65, Ar_65, q_65, S_65, N_65, H_65, G_65⟩ := id ar
    have hin_65 : ¬ ((3 : Int32) < 0 ∨ cl_65.slots.size ≤ ((3 : Int32)).toNatClampNeg) := inb_of S_65 ⟨by decide, by decide⟩
    have hat_65 : cl_65.slots[((3 : Int32)).toNatClampNeg]? = some (.int (13 : Int32)) := H_65.at hin_65 rfl
    have pre66 : Rch p.tables e below (s₁.setTop (entryFrame m #[(.int p0), (.int p1), (.int p2), (.int p3)] maxLocals)) (T48.setTop (mkF m 98 #[.val (.int p0), .val (.int p1), .val (.int p2), .val (.int p3), .val (.int (1 : Int32)), .val (.ref a), .val (.ref r), .unset] [(.int (13 : Int32))])) := fun tgt ktg => pre64 tgt (X48.baloadBytes hx (j := (3 : Int32)) (v := (.int (13 : Int32))) Ar_65.1 (State.isArrayOf_alike hZ.alike Ar_65.2.1) Ar_65.2.2 hin_65 hat_65 (g := (mkF m 97 #[.val (.int p0), .val (.int p1), .val (.int p2), .val (.int p3), .val (.int (1 : Int32)), .val (.ref a), .val (.ref r), .unset] [(.int (3 : Int32)), (.ref r)])) rfl rfl (hb hby at_97) _ ktg)
    have pre67 : Rch p.tables e below (s₁.setTop (entryFrame m #[(.int p0), (.int p1), (.int p2), (.int p3)] maxLocals)) (T48.setTop (mkF m 112 #[.val (.int p0), .val (.int p1), .val (.int p2), .val (.int p3), .val (.int (1 : Int32)), .val (.ref a), .val (.ref r), .val (.int (1 : Int32))] [(.int (1 : Int32))])) := fun tgt ktg => pre66 tgt (by
      show Steps p.tables e below (T48.setTop (mkF m 98 #[.val (.int p0), .val (.int p1), .val (.int p2), .val (.int p3), .val (.int (1 : Int32)), .val (.ref a), .val (.ref r), .unset] [(.int (13 : Int32))])) _
      refine XS.bipush X48.here hx rfl (hb hby at_98) ?_
      show Steps p.tables e below (T48.setTop (mkF m 100 #[.val (.int p0), .val (.int p1), .val (.int p2), .val (.int p3), .val (.int (1 : Int32)), .val (.ref a), .val (.ref r), .unset] [(.int (13 : Int32)), (.int (13 : Int32))])) _
      refine XS.icmpNo X48.here hx rfl (hb hby at_100) rfl (teq (rfl : (13 : Int32) = (13 : Int32))).2 ?_
      show Steps p.tables e below (T48.setTop (mkF m 103 #[.val (.int p0), .val (.int p1), .val (.int p2), .val (.int p3), .val (.int (1 : Int32)), .val (.ref a), .val (.ref r), .unset] [])) _
      refine XS.iconst X48.here hx rfl (hb hby at_103) ?_
      show Steps p.tables e below (T48.setTop (mkF m 104 #[.val (.int p0), .val (.int p1), .val (.int p2), .val (.int p3), .val (.int (1 : Int32)), .val (.ref a), .val (.ref r), .unset] [(.int (1 : Int32))])) _
      refine XS.goto X48.here hx rfl (pc0 := 104) (pc' := 108) rfl (hb hby at_104) (by decide) (by decide) ?_
      show Steps p.tables e below (T48.setTop (mkF m 108 #[.val (.int p0), .val (.int p1), .val (.int p2), .val (.int p3), .val (.int (1 : Int32)), .val (.ref a), .val (.ref r), .unset] [(.int (1 : Int32))])) _
      refine XS.istore X48.here hx rfl (hb hby at_108) rfl (l' := #[.val (.int p0), .val (.int p1), .val (.int p2), .val (.int p3), .val (.int (1 : Int32)), .val (.ref a), .val (.ref r), .val (.int (1 : Int32))]) rfl ?_
      show Steps p.tables e below (T48.setTop (mkF m 110 #[.val (.int p0), .val (.int p1), .val (.int p2), .val (.int p3), .val (.int (1 : Int32)), .val (.ref a), .val (.ref r), .val (.int (1 : Int32))] [])) _
      refine XS.iload X48.here hx rfl (hb hby at_110) rfl ?_
      exact ktg)
    have pre68 : Rch p.tables e below (s₁.setTop (entryFrame m #[(.int p0), (.int p1), (.int p2), (.int p3)] maxLocals)) (T48.setTop (mkF m 123 #[.val (.int p0), .val (.int p1), .val (.int p2), .val (.int p3), .val (.int (1 : Int32)), .val (.ref a), .val (.ref r), .val (.int (1 : Int32))] [(.int (1 : Int32)), (.ref r)])) := fun tgt ktg => pre67 tgt (by
      show Steps p.tables e below (T48.setTop (mkF m 112 #[.val (.int p0), .val (.int p1), .val (.int p2), .val (.int p3), .val (.int (1 : Int32)), .val (.ref a), .val (.ref r), .val (.int (1 : Int32))] [(.int (1 : Int32))])) _
      refine XS.ifNo X48.here hx rfl (hb hby at_112) rfl ((if0 _ _).trans (tlt (by decide : (0 : Int32) < (1 : Int32))).2.2.2) ?_
      show Steps p.tables e below (T48.setTop (mkF m 115 #[.val (.int p0), .val (.int p1), .val (.int p2), .val (.int p3), .val (.int (1 : Int32)), .val (.ref a), .val (.ref r), .val (.int (1 : Int32))] [])) _
      refine XS.iload X48.here hx rfl (hb hby at_115) rfl ?_
      show Steps p.tables e below (T48.setTop (mkF m 117 #[.val (.int p0), .val (.int p1), .val (.int p2), .val (.int p3), .val (.int (1 : Int32)), .val (.ref a), .val (.ref r), .val (.int (1 : Int32))] [(.int (1 : Int32))])) _
      refine XS.ifNo X48.here hx rfl (hb hby at_117) rfl ((if0 _ _).trans (feq (by decide : ¬ ((1 : Int32) = (0 : Int32)))).1) ?_
      show Steps p.tables e below (T48.setTop (mkF m 120 #[.val (.int p0), .val (.int p1), .val (.int p2), .val (.int p3), .val (.int (1 : Int32)), .val (.ref a), .val (.ref r), .val (.int (1 : Int32))] [])) _
      refine XS.aload X48.here hx rfl (hb hby at_120) rfl rfl ?_
      show Steps p.tables e below (T48.setTop (mkF m 122 #[.val (.int p0), .val (.int p1), .val (.int p2), .val (.int p3), .val (.int (1 : Int32)), .val (.ref a), .val (.ref r), .val (.int (1 : Int32))] [(.ref r)])) _
      refine XS.iconst X48.here hx rfl (hb hby at_122) ?_
      exact ktg)
    obtain ⟨cl_69, Ar_69, q_69, S_69, N_69, H_69, G_69⟩ := id ar
    have hin_69 : ¬ ((1 : Int32) < 0 ∨ cl_69.slots.size ≤ ((1 : Int32)).toNatClampNeg) := inb_of S_69 ⟨by decide, by decide⟩
    have hat_69 : cl_69.slots[((1 : Int32)).toNatClampNeg]? = some (.int v0) := H_69.at hin_69 rfl
    have pre70 : Rch p.tables e below (s₁.setTop (entryFrame m #[(.int p0), (.int p1), (.int p2), (.int p3)] maxLocals)) (T48.setTop (mkF m 124 #[.val (.int p0), .val (.int p1), .val (.int p2), .val (.int p3), .val (.int (1 : Int32)), .val (.ref a), .val (.ref r), .val (.int (1 : Int32))] [(.int v0)])) := fun tgt ktg => pre68 tgt (X48.baloadBytes hx (j := (1 : Int32)) (v := (.int v0)) Ar_69.1 (State.isArrayOf_alike hZ.alike Ar_69.2.1) Ar_69.2.2 hin_69 hat_69 (g := (mkF m 123 #[.val (.int p0), .val (.int p1), .val (.int p2), .val (.int p3), .val (.int (1 : Int32)), .val (.ref a), .val (.ref r), .val (.int (1 : Int32))] [(.int (1 : Int32)), (.ref r)])) rfl rfl (hb hby at_123) _ ktg)
    have pre71 : Rch p.tables e below (s₁.setTop (entryFrame m #[(.int p0), (.int p1), (.int p2), (.int p3)] maxLocals)) (T48.setTop (mkF m 132 #[.val (.int p0), .val (.int p1), .val (.int p2), .val (.int p3), .val (.int (1 : Int32)), .val (.ref a), .val (.ref r), .val (.int (1 : Int32))] [(.int (0 : Int32)), (.ref a)])) := fun tgt ktg => pre70 tgt (by
      show Steps p.tables e below (T48.setTop (mkF m 124 #[.val (.int p0), .val (.int p1), .val (.int p2), .val (.int p3), .val (.int (1 : Int32)), .val (.ref a), .val (.ref r), .val (.int (1 : Int32))] [(.int v0)])) _
      refine XS.iloadN X48.here hx rfl (hb hby at_124) rfl ?_
      show Steps p.tables e below (T48.setTop (mkF m 125 #[.val (.int p0), .val (.int p1), .val (.int p2), .val (.int p3), .val (.int (1 : Int32)), .val (.ref a), .val (.ref r), .val (.int (1 : Int32))] [(.int p1), (.int v0)])) _
      refine XT.i2b X48.here hx rfl (hb hby at_125) rfl ?_
      show Steps p.tables e below (T48.setTop (mkF m 126 #[.val (.int p0), .val (.int p1), .val (.int p2), .val (.int p3), .val (.int (1 : Int32)), .val (.ref a), .val (.ref r), .val (.int (1 : Int32))] [(.int (p1.toInt8.toInt32)), (.int v0)])) _
      refine XS.icmpNo X48.here hx rfl (hb hby at_126) rfl (teq hv0).2 ?_
      show Steps p.tables e below (T48.setTop (mkF m 129 #[.val (.int p0), .val (.int p1), .val (.int p2), .val (.int p3), .val (.int (1 : Int32)), .val (.ref a), .val (.ref r), .val (.int (1 : Int32))] [])) _
      refine XS.aload X48.here hx rfl (hb hby at_129) rfl rfl ?_
      show Steps p.tables e below (T48.setTop (mkF m 131 #[.val (.int p0), .val (.int p1), .val (.int p2), .val (.int p3), .val (.int (1 : Int32)), .val (.ref a), .val (.ref r), .val (.int (1 : Int32))] [(.ref a)])) _
      refine XS.iconst X48.here hx rfl (hb hby at_131) ?_
      exact ktg)
    obtain ⟨cl_72, Ar_72, q_72, S_72, N_72, H_72, G_72⟩ := id f52
    have hin_72 : ¬ ((0 : Int32) < 0 ∨ cl_72.slots.size ≤ ((0 : Int32)).toNatClampNeg) := inb_of S_72 ⟨by decide, by decide⟩
    have hat_72 : cl_72.slots[((0 : Int32)).toNatClampNeg]? = some (.int v0) := H_72.at hin_72 rfl
    have pre73 : Rch p.tables e below (s₁.setTop (entryFrame m #[(.int p0), (.int p1), (.int p2), (.int p3)] maxLocals)) (T48.setTop (mkF m 133 #[.val (.int p0), .val (.int p1), .val (.int p2), .val (.int p3), .val (.int (1 : Int32)), .val (.ref a), .val (.ref r), .val (.int (1 : Int32))] [(.int v0)])) := fun tgt ktg => pre71 tgt (X48.baloadBytes hx (j := (0 : Int32)) (v := (.int v0)) Ar_72.1 (State.isArrayOf_alike hZ.alike Ar_72.2.1) Ar_72.2.2 hin_72 hat_72 (g := (mkF m 132 #[.val (.int p0), .val (.int p1), .val (.int p2), .val (.int p3), .val (.int (1 : Int32)), .val (.ref a), .val (.ref r), .val (.int (1 : Int32))] [(.int (0 : Int32)), (.ref a)])) rfl rfl (hb hby at_132) _ ktg)
    have pre74 : Rch p.tables e below (s₁.setTop (entryFrame m #[(.int p0), (.int p1), (.int p2), (.int p3)] maxLocals)) (T48.setTop (mkF m 145 #[.val (.int p0), .val (.int p1), .val (.int p2), .val (.int p3), .val (.int (1 : Int32)), .val (.ref a), .val (.ref r), .val (.int (1 : Int32))] [])) := fun tgt ktg => pre73 tgt (by
      show Steps p.tables e below (T48.setTop (mkF m 133 #[.val (.int p0), .val (.int p1), .val (.int p2), .val (.int p3), .val (.int (1 : Int32)), .val (.ref a), .val (.ref r), .val (.int (1 : Int32))] [(.int v0)])) _
      refine XS.iloadN X48.here hx rfl (hb hby at_133) rfl ?_
      show Steps p.tables e below (T48.setTop (mkF m 134 #[.val (.int p0), .val (.int p1), .val (.int p2), .val (.int p3), .val (.int (1 : Int32)), .val (.ref a), .val (.ref r), .val (.int (1 : Int32))] [(.int p1), (.int v0)])) _
      refine XT.i2b X48.here hx rfl (hb hby at_134) rfl ?_
      show Steps p.tables e below (T48.setTop (mkF m 135 #[.val (.int p0), .val (.int p1), .val (.int p2), .val (.int p3), .val (.int (1 : Int32)), .val (.ref a), .val (.ref r), .val (.int (1 : Int32))] [(.int (p1.toInt8.toInt32)), (.int v0)])) _
      refine XS.icmpNo X48.here hx rfl (hb hby at_135) rfl (teq hv0).2 ?_
      show Steps p.tables e below (T48.setTop (mkF m 138 #[.val (.int p0), .val (.int p1), .val (.int p2), .val (.int p3), .val (.int (1 : Int32)), .val (.ref a), .val (.ref r), .val (.int (1 : Int32))] [])) _
      refine XS.iconst X48.here hx rfl (hb hby at_138) ?_
      show Steps p.tables e below (T48.setTop (mkF m 139 #[.val (.int p0), .val (.int p1), .val (.int p2), .val (.int p3), .val (.int (1 : Int32)), .val (.ref a), .val (.ref r), .val (.int (1 : Int32))] [(.int (1 : Int32))])) _
      refine XS.goto X48.here hx rfl (pc0 := 139) (pc' := 143) rfl (hb hby at_139) (by decide) (by decide) ?_
      show Steps p.tables e below (T48.setTop (mkF m 143 #[.val (.int p0), .val (.int p1), .val (.int p2), .val (.int p3), .val (.int (1 : Int32)), .val (.ref a), .val (.ref r), .val (.int (1 : Int32))] [(.int (1 : Int32))])) _
      refine XS.istore X48.here hx rfl (hb hby at_143) rfl (l' := #[.val (.int p0), .val (.int p1), .val (.int p2), .val (.int p3), .val (.int (1 : Int32)), .val (.ref a), .val (.ref r), .val (.int (1 : Int32))]) rfl ?_
      exact ktg)
    have pre75 : Rch p.tables e below (s₁.setTop (entryFrame m #[(.int p0), (.int p1), (.int p2), (.int p3)] maxLocals)) (T48.setTop (mkF m 219 #[.val (.int p0), .val (.int p1), .val (.int p2), .val (.int p3), .val (.int (1 : Int32)), .val (.ref a), .val (.ref r), .val (.int (1 : Int32))] [(.int (1 : Int32))])) := fun tgt ktg => pre74 tgt (by
      show Steps p.tables e below (T48.setTop (mkF m 145 #[.val (.int p0), .val (.int p1), .val (.int p2), .val (.int p3), .val (.int (1 : Int32)), .val (.ref a), .val (.ref r), .val (.int (1 : Int32))] [])) _
      refine XS.iload X48.here hx rfl (hb hby at_145) rfl ?_
      show Steps p.tables e below (T48.setTop (mkF m 147 #[.val (.int p0), .val (.int p1), .val (.int p2), .val (.int p3), .val (.int (1 : Int32)), .val (.ref a), .val (.ref r), .val (.int (1 : Int32))] [(.int (1 : Int32))])) _
      refine XS.iconst X48.here hx rfl (hb hby at_147) ?_
      show Steps p.tables e below (T48.setTop (mkF m 148 #[.val (.int p0), .val (.int p1), .val (.int p2), .val (.int p3), .val (.int (1 : Int32)), .val (.ref a), .val (.ref r), .val (.int (1 : Int32))] [(.int (1 : Int32)), (.int (1 : Int32))])) _
      refine XS.icmpYes X48.here hx rfl (pc0 := 148) (pc' := 181) rfl (hb hby at_148) rfl (flt (by decide : ¬ ((1 : Int32) < (1 : Int32)))).2.2.2 (by decide) (by decide) ?_
      show Steps p.tables e below (T48.setTop (mkF m 181 #[.val (.int p0), .val (.int p1), .val (.int p2), .val (.int p3), .val (.int (1 : Int32)), .val (.ref a), .val (.ref r), .val (.int (1 : Int32))] [])) _
      refine XS.iload X48.here hx rfl (hb hby at_181) rfl ?_
      show Steps p.tables e below (T48.setTop (mkF m 183 #[.val (.int p0), .val (.int p1), .val (.int p2), .val (.int p3), .val (.int (1 : Int32)), .val (.ref a), .val (.ref r), .val (.int (1 : Int32))] [(.int (1 : Int32))])) _
      refine XS.iconst X48.here hx rfl (hb hby at_183) ?_
      show Steps p.tables e below (T48.setTop (mkF m 184 #[.val (.int p0), .val (.int p1), .val (.int p2), .val (.int p3), .val (.int (1 : Int32)), .val (.ref a), .val (.ref r), .val (.int (1 : Int32))] [(.int (2 : Int32)), (.int (1 : Int32))])) _
      refine XS.icmpYes X48.here hx rfl (pc0 := 184) (pc' := 217) rfl (hb hby at_184) rfl (flt (by decide : ¬ ((2 : Int32) < (1 : Int32)))).2.2.2 (by decide) (by decide) ?_
      show Steps p.tables e below (T48.setTop (mkF m 217 #[.val (.int p0), .val (.int p1), .val (.int p2), .val (.int p3), .val (.int (1 : Int32)), .val (.ref a), .val (.ref r), .val (.int (1 : Int32))] [])) _
      refine XS.iload X48.here hx rfl (hb hby at_217) rfl ?_
      exact ktg)
    obtain ⟨fs, hr, hrun, hended, hW, hsame⟩ := X48.leave (v := some (.int (1 : Int32))) (fun h => by rw [Bd.returns] at h; cases h)
    refine ⟨_, _, pre75 _ ?_, hrun, hended, _, _, rfl, ?_, ⟨_, rfl⟩, hW, hsame.mono (by decide) (by decide)⟩
    · show Steps p.tables e below (T48.setTop (mkF m 219 #[.val (.int p0), .val (.int p1), .val (.int p2), .val (.int p3), .val (.int (1 : Int32)), .val (.ref a), .val (.ref r), .val (.int (1 : Int32))] [(.int (1 : Int32))])) _
      exact retN X48 hx (t := .boolean) Bd.returns (by simp) (hb hby at_219) hr
    · show Q0 Z p0 p1 p2 p3 h0 n0 _ T48.heap _
      exact ⟨rfl, N49⟩
  · skip
    subst hn
    obtain ⟨v0, hv0⟩ : ∃ z : Int32, z = (p1.toInt8.toInt32) := ⟨_, rfl⟩
    have na0 : nar .byte (p1.toInt8.toInt32) = v0 := by rw [hv0]; exact own_nar _
    obtain ⟨v1, hv1⟩ : ∃ z : Int32, z = (p2.toInt8.toInt32) := ⟨_, rfl⟩
    have na1 : nar .byte (p2.toInt8.toInt32) = v1 := by rw [hv1]; exact own_nar _
    obtain ⟨T76, h76, k76, X76, e76, E76, A76, st76⟩ := newP X0 hx hZ (hw _ (List.mem_of_getElem? (i := 0) rfl)) e0 (g := (mkF m 7 #[.val (.int p0), .val (.int p1), .val (.int p2), .val (.int p3), .val (.int (2 : Int32)), .unset, .unset, .unset] [(.int (2 : Int32))])) rfl (hb hby at_7) rfl (by decide) (cap := 2) (by decide) (by decide) (by decide) (by decide)
    obtain ⟨a, g76⟩ : ∃ nm_, nm_ = h0.size := ⟨_, rfl⟩
    rw [← g76] at A76 st76
    have ne_w_a : w ≠ a := Nat.ne_of_lt (Nat.lt_of_lt_of_le AE.lt (Nat.le_of_eq g76.symm))
    have g_a : n0 ≤ a := Nat.le_trans Z0 (Nat.le_of_eq g76.symm)
    have sz_a : h0.size ≤ a := Nat.le_trans K0.1 (Nat.le_of_eq g76.symm)
    have pre76 : Rch p.tables e below (s₁.setTop (entryFrame m #[(.int p0), (.int p1), (.int p2), (.int p3)] maxLocals)) (T76.setTop (mkF m 9 #[.val (.int p0), .val (.int p1), .val (.int p2), .val (.int p3), .val (.int (2 : Int32)), .unset, .unset, .unset] [(.ref a)])) := fun tgt ktg => pre3 tgt (st76 tgt ktg)
    have f77 : Sta Z h76 "Mllp" "END" "[B" (.ref w) := S1.ext E76
    have f78 : Arv Z h76 w kw .byte (2 : Int32) [(.int (28 : Int32)), (.int (13 : Int32))] (.int (0 : Int32)) := AE.ext E76
    have z79 : n0 ≤ h76.size := Nat.le_trans Z0 E76.1
    have K80 : Keep h0 h76 [] := K0.ext E76
    have f81 : Arv Z h76 a k76 .byte (2 : Int32) [(.int (0 : Int32)), (.int (0 : Int32))] (.int (0 : Int32)) := (Arv.new A76 (by decide)).pad (pad_rep [] (.int (0 : Int32)) 2)
    have pre82 : Rch p.tables e below (s₁.setTop (entryFrame m #[(.int p0), (.int p1), (.int p2), (.int p3)] maxLocals)) (T76.setTop (mkF m 21 #[.val (.int p0), .val (.int p1), .val (.int p2), .val (.int p3), .val (.int (2 : Int32)), .val (.ref a), .unset, .unset] [(.int (p1.toInt8.toInt32)), (.int (0 : Int32)), (.ref a)])) := fun tgt ktg => pre76 tgt (by
      show Steps p.tables e below (T76.setTop (mkF m 9 #[.val (.int p0), .val (.int p1), .val (.int p2), .val (.int p3), .val (.int (2 : Int32)), .unset, .unset, .unset] [(.ref a)])) _
      refine XS.astore X76.here hx rfl (hb hby at_9) rfl rfl (l' := #[.val (.int p0), .val (.int p1), .val (.int p2), .val (.int p3), .val (.int (2 : Int32)), .val (.ref a), .unset, .unset]) rfl ?_
      show Steps p.tables e below (T76.setTop (mkF m 11 #[.val (.int p0), .val (.int p1), .val (.int p2), .val (.int p3), .val (.int (2 : Int32)), .val (.ref a), .unset, .unset] [])) _
      refine XS.iload X76.here hx rfl (hb hby at_11) rfl ?_
      show Steps p.tables e below (T76.setTop (mkF m 13 #[.val (.int p0), .val (.int p1), .val (.int p2), .val (.int p3), .val (.int (2 : Int32)), .val (.ref a), .unset, .unset] [(.int (2 : Int32))])) _
      refine XS.ifNo X76.here hx rfl (hb hby at_13) rfl ((if0 _ _).trans (tlt (by decide : (0 : Int32) < (2 : Int32))).2.2.2) ?_
      show Steps p.tables e below (T76.setTop (mkF m 16 #[.val (.int p0), .val (.int p1), .val (.int p2), .val (.int p3), .val (.int (2 : Int32)), .val (.ref a), .unset, .unset] [])) _
      refine XS.aload X76.here hx rfl (hb hby at_16) rfl rfl ?_
      show Steps p.tables e below (T76.setTop (mkF m 18 #[.val (.int p0), .val (.int p1), .val (.int p2), .val (.int p3), .val (.int (2 : Int32)), .val (.ref a), .unset, .unset] [(.ref a)])) _
      refine XS.iconst X76.here hx rfl (hb hby at_18) ?_
      show Steps p.tables e below (T76.setTop (mkF m 19 #[.val (.int p0), .val (.int p1), .val (.int p2), .val (.int p3), .val (.int (2 : Int32)), .val (.ref a), .unset, .unset] [(.int (0 : Int32)), (.ref a)])) _
      refine XS.iloadN X76.here hx rfl (hb hby at_19) rfl ?_
      show Steps p.tables e below (T76.setTop (mkF m 20 #[.val (.int p0), .val (.int p1), .val (.int p2), .val (.int p3), .val (.int (2 : Int32)), .val (.ref a), .unset, .unset] [(.int p1), (.int (0 : Int32)), (.ref a)])) _
      refine XT.i2b X76.here hx rfl (hb hby at_20) rfl ?_
      exact ktg)
    obtain ⟨cl_83, Ar_83, q_83, S_83, N_83, H_83, G_83⟩ := id f81
    have hin_83 : ¬ ((0 : Int32) < 0 ∨ cl_83.slots.size ≤ ((0 : Int32)).toNatClampNeg) := inb_of S_83 ⟨by decide, by decide⟩
    obtain ⟨T84, h84, X84, e84, W84, st84⟩ := stB X76 hx hZ e76 Ar_83 (j := (0 : Int32)) hin_83 (g := (mkF m 21 #[.val (.int p0), .val (.int p1), .val (.int p2), .val (.int p3), .val (.int (2 : Int32)), .val (.ref a), .unset, .unset] [(.int (p1.toInt8.toInt32)), (.int (0 : Int32)), (.ref a)])) rfl rfl (hb hby at_21)
    have pre84 : Rch p.tables e below (s₁.setTop (entryFrame m #[(.int p0), (.int p1), (.int p2), (.int p3)] maxLocals)) (T84.setTop (mkF m 22 #[.val (.int p0), .val (.int p1), .val (.int p2), .val (.int p3), .val (.int (2 : Int32)), .val (.ref a), .unset, .unset] [])) := fun tgt ktg => pre82 tgt (st84 tgt ktg)
    have f85 : Sta Z h84 "Mllp" "END" "[B" (.ref w) := f77.wr W84
    have f86 : Arv Z h84 w kw .byte (2 : Int32) [(.int (28 : Int32)), (.int (13 : Int32))] (.int (0 : Int32)) := f78.other W84 ne_w_a
    have z87 : n0 ≤ h84.size := Nat.le_trans z79 (Keep.of_wr W84).1
    have K88 : Keep h0 h84 [] := K80.wr W84 (Or.inr sz_a)
    have f89 : Arv Z h84 a k76 .byte (2 : Int32) [(.int (nar .byte (p1.toInt8.toInt32))), (.int (0 : Int32))] (.int (0 : Int32)) := Arv.set Ar_83 q_83 S_83 N_83 H_83 G_83 (fits_nar_byte _) W84 0 rfl (Nat.le_of_ble_eq_true rfl)
    have N90 := Fr.snoc X84 N0 g_a
    rw [na0] at f89
    have pre91 : Rch p.tables e below (s₁.setTop (entryFrame m #[(.int p0), (.int p1), (.int p2), (.int p3)] maxLocals)) (T84.setTop (mkF m 33 #[.val (.int p0), .val (.int p1), .val (.int p2), .val (.int p3), .val (.int (2 : Int32)), .val (.ref a), .unset, .unset] [(.int (p2.toInt8.toInt32)), (.int (1 : Int32)), (.ref a)])) := fun tgt ktg => pre84 tgt (by
      show Steps p.tables e below (T84.setTop (mkF m 22 #[.val (.int p0), .val (.int p1), .val (.int p2), .val (.int p3), .val (.int (2 : Int32)), .val (.ref a), .unset, .unset] [])) _
      refine XS.iload X84.here hx rfl (hb hby at_22) rfl ?_
      show Steps p.tables e below (T84.setTop (mkF m 24 #[.val (.int p0), .val (.int p1), .val (.int p2), .val (.int p3), .val (.int (2 : Int32)), .val (.ref a), .unset, .unset] [(.int (2 : Int32))])) _
      refine XS.iconst X84.here hx rfl (hb hby at_24) ?_
      show Steps p.tables e below (T84.setTop (mkF m 25 #[.val (.int p0), .val (.int p1), .val (.int p2), .val (.int p3), .val (.int (2 : Int32)), .val (.ref a), .unset, .unset] [(.int (1 : Int32)), (.int (2 : Int32))])) _
      refine XS.icmpNo X84.here hx rfl (hb hby at_25) rfl (tlt (by decide : (1 : Int32) < (2 : Int32))).2.2.2 ?_
      show Steps p.tables e below (T84.setTop (mkF m 28 #[.val (.int p0), .val (.int p1), .val (.int p2), .val (.int p3), .val (.int (2 : Int32)), .val (.ref a), .unset, .unset] [])) _
      refine XS.aload X84.here hx rfl (hb hby at_28) rfl rfl ?_
      show Steps p.tables e below (T84.setTop (mkF m 30 #[.val (.int p0), .val (.int p1), .val (.int p2), .val (.int p3), .val (.int (2 : Int32)), .val (.ref a), .unset, .unset] [(.ref a)])) _
      refine XS.iconst X84.here hx rfl (hb hby at_30) ?_
      show Steps p.tables e below (T84.setTop (mkF m 31 #[.val (.int p0), .val (.int p1), .val (.int p2), .val (.int p3), .val (.int (2 : Int32)), .val (.ref a), .unset, .unset] [(.int (1 : Int32)), (.ref a)])) _
      refine XS.iloadN X84.here hx rfl (hb hby at_31) rfl ?_
      show Steps p.tables e below (T84.setTop (mkF m 32 #[.val (.int p0), .val (.int p1), .val (.int p2), .val (.int p3), .val (.int (2 : Int32)), .val (.ref a), .unset, .unset] [(.int p2), (.int (1 : Int32)), (.ref a)])) _
      refine XT.i2b X84.here hx rfl (hb hby at_32) rfl ?_
      exact ktg)
    obtain ⟨cl_92, Ar_92, q_92, S_92, N_92, H_92, G_92⟩ := id f89
    have hin_92 : ¬ ((1 : Int32) < 0 ∨ cl_92.slots.size ≤ ((1 : Int32)).toNatClampNeg) := inb_of S_92 ⟨by decide, by decide⟩
    obtain ⟨T93, h93, X93, e93, W93, st93⟩ := stB X84 hx hZ e84 Ar_92 (j := (1 : Int32)) hin_92 (g := (mkF m 33 #[.val (.int p0), .val (.int p1), .val (.int p2), .val (.int p3), .val (.int (2 : Int32)), .val (.ref a), .unset, .unset] [(.int (p2.toInt8.toInt32)), (.int (1 : Int32)), (.ref a)])) rfl rfl (hb hby at_33)
    have pre93 : Rch p.tables e below (s₁.setTop (entryFrame m #[(.int p0), (.int p1), (.int p2), (.int p3)] maxLocals)) (T93.setTop (mkF m 34 #[.val (.int p0), .val (.int p1), .val (.int p2), .val (.int p3), .val (.int (2 : Int32)), .val (.ref a), .unset, .unset] [])) := fun tgt ktg => pre91 tgt (st93 tgt ktg)
    have f94 : Sta Z h93 "Mllp" "END" "[B" (.ref w) := f85.wr W93
    have f95 : Arv Z h93 w kw .byte (2 : Int32) [(.int (28 : Int32)), (.int (13 : Int32))] (.int (0 : Int32)) := f86.other W93 ne_w_a
    have z96 : n0 ≤ h93.size := Nat.le_trans z87 (Keep.of_wr W93).1
    have K97 : Keep h0 h93 [] := K88.wr W93 (Or.inr sz_a)
    have f98 : Arv Z h93 a k76 .byte (2 : Int32) [(.int v0), (.int (nar .byte (p2.toInt8.toInt32)))] (.int (0 : Int32)) := Arv.set Ar_92 q_92 S_92 N_92 H_92 G_92 (fits_nar_byte _) W93 1 rfl (Nat.le_of_ble_eq_true rfl)
    have N99 := Fr.snoc X93 N90 g_a
    rw [na1] at f98
    have pre100 : Rch p.tables e below (s₁.setTop (entryFrame m #[(.int p0), (.int p1), (.int p2), (.int p3)] maxLocals)) (T93.setTop (mkF m 48 #[.val (.int p0), .val (.int p1), .val (.int p2), .val (.int p3), .val (.int (2 : Int32)), .val (.ref a), .unset, .unset] [(.ref a)])) := fun tgt ktg => pre93 tgt (by
      show Steps p.tables e below (T93.setTop (mkF m 34 #[.val (.int p0), .val (.int p1), .val (.int p2), .val (.int p3), .val (.int (2 : Int32)), .val (.ref a), .unset, .unset] [])) _
      refine XS.iload X93.here hx rfl (hb hby at_34) rfl ?_
      show Steps p.tables e below (T93.setTop (mkF m 36 #[.val (.int p0), .val (.int p1), .val (.int p2), .val (.int p3), .val (.int (2 : Int32)), .val (.ref a), .unset, .unset] [(.int (2 : Int32))])) _
      refine XS.iconst X93.here hx rfl (hb hby at_36) ?_
      show Steps p.tables e below (T93.setTop (mkF m 37 #[.val (.int p0), .val (.int p1), .val (.int p2), .val (.int p3), .val (.int (2 : Int32)), .val (.ref a), .unset, .unset] [(.int (2 : Int32)), (.int (2 : Int32))])) _
      refine XS.icmpYes X93.here hx rfl (pc0 := 37) (pc' := 46) rfl (hb hby at_37) rfl (flt (by decide : ¬ ((2 : Int32) < (2 : Int32)))).2.2.2 (by decide) (by decide) ?_
      show Steps p.tables e below (T93.setTop (mkF m 46 #[.val (.int p0), .val (.int p1), .val (.int p2), .val (.int p3), .val (.int (2 : Int32)), .val (.ref a), .unset, .unset] [])) _
      refine XS.aload X93.here hx rfl (hb hby at_46) rfl rfl ?_
      exact ktg)
    obtain ⟨_, _, ⟨T101, L101, k101, n101⟩, -, X101, ⟨Lc101, hQ101, l101, y101, z101⟩, st101⟩ := Jvm.LawKit.callS X93 hx (y := (⟨"Mllp", "frame", "([B)[B"⟩ : MethodName)) hown (mvT hZ (hw _ (List.mem_of_getElem? (i := 1) rfl))) (mvT hZ (hw _ (List.mem_of_getElem? (i := 2) rfl))) (mvT hZ (hw _ (List.mem_of_getElem? (i := 3) rfl))) (mvT hZ (hw _ (List.mem_of_getElem? (i := 4) rfl))) (by decide) (backOf (W := 0) (rmf2 l Z a0 hw [] a v0 v1 w k76 kw h93 n0 z96 f94 f95 f98 (Ne.symm ne_w_a)) hZ (hw _ (List.mem_of_getElem? (i := 4) rfl)) (hw _ (List.mem_of_getElem? (i := 3) rfl)) (by decide) (by decide)) (g := (mkF m 48 #[.val (.int p0), .val (.int p1), .val (.int p2), .val (.int p3), .val (.int (2 : Int32)), .val (.ref a), .unset, .unset] [(.ref a)])) rfl (by rw [hml]; rfl) (argsL := [(.ref a)]) (rest := []) (lenOf pd_0 rfl) rfl (by show 2 * 0 + _ ≤ _; exact Nat.le_of_eq rfl) (hb hby at_48) (fun _ _ => ⟨rfl, e93, (by decide : 1 + 1 ≤ _), (by decide : 2 + 5 ≤ _)⟩)
    dsimp only [Pt.U, Pt.locs, Pt.cells, Pt.slots] at X101 l101 y101 z101 st101 hQ101
    subst l101 y101 z101
    obtain ⟨r, kr, rfl, Nq101, Kq101, gr, ar⟩ := hQ101
    have N102 := Fr.app N99 Nq101
    have pre101 : Rch p.tables e below (s₁.setTop (entryFrame m #[(.int p0), (.int p1), (.int p2), (.int p3)] maxLocals)) (T101.setTop (mkF m 51 #[.val (.int p0), .val (.int p1), .val (.int p2), .val (.int p3), .val (.int (2 : Int32)), .val (.ref a), .unset, .unset] [(.ref r)])) := fun tgt ktg => pre100 tgt (st101 tgt ktg)
    have f103 : Sta Z T101.heap "Mllp" "END" "[B" (.ref w) := own_sta_keep f94 Kq101 ns0
    have f104 : Arv Z T101.heap w kw .byte (2 : Int32) [(.int (28 : Int32)), (.int (13 : Int32))] (.int (0 : Int32)) := f95.keep Kq101 nin0
    have f105 : Arv Z T101.heap a k76 .byte (2 : Int32) [(.int v0), (.int v1)] (.int (0 : Int32)) := f98.keep Kq101 nin0
    have z106 : n0 ≤ T101.heap.size := Nat.le_trans z96 Kq101.1
    have K107 : Keep h0 T101.heap [] := K97.trans Kq101 (all0 (P := fun x => x ∈ ([] : List Addr) ∨ h0.size ≤ x))
    have pre108 : Rch p.tables e below (s₁.setTop (entryFrame m #[(.int p0), (.int p1), (.int p2), (.int p3)] maxLocals)) (T101.setTop (mkF m 60 #[.val (.int p0), .val (.int p1), .val (.int p2), .val (.int p3), .val (.int (2 : Int32)), .val (.ref a), .val (.ref r), .unset] [(.ref r)])) := fun tgt ktg => pre101 tgt (by
      show Steps p.tables e below (T101.setTop (mkF m 51 #[.val (.int p0), .val (.int p1), .val (.int p2), .val (.int p3), .val (.int (2 : Int32)), .val (.ref a), .unset, .unset] [(.ref r)])) _
      refine XS.astore X101.here hx rfl (hb hby at_51) rfl rfl (l' := #[.val (.int p0), .val (.int p1), .val (.int p2), .val (.int p3), .val (.int (2 : Int32)), .val (.ref a), .val (.ref r), .unset]) rfl ?_
      show Steps p.tables e below (T101.setTop (mkF m 53 #[.val (.int p0), .val (.int p1), .val (.int p2), .val (.int p3), .val (.int (2 : Int32)), .val (.ref a), .val (.ref r), .unset] [])) _
      refine XS.aload X101.here hx rfl (hb hby at_53) rfl rfl ?_
      show Steps p.tables e below (T101.setTop (mkF m 55 #[.val (.int p0), .val (.int p1), .val (.int p2), .val (.int p3), .val (.int (2 : Int32)), .val (.ref a), .val (.ref r), .unset] [(.ref r)])) _
      refine XS.ifnullNo X101.here hx rfl (hb hby at_55) rfl ?_
      show Steps p.tables e below (T101.setTop (mkF m 58 #[.val (.int p0), .val (.int p1), .val (.int p2), .val (.int p3), .val (.int (2 : Int32)), .val (.ref a), .val (.ref r), .unset] [])) _
      refine XS.aload X101.here hx rfl (hb hby at_58) rfl rfl ?_
      exact ktg)
    obtain ⟨cl_109, Ar_109, q_109, S_109, N_109, H_109, G_109⟩ := id ar
    have pre110 : Rch p.tables e below (s₁.setTop (entryFrame m #[(.int p0), (.int p1), (.int p2), (.int p3)] maxLocals)) (T101.setTop (mkF m 61 #[.val (.int p0), .val (.int p1), .val (.int p2), .val (.int p3), .val (.int (2 : Int32)), .val (.ref a), .val (.ref r), .unset] [(.int (5 : Int32))])) := fun tgt ktg => pre108 tgt (X101.arraylength hx Ar_109.1 (State.isArrayOf_alike hZ.alike Ar_109.2.1) (g := (mkF m 60 #[.val (.int p0), .val (.int p1), .val (.int p2), .val (.int p3), .val (.int (2 : Int32)), .val (.ref a), .val (.ref r), .unset] [(.ref r)])) rfl rfl (hb hby at_60) _ (by rw [len_of S_109 N_109]; exact ktg))
    have pre111 : Rch p.tables e below (s₁.setTop (entryFrame m #[(.int p0), (.int p1), (.int p2), (.int p3)] maxLocals)) (T101.setTop (mkF m 73 #[.val (.int p0), .val (.int p1), .val (.int p2), .val (.int p3), .val (.int (2 : Int32)), .val (.ref a), .val (.ref r), .unset] [(.int (0 : Int32)), (.ref r)])) := fun tgt ktg => pre110 tgt (by
      show Steps p.tables e below (T101.setTop (mkF m 61 #[.val (.int p0), .val (.int p1), .val (.int p2), .val (.int p3), .val (.int (2 : Int32)), .val (.ref a), .val (.ref r), .unset] [(.int (5 : Int32))])) _
      refine XS.iload X101.here hx rfl (hb hby at_61) rfl ?_
      show Steps p.tables e below (T101.setTop (mkF m 63 #[.val (.int p0), .val (.int p1), .val (.int p2), .val (.int p3), .val (.int (2 : Int32)), .val (.ref a), .val (.ref r), .unset] [(.int (2 : Int32)), (.int (5 : Int32))])) _
      refine XS.iconst X101.here hx rfl (hb hby at_63) ?_
      show Steps p.tables e below (T101.setTop (mkF m 64 #[.val (.int p0), .val (.int p1), .val (.int p2), .val (.int p3), .val (.int (2 : Int32)), .val (.ref a), .val (.ref r), .unset] [(.int (3 : Int32)), (.int (2 : Int32)), (.int (5 : Int32))])) _
      refine XS.iadd X101.here hx rfl (hb hby at_64) rfl ?_
      show Steps p.tables e below (T101.setTop (mkF m 65 #[.val (.int p0), .val (.int p1), .val (.int p2), .val (.int p3), .val (.int (2 : Int32)), .val (.ref a), .val (.ref r), .unset] [(.int (5 : Int32)), (.int (5 : Int32))])) _
      refine XS.icmpYes X101.here hx rfl (pc0 := 65) (pc' := 70) rfl (hb hby at_65) rfl (teq (rfl : (5 : Int32) = (5 : Int32))).1 (by decide) (by decide) ?_
      show Steps p.tables e below (T101.setTop (mkF m 70 #[.val (.int p0), .val (.int p1), .val (.int p2), .val (.int p3), .val (.int (2 : Int32)), .val (.ref a), .val (.ref r), .unset] [])) _
      refine XS.aload X101.here hx rfl (hb hby at_70) rfl rfl ?_
      show Steps p.tables e below (T101.setTop (mkF m 72 #[.val (.int p0), .val (.int p1), .val (.int p2), .val (.int p3), .val (.int (2 : Int32)), .val (.ref a), .val (.ref r), .unset] [(.ref r)])) _
      refine XS.iconst X101.here hx rfl (hb hby at_72) ?_
      exact ktg)
    obtain ⟨cl_112, Ar_112, q_112, S_112, N_112, H_112, G_112⟩ := id ar
    have hin_112 : ¬ ((0 : Int32) < 0 ∨ cl_112.slots.size ≤ ((0 : Int32)).toNatClampNeg) := inb_of S_112 ⟨by decide, by decide⟩
    have hat_112 : cl_112.slots[((0 : Int32)).toNatClampNeg]? = some (.int (11 : Int32)) := H_112.at hin_112 rfl
    have pre113 : Rch p.tables e below (s₁.setTop (entryFrame m #[(.int p0), (.int p1), (.int p2), (.int p3)] maxLocals)) (T101.setTop (mkF m 74 #[.val (.int p0), .val (.int p1), .val (.int p2), .val (.int p3), .val (.int (2 : Int32)), .val (.ref a), .val (.ref r), .unset] [(.int (11 : Int32))])) := fun tgt ktg => pre111 tgt (X101.baloadBytes hx (j := (0 : Int32)) (v := (.int (11 : Int32))) Ar_112.1 (State.isArrayOf_alike hZ.alike Ar_112.2.1) Ar_112.2.2 hin_112 hat_112 (g := (mkF m 73 #[.val (.int p0), .val (.int p1), .val (.int p2), .val (.int p3), .val (.int (2 : Int32)), .val (.ref a), .val (.ref r), .unset] [(.int (0 : Int32)), (.ref r)])) rfl rfl (hb hby at_73) _ ktg)
    have pre114 : Rch p.tables e below (s₁.setTop (entryFrame m #[(.int p0), (.int p1), (.int p2), (.int p3)] maxLocals)) (T101.setTop (mkF m 85 #[.val (.int p0), .val (.int p1), .val (.int p2), .val (.int p3), .val (.int (2 : Int32)), .val (.ref a), .val (.ref r), .unset] [(.int (3 : Int32)), (.ref r)])) := fun tgt ktg => pre113 tgt (by
      show Steps p.tables e below (T101.setTop (mkF m 74 #[.val (.int p0), .val (.int p1), .val (.int p2), .val (.int p3), .val (.int (2 : Int32)), .val (.ref a), .val (.ref r), .unset] [(.int (11 : Int32))])) _
      refine XS.bipush X101.here hx rfl (hb hby at_74) ?_
      show Steps p.tables e below (T101.setTop (mkF m 76 #[.val (.int p0), .val (.int p1), .val (.int p2), .val (.int p3), .val (.int (2 : Int32)), .val (.ref a), .val (.ref r), .unset] [(.int (11 : Int32)), (.int (11 : Int32))])) _
      refine XS.icmpNo X101.here hx rfl (hb hby at_76) rfl (teq (rfl : (11 : Int32) = (11 : Int32))).2 ?_
      show Steps p.tables e below (T101.setTop (mkF m 79 #[.val (.int p0), .val (.int p1), .val (.int p2), .val (.int p3), .val (.int (2 : Int32)), .val (.ref a), .val (.ref r), .unset] [])) _
      refine XS.aload X101.here hx rfl (hb hby at_79) rfl rfl ?_
      show Steps p.tables e below (T101.setTop (mkF m 81 #[.val (.int p0), .val (.int p1), .val (.int p2), .val (.int p3), .val (.int (2 : Int32)), .val (.ref a), .val (.ref r), .unset] [(.ref r)])) _
      refine XS.iload X101.here hx rfl (hb hby at_81) rfl ?_
      show Steps p.tables e below (T101.setTop (mkF m 83 #[.val (.int p0), .val (.int p1), .val (.int p2), .val (.int p3), .val (.int (2 : Int32)), .val (.ref a), .val (.ref r), .unset] [(.int (2 : Int32)), (.ref r)])) _
      refine XS.iconst X101.here hx rfl (hb hby at_83) ?_
      show Steps p.tables e below (T101.setTop (mkF m 84 #[.val (.int p0), .val (.int p1), .val (.int p2), .val (.int p3), .val (.int (2 : Int32)), .val (.ref a), .val (.ref r), .unset] [(.int (1 : Int32)), (.int (2 : Int32)), (.ref r)])) _
      refine XS.iadd X101.here hx rfl (hb hby at_84) rfl ?_
      exact ktg)
    obtain ⟨cl_115, Ar_115, q_115, S_115, N_115, H_115, G_115⟩ := id ar
    have hin_115 : ¬ ((3 : Int32) < 0 ∨ cl_115.slots.size ≤ ((3 : Int32)).toNatClampNeg) := inb_of S_115 ⟨by decide, by decide⟩
    have hat_115 : cl_115.slots[((3 : Int32)).toNatClampNeg]? = some (.int (28 : Int32)) := H_115.at hin_115 rfl
    have pre116 : Rch p.tables e below (s₁.setTop (entryFrame m #[(.int p0), (.int p1), (.int p2), (.int p3)] maxLocals)) (T101.setTop (mkF m 86 #[.val (.int p0), .val (.int p1), .val (.int p2), .val (.int p3), .val (.int (2 : Int32)), .val (.ref a), .val (.ref r), .unset] [(.int (28 : Int32))])) := fun tgt ktg => pre114 tgt (X101.baloadBytes hx (j := (3 : Int32)) (v := (.int (28 : Int32))) Ar_115.1 (State.isArrayOf_alike hZ.alike Ar_115.2.1) Ar_115.2.2 hin_115 hat_115 (g := (mkF m 85 #[.val (.int p0), .val (.int p1), .val (.int p2), .val (.int p3), .val (.int (2 : Int32)), .val (.ref a), .val (.ref r), .unset] [(.int (3 : Int32)), (.ref r)])) rfl rfl (hb hby at_85) _ ktg)
    have pre117 : Rch p.tables e below (s₁.setTop (entryFrame m #[(.int p0), (.int p1), (.int p2), (.int p3)] maxLocals)) (T101.setTop (mkF m 97 #[.val (.int p0), .val (.int p1), .val (.int p2), .val (.int p3), .val (.int (2 : Int32)), .val (.ref a), .val (.ref r), .unset] [(.int (4 : Int32)), (.ref r)])) := fun tgt ktg => pre116 tgt (by
      show Steps p.tables e below (T101.setTop (mkF m 86 #[.val (.int p0), .val (.int p1), .val (.int p2), .val (.int p3), .val (.int (2 : Int32)), .val (.ref a), .val (.ref r), .unset] [(.int (28 : Int32))])) _
      refine XS.bipush X101.here hx rfl (hb hby at_86) ?_
      show Steps p.tables e below (T101.setTop (mkF m 88 #[.val (.int p0), .val (.int p1), .val (.int p2), .val (.int p3), .val (.int (2 : Int32)), .val (.ref a), .val (.ref r), .unset] [(.int (28 : Int32)), (.int (28 : Int32))])) _
      refine XS.icmpNo X101.here hx rfl (hb hby at_88) rfl (teq (rfl : (28 : Int32) = (28 : Int32))).2 ?_
      show Steps p.tables e below (T101.setTop (mkF m 91 #[.val (.int p0), .val (.int p1), .val (.int p2), .val (.int p3), .val (.int (2 : Int32)), .val (.ref a), .val (.ref r), .unset] [])) _
      refine XS.aload X101.here hx rfl (hb hby at_91) rfl rfl ?_
      show Steps p.tables e below (T101.setTop (mkF m 93 #[.val (.int p0), .val (.int p1), .val (.int p2), .val (.int p3), .val (.int (2 : Int32)), .val (.ref a), .val (.ref r), .unset] [(.ref r)])) _
      refine XS.iload X101.here hx rfl (hb hby at_93) rfl ?_
      show Steps p.tables e below (T101.setTop (mkF m 95 #[.val (.int p0), .val (.int p1), .val (.int p2), .val (.int p3), .val (.int (2 : Int32)), .val (.ref a), .val (.ref r), .unset] [(.int (2 : Int32)), (.ref r)])) _
      refine XS.iconst X101.here hx rfl (hb hby at_95) ?_
      show Steps p.tables e below (T101.setTop (mkF m 96 #[.val (.int p0), .val (.int p1), .val (.int p2), .val (.int p3), .val (.int (2 : Int32)), .val (.ref a), .val (.ref r), .unset] [(.int (2 : Int32)), (.int (2 : Int32)), (.ref r)])) _
      refine XS.iadd X101.here hx rfl (hb hby at_96) rfl ?_
      exact ktg)
    obtain ⟨cl_118, Ar_118, q_118, S_118, N_118, H_118, G_118⟩ := id ar
    have hin_118 : ¬ ((4 : Int32) < 0 ∨ cl_118.slots.size ≤ ((4 : Int32)).toNatClampNeg) := inb_of S_118 ⟨by decide, by decide⟩
    have hat_118 : cl_118.slots[((4 : Int32)).toNatClampNeg]? = some (.int (13 : Int32)) := H_118.at hin_118 rfl
    have pre119 : Rch p.tables e below (s₁.setTop (entryFrame m #[(.int p0), (.int p1), (.int p2), (.int p3)] maxLocals)) (T101.setTop (mkF m 98 #[.val (.int p0), .val (.int p1), .val (.int p2), .val (.int p3), .val (.int (2 : Int32)), .val (.ref a), .val (.ref r), .unset] [(.int (13 : Int32))])) := fun tgt ktg => pre117 tgt (X101.baloadBytes hx (j := (4 : Int32)) (v := (.int (13 : Int32))) Ar_118.1 (State.isArrayOf_alike hZ.alike Ar_118.2.1) Ar_118.2.2 hin_118 hat_118 (g := (mkF m 97 #[.val (.int p0), .val (.int p1), .val (.int p2), .val (.int p3), .val (.int (2 : Int32)), .val (.ref a), .val (.ref r), .unset] [(.int (4 : Int32)), (.ref r)])) rfl rfl (hb hby at_97) _ ktg)
    have pre120 : Rch p.tables e below (s₁.setTop (entryFrame m #[(.int p0), (.int p1), (.int p2), (.int p3)] maxLocals)) (T101.setTop (mkF m 112 #[.val (.int p0), .val (.int p1), .val (.int p2), .val (.int p3), .val (.int (2 : Int32)), .val (.ref a), .val (.ref r), .val (.int (1 : Int32))] [(.int (2 : Int32))])) := fun tgt ktg => pre119 tgt (by
      show Steps p.tables e below (T101.setTop (mkF m 98 #[.val (.int p0), .val (.int p1), .val (.int p2), .val (.int p3), .val (.int (2 : Int32)), .val (.ref a), .val (.ref r), .unset] [(.int (13 : Int32))])) _
      refine XS.bipush X101.here hx rfl (hb hby at_98) ?_
      show Steps p.tables e below (T101.setTop (mkF m 100 #[.val (.int p0), .val (.int p1), .val (.int p2), .val (.int p3), .val (.int (2 : Int32)), .val (.ref a), .val (.ref r), .unset] [(.int (13 : Int32)), (.int (13 : Int32))])) _
      refine XS.icmpNo X101.here hx rfl (hb hby at_100) rfl (teq (rfl : (13 : Int32) = (13 : Int32))).2 ?_
      show Steps p.tables e below (T101.setTop (mkF m 103 #[.val (.int p0), .val (.int p1), .val (.int p2), .val (.int p3), .val (.int (2 : Int32)), .val (.ref a), .val (.ref r), .unset] [])) _
      refine XS.iconst X101.here hx rfl (hb hby at_103) ?_
      show Steps p.tables e below (T101.setTop (mkF m 104 #[.val (.int p0), .val (.int p1), .val (.int p2), .val (.int p3), .val (.int (2 : Int32)), .val (.ref a), .val (.ref r), .unset] [(.int (1 : Int32))])) _
      refine XS.goto X101.here hx rfl (pc0 := 104) (pc' := 108) rfl (hb hby at_104) (by decide) (by decide) ?_
      show Steps p.tables e below (T101.setTop (mkF m 108 #[.val (.int p0), .val (.int p1), .val (.int p2), .val (.int p3), .val (.int (2 : Int32)), .val (.ref a), .val (.ref r), .unset] [(.int (1 : Int32))])) _
      refine XS.istore X101.here hx rfl (hb hby at_108) rfl (l' := #[.val (.int p0), .val (.int p1), .val (.int p2), .val (.int p3), .val (.int (2 : Int32)), .val (.ref a), .val (.ref r), .val (.int (1 : Int32))]) rfl ?_
      show Steps p.tables e below (T101.setTop (mkF m 110 #[.val (.int p0), .val (.int p1), .val (.int p2), .val (.int p3), .val (.int (2 : Int32)), .val (.ref a), .val (.ref r), .val (.int (1 : Int32))] [])) _
      refine XS.iload X101.here hx rfl (hb hby at_110) rfl ?_
      exact ktg)
    have pre121 : Rch p.tables e below (s₁.setTop (entryFrame m #[(.int p0), (.int p1), (.int p2), (.int p3)] maxLocals)) (T101.setTop (mkF m 123 #[.val (.int p0), .val (.int p1), .val (.int p2), .val (.int p3), .val (.int (2 : Int32)), .val (.ref a), .val (.ref r), .val (.int (1 : Int32))] [(.int (1 : Int32)), (.ref r)])) := fun tgt ktg => pre120 tgt (by
      show Steps p.tables e below (T101.setTop (mkF m 112 #[.val (.int p0), .val (.int p1), .val (.int p2), .val (.int p3), .val (.int (2 : Int32)), .val (.ref a), .val (.ref r), .val (.int (1 : Int32))] [(.int (2 : Int32))])) _
      refine XS.ifNo X101.here hx rfl (hb hby at_112) rfl ((if0 _ _).trans (tlt (by decide : (0 : Int32) < (2 : Int32))).2.2.2) ?_
      show Steps p.tables e below (T101.setTop (mkF m 115 #[.val (.int p0), .val (.int p1), .val (.int p2), .val (.int p3), .val (.int (2 : Int32)), .val (.ref a), .val (.ref r), .val (.int (1 : Int32))] [])) _
      refine XS.iload X101.here hx rfl (hb hby at_115) rfl ?_
      show Steps p.tables e below (T101.setTop (mkF m 117 #[.val (.int p0), .val (.int p1), .val (.int p2), .val (.int p3), .val (.int (2 : Int32)), .val (.ref a), .val (.ref r), .val (.int (1 : Int32))] [(.int (1 : Int32))])) _
      refine XS.ifNo X101.here hx rfl (hb hby at_117) rfl ((if0 _ _).trans (feq (by decide : ¬ ((1 : Int32) = (0 : Int32)))).1) ?_
      show Steps p.tables e below (T101.setTop (mkF m 120 #[.val (.int p0), .val (.int p1), .val (.int p2), .val (.int p3), .val (.int (2 : Int32)), .val (.ref a), .val (.ref r), .val (.int (1 : Int32))] [])) _
      refine XS.aload X101.here hx rfl (hb hby at_120) rfl rfl ?_
      show Steps p.tables e below (T101.setTop (mkF m 122 #[.val (.int p0), .val (.int p1), .val (.int p2), .val (.int p3), .val (.int (2 : Int32)), .val (.ref a), .val (.ref r), .val (.int (1 : Int32))] [(.ref r)])) _
      refine XS.iconst X101.here hx rfl (hb hby at_122) ?_
      exact ktg)
    obtain ⟨cl_122, Ar_122, q_122, S_122, N_122, H_122, G_122⟩ := id ar
    have hin_122 : ¬ ((1 : Int32) < 0 ∨ cl_122.slots.size ≤ ((1 : Int32)).toNatClampNeg) := inb_of S_122 ⟨by decide, by decide⟩
    have hat_122 : cl_122.slots[((1 : Int32)).toNatClampNeg]? = some (.int v0) := H_122.at hin_122 rfl
    have pre123 : Rch p.tables e below (s₁.setTop (entryFrame m #[(.int p0), (.int p1), (.int p2), (.int p3)] maxLocals)) (T101.setTop (mkF m 124 #[.val (.int p0), .val (.int p1), .val (.int p2), .val (.int p3), .val (.int (2 : Int32)), .val (.ref a), .val (.ref r), .val (.int (1 : Int32))] [(.int v0)])) := fun tgt ktg => pre121 tgt (X101.baloadBytes hx (j := (1 : Int32)) (v := (.int v0)) Ar_122.1 (State.isArrayOf_alike hZ.alike Ar_122.2.1) Ar_122.2.2 hin_122 hat_122 (g := (mkF m 123 #[.val (.int p0), .val (.int p1), .val (.int p2), .val (.int p3), .val (.int (2 : Int32)), .val (.ref a), .val (.ref r), .val (.int (1 : Int32))] [(.int (1 : Int32)), (.ref r)])) rfl rfl (hb hby at_123) _ ktg)
    have pre124 : Rch p.tables e below (s₁.setTop (entryFrame m #[(.int p0), (.int p1), (.int p2), (.int p3)] maxLocals)) (T101.setTop (mkF m 132 #[.val (.int p0), .val (.int p1), .val (.int p2), .val (.int p3), .val (.int (2 : Int32)), .val (.ref a), .val (.ref r), .val (.int (1 : Int32))] [(.int (0 : Int32)), (.ref a)])) := fun tgt ktg => pre123 tgt (by
      show Steps p.tables e below (T101.setTop (mkF m 124 #[.val (.int p0), .val (.int p1), .val (.int p2), .val (.int p3), .val (.int (2 : Int32)), .val (.ref a), .val (.ref r), .val (.int (1 : Int32))] [(.int v0)])) _
      refine XS.iloadN X101.here hx rfl (hb hby at_124) rfl ?_
      show Steps p.tables e below (T101.setTop (mkF m 125 #[.val (.int p0), .val (.int p1), .val (.int p2), .val (.int p3), .val (.int (2 : Int32)), .val (.ref a), .val (.ref r), .val (.int (1 : Int32))] [(.int p1), (.int v0)])) _
      refine XT.i2b X101.here hx rfl (hb hby at_125) rfl ?_
      show Steps p.tables e below (T101.setTop (mkF m 126 #[.val (.int p0), .val (.int p1), .val (.int p2), .val (.int p3), .val (.int (2 : Int32)), .val (.ref a), .val (.ref r), .val (.int (1 : Int32))] [(.int (p1.toInt8.toInt32)), (.int v0)])) _
      refine XS.icmpNo X101.here hx rfl (hb hby at_126) rfl (teq hv0).2 ?_
      show Steps p.tables e below (T101.setTop (mkF m 129 #[.val (.int p0), .val (.int p1), .val (.int p2), .val (.int p3), .val (.int (2 : Int32)), .val (.ref a), .val (.ref r), .val (.int (1 : Int32))] [])) _
      refine XS.aload X101.here hx rfl (hb hby at_129) rfl rfl ?_
      show Steps p.tables e below (T101.setTop (mkF m 131 #[.val (.int p0), .val (.int p1), .val (.int p2), .val (.int p3), .val (.int (2 : Int32)), .val (.ref a), .val (.ref r), .val (.int (1 : Int32))] [(.ref a)])) _
      refine XS.iconst X101.here hx rfl (hb hby at_131) ?_
      exact ktg)
    obtain ⟨cl_125, Ar_125, q_125, S_125, N_125, H_125, G_125⟩ := id f105
    have hin_125 : ¬ ((0 : Int32) < 0 ∨ cl_125.slots.size ≤ ((0 : Int32)).toNatClampNeg) := inb_of S_125 ⟨by decide, by decide⟩
    have hat_125 : cl_125.slots[((0 : Int32)).toNatClampNeg]? = some (.int v0) := H_125.at hin_125 rfl
    have pre126 : Rch p.tables e below (s₁.setTop (entryFrame m #[(.int p0), (.int p1), (.int p2), (.int p3)] maxLocals)) (T101.setTop (mkF m 133 #[.val (.int p0), .val (.int p1), .val (.int p2), .val (.int p3), .val (.int (2 : Int32)), .val (.ref a), .val (.ref r), .val (.int (1 : Int32))] [(.int v0)])) := fun tgt ktg => pre124 tgt (X101.baloadBytes hx (j := (0 : Int32)) (v := (.int v0)) Ar_125.1 (State.isArrayOf_alike hZ.alike Ar_125.2.1) Ar_125.2.2 hin_125 hat_125 (g := (mkF m 132 #[.val (.int p0), .val (.int p1), .val (.int p2), .val (.int p3), .val (.int (2 : Int32)), .val (.ref a), .val (.ref r), .val (.int (1 : Int32))] [(.int (0 : Int32)), (.ref a)])) rfl rfl (hb hby at_132) _ ktg)
    have pre127 : Rch p.tables e below (s₁.setTop (entryFrame m #[(.int p0), (.int p1), (.int p2), (.int p3)] maxLocals)) (T101.setTop (mkF m 145 #[.val (.int p0), .val (.int p1), .val (.int p2), .val (.int p3), .val (.int (2 : Int32)), .val (.ref a), .val (.ref r), .val (.int (1 : Int32))] [])) := fun tgt ktg => pre126 tgt (by
      show Steps p.tables e below (T101.setTop (mkF m 133 #[.val (.int p0), .val (.int p1), .val (.int p2), .val (.int p3), .val (.int (2 : Int32)), .val (.ref a), .val (.ref r), .val (.int (1 : Int32))] [(.int v0)])) _
      refine XS.iloadN X101.here hx rfl (hb hby at_133) rfl ?_
      show Steps p.tables e below (T101.setTop (mkF m 134 #[.val (.int p0), .val (.int p1), .val (.int p2), .val (.int p3), .val (.int (2 : Int32)), .val (.ref a), .val (.ref r), .val (.int (1 : Int32))] [(.int p1), (.int v0)])) _
      refine XT.i2b X101.here hx rfl (hb hby at_134) rfl ?_
      show Steps p.tables e below (T101.setTop (mkF m 135 #[.val (.int p0), .val (.int p1), .val (.int p2), .val (.int p3), .val (.int (2 : Int32)), .val (.ref a), .val (.ref r), .val (.int (1 : Int32))] [(.int (p1.toInt8.toInt32)), (.int v0)])) _
      refine XS.icmpNo X101.here hx rfl (hb hby at_135) rfl (teq hv0).2 ?_
      show Steps p.tables e below (T101.setTop (mkF m 138 #[.val (.int p0), .val (.int p1), .val (.int p2), .val (.int p3), .val (.int (2 : Int32)), .val (.ref a), .val (.ref r), .val (.int (1 : Int32))] [])) _
      refine XS.iconst X101.here hx rfl (hb hby at_138) ?_
      show Steps p.tables e below (T101.setTop (mkF m 139 #[.val (.int p0), .val (.int p1), .val (.int p2), .val (.int p3), .val (.int (2 : Int32)), .val (.ref a), .val (.ref r), .val (.int (1 : Int32))] [(.int (1 : Int32))])) _
      refine XS.goto X101.here hx rfl (pc0 := 139) (pc' := 143) rfl (hb hby at_139) (by decide) (by decide) ?_
      show Steps p.tables e below (T101.setTop (mkF m 143 #[.val (.int p0), .val (.int p1), .val (.int p2), .val (.int p3), .val (.int (2 : Int32)), .val (.ref a), .val (.ref r), .val (.int (1 : Int32))] [(.int (1 : Int32))])) _
      refine XS.istore X101.here hx rfl (hb hby at_143) rfl (l' := #[.val (.int p0), .val (.int p1), .val (.int p2), .val (.int p3), .val (.int (2 : Int32)), .val (.ref a), .val (.ref r), .val (.int (1 : Int32))]) rfl ?_
      exact ktg)
    have pre128 : Rch p.tables e below (s₁.setTop (entryFrame m #[(.int p0), (.int p1), (.int p2), (.int p3)] maxLocals)) (T101.setTop (mkF m 159 #[.val (.int p0), .val (.int p1), .val (.int p2), .val (.int p3), .val (.int (2 : Int32)), .val (.ref a), .val (.ref r), .val (.int (1 : Int32))] [(.int (2 : Int32)), (.ref r)])) := fun tgt ktg => pre127 tgt (by
      show Steps p.tables e below (T101.setTop (mkF m 145 #[.val (.int p0), .val (.int p1), .val (.int p2), .val (.int p3), .val (.int (2 : Int32)), .val (.ref a), .val (.ref r), .val (.int (1 : Int32))] [])) _
      refine XS.iload X101.here hx rfl (hb hby at_145) rfl ?_
      show Steps p.tables e below (T101.setTop (mkF m 147 #[.val (.int p0), .val (.int p1), .val (.int p2), .val (.int p3), .val (.int (2 : Int32)), .val (.ref a), .val (.ref r), .val (.int (1 : Int32))] [(.int (2 : Int32))])) _
      refine XS.iconst X101.here hx rfl (hb hby at_147) ?_
      show Steps p.tables e below (T101.setTop (mkF m 148 #[.val (.int p0), .val (.int p1), .val (.int p2), .val (.int p3), .val (.int (2 : Int32)), .val (.ref a), .val (.ref r), .val (.int (1 : Int32))] [(.int (1 : Int32)), (.int (2 : Int32))])) _
      refine XS.icmpNo X101.here hx rfl (hb hby at_148) rfl (tlt (by decide : (1 : Int32) < (2 : Int32))).2.2.2 ?_
      show Steps p.tables e below (T101.setTop (mkF m 151 #[.val (.int p0), .val (.int p1), .val (.int p2), .val (.int p3), .val (.int (2 : Int32)), .val (.ref a), .val (.ref r), .val (.int (1 : Int32))] [])) _
      refine XS.iload X101.here hx rfl (hb hby at_151) rfl ?_
      show Steps p.tables e below (T101.setTop (mkF m 153 #[.val (.int p0), .val (.int p1), .val (.int p2), .val (.int p3), .val (.int (2 : Int32)), .val (.ref a), .val (.ref r), .val (.int (1 : Int32))] [(.int (1 : Int32))])) _
      refine XS.ifNo X101.here hx rfl (hb hby at_153) rfl ((if0 _ _).trans (feq (by decide : ¬ ((1 : Int32) = (0 : Int32)))).1) ?_
      show Steps p.tables e below (T101.setTop (mkF m 156 #[.val (.int p0), .val (.int p1), .val (.int p2), .val (.int p3), .val (.int (2 : Int32)), .val (.ref a), .val (.ref r), .val (.int (1 : Int32))] [])) _
      refine XS.aload X101.here hx rfl (hb hby at_156) rfl rfl ?_
      show Steps p.tables e below (T101.setTop (mkF m 158 #[.val (.int p0), .val (.int p1), .val (.int p2), .val (.int p3), .val (.int (2 : Int32)), .val (.ref a), .val (.ref r), .val (.int (1 : Int32))] [(.ref r)])) _
      refine XS.iconst X101.here hx rfl (hb hby at_158) ?_
      exact ktg)
    obtain ⟨cl_129, Ar_129, q_129, S_129, N_129, H_129, G_129⟩ := id ar
    have hin_129 : ¬ ((2 : Int32) < 0 ∨ cl_129.slots.size ≤ ((2 : Int32)).toNatClampNeg) := inb_of S_129 ⟨by decide, by decide⟩
    have hat_129 : cl_129.slots[((2 : Int32)).toNatClampNeg]? = some (.int v1) := H_129.at hin_129 rfl
    have pre130 : Rch p.tables e below (s₁.setTop (entryFrame m #[(.int p0), (.int p1), (.int p2), (.int p3)] maxLocals)) (T101.setTop (mkF m 160 #[.val (.int p0), .val (.int p1), .val (.int p2), .val (.int p3), .val (.int (2 : Int32)), .val (.ref a), .val (.ref r), .val (.int (1 : Int32))] [(.int v1)])) := fun tgt ktg => pre128 tgt (X101.baloadBytes hx (j := (2 : Int32)) (v := (.int v1)) Ar_129.1 (State.isArrayOf_alike hZ.alike Ar_129.2.1) Ar_129.2.2 hin_129 hat_129 (g := (mkF m 159 #[.val (.int p0), .val (.int p1), .val (.int p2), .val (.int p3), .val (.int (2 : Int32)), .val (.ref a), .val (.ref r), .val (.int (1 : Int32))] [(.int (2 : Int32)), (.ref r)])) rfl rfl (hb hby at_159) _ ktg)
    have pre131 : Rch p.tables e below (s₁.setTop (entryFrame m #[(.int p0), (.int p1), (.int p2), (.int p3)] maxLocals)) (T101.setTop (mkF m 168 #[.val (.int p0), .val (.int p1), .val (.int p2), .val (.int p3), .val (.int (2 : Int32)), .val (.ref a), .val (.ref r), .val (.int (1 : Int32))] [(.int (1 : Int32)), (.ref a)])) := fun tgt ktg => pre130 tgt (by
      show Steps p.tables e below (T101.setTop (mkF m 160 #[.val (.int p0), .val (.int p1), .val (.int p2), .val (.int p3), .val (.int (2 : Int32)), .val (.ref a), .val (.ref r), .val (.int (1 : Int32))] [(.int v1)])) _
      refine XS.iloadN X101.here hx rfl (hb hby at_160) rfl ?_
      show Steps p.tables e below (T101.setTop (mkF m 161 #[.val (.int p0), .val (.int p1), .val (.int p2), .val (.int p3), .val (.int (2 : Int32)), .val (.ref a), .val (.ref r), .val (.int (1 : Int32))] [(.int p2), (.int v1)])) _
      refine XT.i2b X101.here hx rfl (hb hby at_161) rfl ?_
      show Steps p.tables e below (T101.setTop (mkF m 162 #[.val (.int p0), .val (.int p1), .val (.int p2), .val (.int p3), .val (.int (2 : Int32)), .val (.ref a), .val (.ref r), .val (.int (1 : Int32))] [(.int (p2.toInt8.toInt32)), (.int v1)])) _
      refine XS.icmpNo X101.here hx rfl (hb hby at_162) rfl (teq hv1).2 ?_
      show Steps p.tables e below (T101.setTop (mkF m 165 #[.val (.int p0), .val (.int p1), .val (.int p2), .val (.int p3), .val (.int (2 : Int32)), .val (.ref a), .val (.ref r), .val (.int (1 : Int32))] [])) _
      refine XS.aload X101.here hx rfl (hb hby at_165) rfl rfl ?_
      show Steps p.tables e below (T101.setTop (mkF m 167 #[.val (.int p0), .val (.int p1), .val (.int p2), .val (.int p3), .val (.int (2 : Int32)), .val (.ref a), .val (.ref r), .val (.int (1 : Int32))] [(.ref a)])) _
      refine XS.iconst X101.here hx rfl (hb hby at_167) ?_
      exact ktg)
    obtain ⟨cl_132, Ar_132, q_132, S_132, N_132, H_132, G_132⟩ := id f105
    have hin_132 : ¬ ((1 : Int32) < 0 ∨ cl_132.slots.size ≤ ((1 : Int32)).toNatClampNeg) := inb_of S_132 ⟨by decide, by decide⟩
    have hat_132 : cl_132.slots[((1 : Int32)).toNatClampNeg]? = some (.int v1) := H_132.at hin_132 rfl
    have pre133 : Rch p.tables e below (s₁.setTop (entryFrame m #[(.int p0), (.int p1), (.int p2), (.int p3)] maxLocals)) (T101.setTop (mkF m 169 #[.val (.int p0), .val (.int p1), .val (.int p2), .val (.int p3), .val (.int (2 : Int32)), .val (.ref a), .val (.ref r), .val (.int (1 : Int32))] [(.int v1)])) := fun tgt ktg => pre131 tgt (X101.baloadBytes hx (j := (1 : Int32)) (v := (.int v1)) Ar_132.1 (State.isArrayOf_alike hZ.alike Ar_132.2.1) Ar_132.2.2 hin_132 hat_132 (g := (mkF m 168 #[.val (.int p0), .val (.int p1), .val (.int p2), .val (.int p3), .val (.int (2 : Int32)), .val (.ref a), .val (.ref r), .val (.int (1 : Int32))] [(.int (1 : Int32)), (.ref a)])) rfl rfl (hb hby at_168) _ ktg)
    have pre134 : Rch p.tables e below (s₁.setTop (entryFrame m #[(.int p0), (.int p1), (.int p2), (.int p3)] maxLocals)) (T101.setTop (mkF m 181 #[.val (.int p0), .val (.int p1), .val (.int p2), .val (.int p3), .val (.int (2 : Int32)), .val (.ref a), .val (.ref r), .val (.int (1 : Int32))] [])) := fun tgt ktg => pre133 tgt (by
      show Steps p.tables e below (T101.setTop (mkF m 169 #[.val (.int p0), .val (.int p1), .val (.int p2), .val (.int p3), .val (.int (2 : Int32)), .val (.ref a), .val (.ref r), .val (.int (1 : Int32))] [(.int v1)])) _
      refine XS.iloadN X101.here hx rfl (hb hby at_169) rfl ?_
      show Steps p.tables e below (T101.setTop (mkF m 170 #[.val (.int p0), .val (.int p1), .val (.int p2), .val (.int p3), .val (.int (2 : Int32)), .val (.ref a), .val (.ref r), .val (.int (1 : Int32))] [(.int p2), (.int v1)])) _
      refine XT.i2b X101.here hx rfl (hb hby at_170) rfl ?_
      show Steps p.tables e below (T101.setTop (mkF m 171 #[.val (.int p0), .val (.int p1), .val (.int p2), .val (.int p3), .val (.int (2 : Int32)), .val (.ref a), .val (.ref r), .val (.int (1 : Int32))] [(.int (p2.toInt8.toInt32)), (.int v1)])) _
      refine XS.icmpNo X101.here hx rfl (hb hby at_171) rfl (teq hv1).2 ?_
      show Steps p.tables e below (T101.setTop (mkF m 174 #[.val (.int p0), .val (.int p1), .val (.int p2), .val (.int p3), .val (.int (2 : Int32)), .val (.ref a), .val (.ref r), .val (.int (1 : Int32))] [])) _
      refine XS.iconst X101.here hx rfl (hb hby at_174) ?_
      show Steps p.tables e below (T101.setTop (mkF m 175 #[.val (.int p0), .val (.int p1), .val (.int p2), .val (.int p3), .val (.int (2 : Int32)), .val (.ref a), .val (.ref r), .val (.int (1 : Int32))] [(.int (1 : Int32))])) _
      refine XS.goto X101.here hx rfl (pc0 := 175) (pc' := 179) rfl (hb hby at_175) (by decide) (by decide) ?_
      show Steps p.tables e below (T101.setTop (mkF m 179 #[.val (.int p0), .val (.int p1), .val (.int p2), .val (.int p3), .val (.int (2 : Int32)), .val (.ref a), .val (.ref r), .val (.int (1 : Int32))] [(.int (1 : Int32))])) _
      refine XS.istore X101.here hx rfl (hb hby at_179) rfl (l' := #[.val (.int p0), .val (.int p1), .val (.int p2), .val (.int p3), .val (.int (2 : Int32)), .val (.ref a), .val (.ref r), .val (.int (1 : Int32))]) rfl ?_
      exact ktg)
    have pre135 : Rch p.tables e below (s₁.setTop (entryFrame m #[(.int p0), (.int p1), (.int p2), (.int p3)] maxLocals)) (T101.setTop (mkF m 219 #[.val (.int p0), .val (.int p1), .val (.int p2), .val (.int p3), .val (.int (2 : Int32)), .val (.ref a), .val (.ref r), .val (.int (1 : Int32))] [(.int (1 : Int32))])) := fun tgt ktg => pre134 tgt (by
      show Steps p.tables e below (T101.setTop (mkF m 181 #[.val (.int p0), .val (.int p1), .val (.int p2), .val (.int p3), .val (.int (2 : Int32)), .val (.ref a), .val (.ref r), .val (.int (1 : Int32))] [])) _
      refine XS.iload X101.here hx rfl (hb hby at_181) rfl ?_
      show Steps p.tables e below (T101.setTop (mkF m 183 #[.val (.int p0), .val (.int p1), .val (.int p2), .val (.int p3), .val (.int (2 : Int32)), .val (.ref a), .val (.ref r), .val (.int (1 : Int32))] [(.int (2 : Int32))])) _
      refine XS.iconst X101.here hx rfl (hb hby at_183) ?_
      show Steps p.tables e below (T101.setTop (mkF m 184 #[.val (.int p0), .val (.int p1), .val (.int p2), .val (.int p3), .val (.int (2 : Int32)), .val (.ref a), .val (.ref r), .val (.int (1 : Int32))] [(.int (2 : Int32)), (.int (2 : Int32))])) _
      refine XS.icmpYes X101.here hx rfl (pc0 := 184) (pc' := 217) rfl (hb hby at_184) rfl (flt (by decide : ¬ ((2 : Int32) < (2 : Int32)))).2.2.2 (by decide) (by decide) ?_
      show Steps p.tables e below (T101.setTop (mkF m 217 #[.val (.int p0), .val (.int p1), .val (.int p2), .val (.int p3), .val (.int (2 : Int32)), .val (.ref a), .val (.ref r), .val (.int (1 : Int32))] [])) _
      refine XS.iload X101.here hx rfl (hb hby at_217) rfl ?_
      exact ktg)
    obtain ⟨fs, hr, hrun, hended, hW, hsame⟩ := X101.leave (v := some (.int (1 : Int32))) (fun h => by rw [Bd.returns] at h; cases h)
    refine ⟨_, _, pre135 _ ?_, hrun, hended, _, _, rfl, ?_, ⟨_, rfl⟩, hW, hsame.mono (by decide) (by decide)⟩
    · show Steps p.tables e below (T101.setTop (mkF m 219 #[.val (.int p0), .val (.int p1), .val (.int p2), .val (.int p3), .val (.int (2 : Int32)), .val (.ref a), .val (.ref r), .val (.int (1 : Int32))] [(.int (1 : Int32))])) _
      exact retN X101 hx (t := .boolean) Bd.returns (by simp) (hb hby at_219) hr
    · show Q0 Z p0 p1 p2 p3 h0 n0 _ T101.heap _
      exact ⟨rfl, N102⟩
  · skip
    subst hn
    obtain ⟨v0, hv0⟩ : ∃ z : Int32, z = (p1.toInt8.toInt32) := ⟨_, rfl⟩
    have na0 : nar .byte (p1.toInt8.toInt32) = v0 := by rw [hv0]; exact own_nar _
    obtain ⟨v1, hv1⟩ : ∃ z : Int32, z = (p2.toInt8.toInt32) := ⟨_, rfl⟩
    have na1 : nar .byte (p2.toInt8.toInt32) = v1 := by rw [hv1]; exact own_nar _
    obtain ⟨v2, hv2⟩ : ∃ z : Int32, z = (p3.toInt8.toInt32) := ⟨_, rfl⟩
    have na2 : nar .byte (p3.toInt8.toInt32) = v2 := by rw [hv2]; exact own_nar _
    obtain ⟨T136, h136, k136, X136, e136, E136, A136, st136⟩ := newP X0 hx hZ (hw _ (List.mem_of_getElem? (i := 0) rfl)) e0 (g := (mkF m 7 #[.val (.int p0), .val (.int p1), .val (.int p2), .val (.int p3), .val (.int (3 : Int32)), .unset, .unset, .unset] [(.int (3 : Int32))])) rfl (hb hby at_7) rfl (by decide) (cap := 3) (by decide) (by decide) (by decide) (by decide)
    obtain ⟨a, g136⟩ : ∃ nm_, nm_ = h0.size := ⟨_, rfl⟩
    rw [← g136] at A136 st136
    have ne_w_a : w ≠ a := Nat.ne_of_lt (Nat.lt_of_lt_of_le AE.lt (Nat.le_of_eq g136.symm))
    have g_a : n0 ≤ a := Nat.le_trans Z0 (Nat.le_of_eq g136.symm)
    have sz_a : h0.size ≤ a := Nat.le_trans K0.1 (Nat.le_of_eq g136.symm)
    have pre136 : Rch p.tables e below (s₁.setTop (entryFrame m #[(.int p0), (.int p1), (.int p2), (.int p3)] maxLocals)) (T136.setTop (mkF m 9 #[.val (.int p0), .val (.int p1), .val (.int p2), .val (.int p3), .val (.int (3 : Int32)), .unset, .unset, .unset] [(.ref a)])) := fun tgt ktg => pre3 tgt (st136 tgt ktg)
    have f137 : Sta Z h136 "Mllp" "END" "[B" (.ref w) := S1.ext E136
    have f138 : Arv Z h136 w kw .byte (2 : Int32) [(.int (28 : Int32)), (.int (13 : Int32))] (.int (0 : Int32)) := AE.ext E136
    have z139 : n0 ≤ h136.size := Nat.le_trans Z0 E136.1
    have K140 : Keep h0 h136 [] := K0.ext E136
    have f141 : Arv Z h136 a k136 .byte (3 : Int32) [(.int (0 : Int32)), (.int (0 : Int32)), (.int (0 : Int32))] (.int (0 : Int32)) := (Arv.new A136 (by decide)).pad (pad_rep [] (.int (0 : Int32)) 3)
    have pre142 : Rch p.tables e below (s₁.setTop (entryFrame m #[(.int p0), (.int p1), (.int p2), (.int p3)] maxLocals)) (T136.setTop (mkF m 21 #[.val (.int p0), .val (.int p1), .val (.int p2), .val (.int p3), .val (.int (3 : Int32)), .val (.ref a), .unset, .unset] [(.int (p1.toInt8.toInt32)), (.int (0 : Int32)), (.ref a)])) := fun tgt ktg => pre136 tgt (by
      show Steps p.tables e below (T136.setTop (mkF m 9 #[.val (.int p0), .val (.int p1), .val (.int p2), .val (.int p3), .val (.int (3 : Int32)), .unset, .unset, .unset] [(.ref a)])) _
      refine XS.astore X136.here hx rfl (hb hby at_9) rfl rfl (l' := #[.val (.int p0), .val (.int p1), .val (.int p2), .val (.int p3), .val (.int (3 : Int32)), .val (.ref a), .unset, .unset]) rfl ?_
      show Steps p.tables e below (T136.setTop (mkF m 11 #[.val (.int p0), .val (.int p1), .val (.int p2), .val (.int p3), .val (.int (3 : Int32)), .val (.ref a), .unset, .unset] [])) _
      refine XS.iload X136.here hx rfl (hb hby at_11) rfl ?_
      show Steps p.tables e below (T136.setTop (mkF m 13 #[.val (.int p0), .val (.int p1), .val (.int p2), .val (.int p3), .val (.int (3 : Int32)), .val (.ref a), .unset, .unset] [(.int (3 : Int32))])) _
      refine XS.ifNo X136.here hx rfl (hb hby at_13) rfl ((if0 _ _).trans (tlt (by decide : (0 : Int32) < (3 : Int32))).2.2.2) ?_
      show Steps p.tables e below (T136.setTop (mkF m 16 #[.val (.int p0), .val (.int p1), .val (.int p2), .val (.int p3), .val (.int (3 : Int32)), .val (.ref a), .unset, .unset] [])) _
      refine XS.aload X136.here hx rfl (hb hby at_16) rfl rfl ?_
      show Steps p.tables e below (T136.setTop (mkF m 18 #[.val (.int p0), .val (.int p1), .val (.int p2), .val (.int p3), .val (.int (3 : Int32)), .val (.ref a), .unset, .unset] [(.ref a)])) _
      refine XS.iconst X136.here hx rfl (hb hby at_18) ?_
      show Steps p.tables e below (T136.setTop (mkF m 19 #[.val (.int p0), .val (.int p1), .val (.int p2), .val (.int p3), .val (.int (3 : Int32)), .val (.ref a), .unset, .unset] [(.int (0 : Int32)), (.ref a)])) _
      refine XS.iloadN X136.here hx rfl (hb hby at_19) rfl ?_
      show Steps p.tables e below (T136.setTop (mkF m 20 #[.val (.int p0), .val (.int p1), .val (.int p2), .val (.int p3), .val (.int (3 : Int32)), .val (.ref a), .unset, .unset] [(.int p1), (.int (0 : Int32)), (.ref a)])) _
      refine XT.i2b X136.here hx rfl (hb hby at_20) rfl ?_
      exact ktg)
    obtain ⟨cl_143, Ar_143, q_143, S_143, N_143, H_143, G_143⟩ := id f141
    have hin_143 : ¬ ((0 : Int32) < 0 ∨ cl_143.slots.size ≤ ((0 : Int32)).toNatClampNeg) := inb_of S_143 ⟨by decide, by decide⟩
    obtain ⟨T144, h144, X144, e144, W144, st144⟩ := stB X136 hx hZ e136 Ar_143 (j := (0 : Int32)) hin_143 (g := (mkF m 21 #[.val (.int p0), .val (.int p1), .val (.int p2), .val (.int p3), .val (.int (3 : Int32)), .val (.ref a), .unset, .unset] [(.int (p1.toInt8.toInt32)), (.int (0 : Int32)), (.ref a)])) rfl rfl (hb hby at_21)
    have pre144 : Rch p.tables e below (s₁.setTop (entryFrame m #[(.int p0), (.int p1), (.int p2), (.int p3)] maxLocals)) (T144.setTop (mkF m 22 #[.val (.int p0), .val (.int p1), .val (.int p2), .val (.int p3), .val (.int (3 : Int32)), .val (.ref a), .unset, .unset] [])) := fun tgt ktg => pre142 tgt (st144 tgt ktg)
    have f145 : Sta Z h144 "Mllp" "END" "[B" (.ref w) := f137.wr W144
    have f146 : Arv Z h144 w kw .byte (2 : Int32) [(.int (28 : Int32)), (.int (13 : Int32))] (.int (0 : Int32)) := f138.other W144 ne_w_a
    have z147 : n0 ≤ h144.size := Nat.le_trans z139 (Keep.of_wr W144).1
    have K148 : Keep h0 h144 [] := K140.wr W144 (Or.inr sz_a)
    have f149 : Arv Z h144 a k136 .byte (3 : Int32) [(.int (nar .byte (p1.toInt8.toInt32))), (.int (0 : Int32)), (.int (0 : Int32))] (.int (0 : Int32)) := Arv.set Ar_143 q_143 S_143 N_143 H_143 G_143 (fits_nar_byte _) W144 0 rfl (Nat.le_of_ble_eq_true rfl)
    have N150 := Fr.snoc X144 N0 g_a
    rw [na0] at f149
    have pre151 : Rch p.tables e below (s₁.setTop (entryFrame m #[(.int p0), (.int p1), (.int p2), (.int p3)] maxLocals)) (T144.setTop (mkF m 33 #[.val (.int p0), .val (.int p1), .val (.int p2), .val (.int p3), .val (.int (3 : Int32)), .val (.ref a), .unset, .unset] [(.int (p2.toInt8.toInt32)), (.int (1 : Int32)), (.ref a)])) := fun tgt ktg => pre144 tgt (by
      show Steps p.tables e below (T144.setTop (mkF m 22 #[.val (.int p0), .val (.int p1), .val (.int p2), .val (.int p3), .val (.int (3 : Int32)), .val (.ref a), .unset, .unset] [])) _
      refine XS.iload X144.here hx rfl (hb hby at_22) rfl ?_
      show Steps p.tables e below (T144.setTop (mkF m 24 #[.val (.int p0), .val (.int p1), .val (.int p2), .val (.int p3), .val (.int (3 : Int32)), .val (.ref a), .unset, .unset] [(.int (3 : Int32))])) _
      refine XS.iconst X144.here hx rfl (hb hby at_24) ?_
      show Steps p.tables e below (T144.setTop (mkF m 25 #[.val (.int p0), .val (.int p1), .val (.int p2), .val (.int p3), .val (.int (3 : Int32)), .val (.ref a), .unset, .unset] [(.int (1 : Int32)), (.int (3 : Int32))])) _
      refine XS.icmpNo X144.here hx rfl (hb hby at_25) rfl (tlt (by decide : (1 : Int32) < (3 : Int32))).2.2.2 ?_
      show Steps p.tables e below (T144.setTop (mkF m 28 #[.val (.int p0), .val (.int p1), .val (.int p2), .val (.int p3), .val (.int (3 : Int32)), .val (.ref a), .unset, .unset] [])) _
      refine XS.aload X144.here hx rfl (hb hby at_28) rfl rfl ?_
      show Steps p.tables e below (T144.setTop (mkF m 30 #[.val (.int p0), .val (.int p1), .val (.int p2), .val (.int p3), .val (.int (3 : Int32)), .val (.ref a), .unset, .unset] [(.ref a)])) _
      refine XS.iconst X144.here hx rfl (hb hby at_30) ?_
      show Steps p.tables e below (T144.setTop (mkF m 31 #[.val (.int p0), .val (.int p1), .val (.int p2), .val (.int p3), .val (.int (3 : Int32)), .val (.ref a), .unset, .unset] [(.int (1 : Int32)), (.ref a)])) _
      refine XS.iloadN X144.here hx rfl (hb hby at_31) rfl ?_
      show Steps p.tables e below (T144.setTop (mkF m 32 #[.val (.int p0), .val (.int p1), .val (.int p2), .val (.int p3), .val (.int (3 : Int32)), .val (.ref a), .unset, .unset] [(.int p2), (.int (1 : Int32)), (.ref a)])) _
      refine XT.i2b X144.here hx rfl (hb hby at_32) rfl ?_
      exact ktg)
    obtain ⟨cl_152, Ar_152, q_152, S_152, N_152, H_152, G_152⟩ := id f149
    have hin_152 : ¬ ((1 : Int32) < 0 ∨ cl_152.slots.size ≤ ((1 : Int32)).toNatClampNeg) := inb_of S_152 ⟨by decide, by decide⟩
    obtain ⟨T153, h153, X153, e153, W153, st153⟩ := stB X144 hx hZ e144 Ar_152 (j := (1 : Int32)) hin_152 (g := (mkF m 33 #[.val (.int p0), .val (.int p1), .val (.int p2), .val (.int p3), .val (.int (3 : Int32)), .val (.ref a), .unset, .unset] [(.int (p2.toInt8.toInt32)), (.int (1 : Int32)), (.ref a)])) rfl rfl (hb hby at_33)
    have pre153 : Rch p.tables e below (s₁.setTop (entryFrame m #[(.int p0), (.int p1), (.int p2), (.int p3)] maxLocals)) (T153.setTop (mkF m 34 #[.val (.int p0), .val (.int p1), .val (.int p2), .val (.int p3), .val (.int (3 : Int32)), .val (.ref a), .unset, .unset] [])) := fun tgt ktg => pre151 tgt (st153 tgt ktg)
    have f154 : Sta Z h153 "Mllp" "END" "[B" (.ref w) := f145.wr W153
    have f155 : Arv Z h153 w kw .byte (2 : Int32) [(.int (28 : Int32)), (.int (13 : Int32))] (.int (0 : Int32)) := f146.other W153 ne_w_a
    have z156 : n0 ≤ h153.size := Nat.le_trans z147 (Keep.of_wr W153).1
    have K157 : Keep h0 h153 [] := K148.wr W153 (Or.inr sz_a)
    have f158 : Arv Z h153 a k136 .byte (3 : Int32) [(.int v0), (.int (nar .byte (p2.toInt8.toInt32))), (.int (0 : Int32))] (.int (0 : Int32)) := Arv.set Ar_152 q_152 S_152 N_152 H_152 G_152 (fits_nar_byte _) W153 1 rfl (Nat.le_of_ble_eq_true rfl)
    have N159 := Fr.snoc X153 N150 g_a
    rw [na1] at f158
    have pre160 : Rch p.tables e below (s₁.setTop (entryFrame m #[(.int p0), (.int p1), (.int p2), (.int p3)] maxLocals)) (T153.setTop (mkF m 45 #[.val (.int p0), .val (.int p1), .val (.int p2), .val (.int p3), .val (.int (3 : Int32)), .val (.ref a), .unset, .unset] [(.int (p3.toInt8.toInt32)), (.int (2 : Int32)), (.ref a)])) := fun tgt ktg => pre153 tgt (by
      show Steps p.tables e below (T153.setTop (mkF m 34 #[.val (.int p0), .val (.int p1), .val (.int p2), .val (.int p3), .val (.int (3 : Int32)), .val (.ref a), .unset, .unset] [])) _
      refine XS.iload X153.here hx rfl (hb hby at_34) rfl ?_
      show Steps p.tables e below (T153.setTop (mkF m 36 #[.val (.int p0), .val (.int p1), .val (.int p2), .val (.int p3), .val (.int (3 : Int32)), .val (.ref a), .unset, .unset] [(.int (3 : Int32))])) _
      refine XS.iconst X153.here hx rfl (hb hby at_36) ?_
      show Steps p.tables e below (T153.setTop (mkF m 37 #[.val (.int p0), .val (.int p1), .val (.int p2), .val (.int p3), .val (.int (3 : Int32)), .val (.ref a), .unset, .unset] [(.int (2 : Int32)), (.int (3 : Int32))])) _
      refine XS.icmpNo X153.here hx rfl (hb hby at_37) rfl (tlt (by decide : (2 : Int32) < (3 : Int32))).2.2.2 ?_
      show Steps p.tables e below (T153.setTop (mkF m 40 #[.val (.int p0), .val (.int p1), .val (.int p2), .val (.int p3), .val (.int (3 : Int32)), .val (.ref a), .unset, .unset] [])) _
      refine XS.aload X153.here hx rfl (hb hby at_40) rfl rfl ?_
      show Steps p.tables e below (T153.setTop (mkF m 42 #[.val (.int p0), .val (.int p1), .val (.int p2), .val (.int p3), .val (.int (3 : Int32)), .val (.ref a), .unset, .unset] [(.ref a)])) _
      refine XS.iconst X153.here hx rfl (hb hby at_42) ?_
      show Steps p.tables e below (T153.setTop (mkF m 43 #[.val (.int p0), .val (.int p1), .val (.int p2), .val (.int p3), .val (.int (3 : Int32)), .val (.ref a), .unset, .unset] [(.int (2 : Int32)), (.ref a)])) _
      refine XS.iloadN X153.here hx rfl (hb hby at_43) rfl ?_
      show Steps p.tables e below (T153.setTop (mkF m 44 #[.val (.int p0), .val (.int p1), .val (.int p2), .val (.int p3), .val (.int (3 : Int32)), .val (.ref a), .unset, .unset] [(.int p3), (.int (2 : Int32)), (.ref a)])) _
      refine XT.i2b X153.here hx rfl (hb hby at_44) rfl ?_
      exact ktg)
    obtain ⟨cl_161, Ar_161, q_161, S_161, N_161, H_161, G_161⟩ := id f158
    have hin_161 : ¬ ((2 : Int32) < 0 ∨ cl_161.slots.size ≤ ((2 : Int32)).toNatClampNeg) := inb_of S_161 ⟨by decide, by decide⟩
    obtain ⟨T162, h162, X162, e162, W162, st162⟩ := stB X153 hx hZ e153 Ar_161 (j := (2 : Int32)) hin_161 (g := (mkF m 45 #[.val (.int p0), .val (.int p1), .val (.int p2), .val (.int p3), .val (.int (3 : Int32)), .val (.ref a), .unset, .unset] [(.int (p3.toInt8.toInt32)), (.int (2 : Int32)), (.ref a)])) rfl rfl (hb hby at_45)
    have pre162 : Rch p.tables e below (s₁.setTop (entryFrame m #[(.int p0), (.int p1), (.int p2), (.int p3)] maxLocals)) (T162.setTop (mkF m 46 #[.val (.int p0), .val (.int p1), .val (.int p2), .val (.int p3), .val (.int (3 : Int32)), .val (.ref a), .unset, .unset] [])) := fun tgt ktg => pre160 tgt (st162 tgt ktg)
    have f163 : Sta Z h162 "Mllp" "END" "[B" (.ref w) := f154.wr W162
    have f164 : Arv Z h162 w kw .byte (2 : Int32) [(.int (28 : Int32)), (.int (13 : Int32))] (.int (0 : Int32)) := f155.other W162 ne_w_a
    have z165 : n0 ≤ h162.size := Nat.le_trans z156 (Keep.of_wr W162).1
    have K166 : Keep h0 h162 [] := K157.wr W162 (Or.inr sz_a)
    have f167 : Arv Z h162 a k136 .byte (3 : Int32) [(.int v0), (.int v1), (.int (nar .byte (p3.toInt8.toInt32)))] (.int (0 : Int32)) := Arv.set Ar_161 q_161 S_161 N_161 H_161 G_161 (fits_nar_byte _) W162 2 rfl (Nat.le_of_ble_eq_true rfl)
    have N168 := Fr.snoc X162 N159 g_a
    rw [na2] at f167
    have pre169 : Rch p.tables e below (s₁.setTop (entryFrame m #[(.int p0), (.int p1), (.int p2), (.int p3)] maxLocals)) (T162.setTop (mkF m 48 #[.val (.int p0), .val (.int p1), .val (.int p2), .val (.int p3), .val (.int (3 : Int32)), .val (.ref a), .unset, .unset] [(.ref a)])) := fun tgt ktg => pre162 tgt (by
      show Steps p.tables e below (T162.setTop (mkF m 46 #[.val (.int p0), .val (.int p1), .val (.int p2), .val (.int p3), .val (.int (3 : Int32)), .val (.ref a), .unset, .unset] [])) _
      refine XS.aload X162.here hx rfl (hb hby at_46) rfl rfl ?_
      exact ktg)
    obtain ⟨_, _, ⟨T170, L170, k170, n170⟩, -, X170, ⟨Lc170, hQ170, l170, y170, z170⟩, st170⟩ := Jvm.LawKit.callS X162 hx (y := (⟨"Mllp", "frame", "([B)[B"⟩ : MethodName)) hown (mvT hZ (hw _ (List.mem_of_getElem? (i := 1) rfl))) (mvT hZ (hw _ (List.mem_of_getElem? (i := 2) rfl))) (mvT hZ (hw _ (List.mem_of_getElem? (i := 3) rfl))) (mvT hZ (hw _ (List.mem_of_getElem? (i := 4) rfl))) (by decide) (backOf (W := 0) (rmf3 l Z a0 hw [] a v0 v1 v2 w k136 kw h162 n0 z165 f163 f164 f167 (Ne.symm ne_w_a)) hZ (hw _ (List.mem_of_getElem? (i := 4) rfl)) (hw _ (List.mem_of_getElem? (i := 3) rfl)) (by decide) (by decide)) (g := (mkF m 48 #[.val (.int p0), .val (.int p1), .val (.int p2), .val (.int p3), .val (.int (3 : Int32)), .val (.ref a), .unset, .unset] [(.ref a)])) rfl (by rw [hml]; rfl) (argsL := [(.ref a)]) (rest := []) (lenOf pd_0 rfl) rfl (by show 2 * 0 + _ ≤ _; exact Nat.le_of_eq rfl) (hb hby at_48) (fun _ _ => ⟨rfl, e162, (by decide : 1 + 1 ≤ _), (by decide : 3 + 6 ≤ _)⟩)
    dsimp only [Pt.U, Pt.locs, Pt.cells, Pt.slots] at X170 l170 y170 z170 st170 hQ170
    subst l170 y170 z170
    obtain ⟨r, kr, rfl, Nq170, Kq170, gr, ar⟩ := hQ170
    have N171 := Fr.app N168 Nq170
    have pre170 : Rch p.tables e below (s₁.setTop (entryFrame m #[(.int p0), (.int p1), (.int p2), (.int p3)] maxLocals)) (T170.setTop (mkF m 51 #[.val (.int p0), .val (.int p1), .val (.int p2), .val (.int p3), .val (.int (3 : Int32)), .val (.ref a), .unset, .unset] [(.ref r)])) := fun tgt ktg => pre169 tgt (st170 tgt ktg)
    have f172 : Sta Z T170.heap "Mllp" "END" "[B" (.ref w) := own_sta_keep f163 Kq170 ns0
    have f173 : Arv Z T170.heap w kw .byte (2 : Int32) [(.int (28 : Int32)), (.int (13 : Int32))] (.int (0 : Int32)) := f164.keep Kq170 nin0
    have f174 : Arv Z T170.heap a k136 .byte (3 : Int32) [(.int v0), (.int v1), (.int v2)] (.int (0 : Int32)) := f167.keep Kq170 nin0
    have z175 : n0 ≤ T170.heap.size := Nat.le_trans z165 Kq170.1
    have K176 : Keep h0 T170.heap [] := K166.trans Kq170 (all0 (P := fun x => x ∈ ([] : List Addr) ∨ h0.size ≤ x))
    have pre177 : Rch p.tables e below (s₁.setTop (entryFrame m #[(.int p0), (.int p1), (.int p2), (.int p3)] maxLocals)) (T170.setTop (mkF m 60 #[.val (.int p0), .val (.int p1), .val (.int p2), .val (.int p3), .val (.int (3 : Int32)), .val (.ref a), .val (.ref r), .unset] [(.ref r)])) := fun tgt ktg => pre170 tgt (by
      show Steps p.tables e below (T170.setTop (mkF m 51 #[.val (.int p0), .val (.int p1), .val (.int p2), .val (.int p3), .val (.int (3 : Int32)), .val (.ref a), .unset, .unset] [(.ref r)])) _
      refine XS.astore X170.here hx rfl (hb hby at_51) rfl rfl (l' := #[.val (.int p0), .val (.int p1), .val (.int p2), .val (.int p3), .val (.int (3 : Int32)), .val (.ref a), .val (.ref r), .unset]) rfl ?_
      show Steps p.tables e below (T170.setTop (mkF m 53 #[.val (.int p0), .val (.int p1), .val (.int p2), .val (.int p3), .val (.int (3 : Int32)), .val (.ref a), .val (.ref r), .unset] [])) _
      refine XS.aload X170.here hx rfl (hb hby at_53) rfl rfl ?_
      show Steps p.tables e below (T170.setTop (mkF m 55 #[.val (.int p0), .val (.int p1), .val (.int p2), .val (.int p3), .val (.int (3 : Int32)), .val (.ref a), .val (.ref r), .unset] [(.ref r)])) _
      refine XS.ifnullNo X170.here hx rfl (hb hby at_55) rfl ?_
      show Steps p.tables e below (T170.setTop (mkF m 58 #[.val (.int p0), .val (.int p1), .val (.int p2), .val (.int p3), .val (.int (3 : Int32)), .val (.ref a), .val (.ref r), .unset] [])) _
      refine XS.aload X170.here hx rfl (hb hby at_58) rfl rfl ?_
      exact ktg)
    obtain ⟨cl_178, Ar_178, q_178, S_178, N_178, H_178, G_178⟩ := id ar
    have pre179 : Rch p.tables e below (s₁.setTop (entryFrame m #[(.int p0), (.int p1), (.int p2), (.int p3)] maxLocals)) (T170.setTop (mkF m 61 #[.val (.int p0), .val (.int p1), .val (.int p2), .val (.int p3), .val (.int (3 : Int32)), .val (.ref a), .val (.ref r), .unset] [(.int (6 : Int32))])) := fun tgt ktg => pre177 tgt (X170.arraylength hx Ar_178.1 (State.isArrayOf_alike hZ.alike Ar_178.2.1) (g := (mkF m 60 #[.val (.int p0), .val (.int p1), .val (.int p2), .val (.int p3), .val (.int (3 : Int32)), .val (.ref a), .val (.ref r), .unset] [(.ref r)])) rfl rfl (hb hby at_60) _ (by rw [len_of S_178 N_178]; exact ktg))
    have pre180 : Rch p.tables e below (s₁.setTop (entryFrame m #[(.int p0), (.int p1), (.int p2), (.int p3)] maxLocals)) (T170.setTop (mkF m 73 #[.val (.int p0), .val (.int p1), .val (.int p2), .val (.int p3), .val (.int (3 : Int32)), .val (.ref a), .val (.ref r), .unset] [(.int (0 : Int32)), (.ref r)])) := fun tgt ktg => pre179 tgt (by
      show Steps p.tables e below (T170.setTop (mkF m 61 #[.val (.int p0), .val (.int p1), .val (.int p2), .val (.int p3), .val (.int (3 : Int32)), .val (.ref a), .val (.ref r), .unset] [(.int (6 : Int32))])) _
      refine XS.iload X170.here hx rfl (hb hby at_61) rfl ?_
      show Steps p.tables e below (T170.setTop (mkF m 63 #[.val (.int p0), .val (.int p1), .val (.int p2), .val (.int p3), .val (.int (3 : Int32)), .val (.ref a), .val (.ref r), .unset] [(.int (3 : Int32)), (.int (6 : Int32))])) _
      refine XS.iconst X170.here hx rfl (hb hby at_63) ?_
      show Steps p.tables e below (T170.setTop (mkF m 64 #[.val (.int p0), .val (.int p1), .val (.int p2), .val (.int p3), .val (.int (3 : Int32)), .val (.ref a), .val (.ref r), .unset] [(.int (3 : Int32)), (.int (3 : Int32)), (.int (6 : Int32))])) _
      refine XS.iadd X170.here hx rfl (hb hby at_64) rfl ?_
      show Steps p.tables e below (T170.setTop (mkF m 65 #[.val (.int p0), .val (.int p1), .val (.int p2), .val (.int p3), .val (.int (3 : Int32)), .val (.ref a), .val (.ref r), .unset] [(.int (6 : Int32)), (.int (6 : Int32))])) _
      refine XS.icmpYes X170.here hx rfl (pc0 := 65) (pc' := 70) rfl (hb hby at_65) rfl (teq (rfl : (6 : Int32) = (6 : Int32))).1 (by decide) (by decide) ?_
      show Steps p.tables e below (T170.setTop (mkF m 70 #[.val (.int p0), .val (.int p1), .val (.int p2), .val (.int p3), .val (.int (3 : Int32)), .val (.ref a), .val (.ref r), .unset] [])) _
      refine XS.aload X170.here hx rfl (hb hby at_70) rfl rfl ?_
      show Steps p.tables e below (T170.setTop (mkF m 72 #[.val (.int p0), .val (.int p1), .val (.int p2), .val (.int p3), .val (.int (3 : Int32)), .val (.ref a), .val (.ref r), .unset] [(.ref r)])) _
      refine XS.iconst X170.here hx rfl (hb hby at_72) ?_
      exact ktg)
    obtain ⟨cl_181, Ar_181, q_181, S_181, N_181, H_181, G_181⟩ := id ar
    have hin_181 : ¬ ((0 : Int32) < 0 ∨ cl_181.slots.size ≤ ((0 : Int32)).toNatClampNeg) := inb_of S_181 ⟨by decide, by decide⟩
    have hat_181 : cl_181.slots[((0 : Int32)).toNatClampNeg]? = some (.int (11 : Int32)) := H_181.at hin_181 rfl
    have pre182 : Rch p.tables e below (s₁.setTop (entryFrame m #[(.int p0), (.int p1), (.int p2), (.int p3)] maxLocals)) (T170.setTop (mkF m 74 #[.val (.int p0), .val (.int p1), .val (.int p2), .val (.int p3), .val (.int (3 : Int32)), .val (.ref a), .val (.ref r), .unset] [(.int (11 : Int32))])) := fun tgt ktg => pre180 tgt (X170.baloadBytes hx (j := (0 : Int32)) (v := (.int (11 : Int32))) Ar_181.1 (State.isArrayOf_alike hZ.alike Ar_181.2.1) Ar_181.2.2 hin_181 hat_181 (g := (mkF m 73 #[.val (.int p0), .val (.int p1), .val (.int p2), .val (.int p3), .val (.int (3 : Int32)), .val (.ref a), .val (.ref r), .unset] [(.int (0 : Int32)), (.ref r)])) rfl rfl (hb hby at_73) _ ktg)
    have pre183 : Rch p.tables e below (s₁.setTop (entryFrame m #[(.int p0), (.int p1), (.int p2), (.int p3)] maxLocals)) (T170.setTop (mkF m 85 #[.val (.int p0), .val (.int p1), .val (.int p2), .val (.int p3), .val (.int (3 : Int32)), .val (.ref a), .val (.ref r), .unset] [(.int (4 : Int32)), (.ref r)])) := fun tgt ktg => pre182 tgt (by
      show Steps p.tables e below (T170.setTop (mkF m 74 #[.val (.int p0), .val (.int p1), .val (.int p2), .val (.int p3), .val (.int (3 : Int32)), .val (.ref a), .val (.ref r), .unset] [(.int (11 : Int32))])) _
      refine XS.bipush X170.here hx rfl (hb hby at_74) ?_
      show Steps p.tables e below (T170.setTop (mkF m 76 #[.val (.int p0), .val (.int p1), .val (.int p2), .val (.int p3), .val (.int (3 : Int32)), .val (.ref a), .val (.ref r), .unset] [(.int (11 : Int32)), (.int (11 : Int32))])) _
      refine XS.icmpNo X170.here hx rfl (hb hby at_76) rfl (teq (rfl : (11 : Int32) = (11 : Int32))).2 ?_
      show Steps p.tables e below (T170.setTop (mkF m 79 #[.val (.int p0), .val (.int p1), .val (.int p2), .val (.int p3), .val (.int (3 : Int32)), .val (.ref a), .val (.ref r), .unset] [])) _
      refine XS.aload X170.here hx rfl (hb hby at_79) rfl rfl ?_
      show Steps p.tables e below (T170.setTop (mkF m 81 #[.val (.int p0), .val (.int p1), .val (.int p2), .val (.int p3), .val (.int (3 : Int32)), .val (.ref a), .val (.ref r), .unset] [(.ref r)])) _
      refine XS.iload X170.here hx rfl (hb hby at_81) rfl ?_
      show Steps p.tables e below (T170.setTop (mkF m 83 #[.val (.int p0), .val (.int p1), .val (.int p2), .val (.int p3), .val (.int (3 : Int32)), .val (.ref a), .val (.ref r), .unset] [(.int (3 : Int32)), (.ref r)])) _
      refine XS.iconst X170.here hx rfl (hb hby at_83) ?_
      show Steps p.tables e below (T170.setTop (mkF m 84 #[.val (.int p0), .val (.int p1), .val (.int p2), .val (.int p3), .val (.int (3 : Int32)), .val (.ref a), .val (.ref r), .unset] [(.int (1 : Int32)), (.int (3 : Int32)), (.ref r)])) _
      refine XS.iadd X170.here hx rfl (hb hby at_84) rfl ?_
      exact ktg)
    obtain ⟨cl_184, Ar_184, q_184, S_184, N_184, H_184, G_184⟩ := id ar
    have hin_184 : ¬ ((4 : Int32) < 0 ∨ cl_184.slots.size ≤ ((4 : Int32)).toNatClampNeg) := inb_of S_184 ⟨by decide, by decide⟩
    have hat_184 : cl_184.slots[((4 : Int32)).toNatClampNeg]? = some (.int (28 : Int32)) := H_184.at hin_184 rfl
    have pre185 : Rch p.tables e below (s₁.setTop (entryFrame m #[(.int p0), (.int p1), (.int p2), (.int p3)] maxLocals)) (T170.setTop (mkF m 86 #[.val (.int p0), .val (.int p1), .val (.int p2), .val (.int p3), .val (.int (3 : Int32)), .val (.ref a), .val (.ref r), .unset] [(.int (28 : Int32))])) := fun tgt ktg => pre183 tgt (X170.baloadBytes hx (j := (4 : Int32)) (v := (.int (28 : Int32))) Ar_184.1 (State.isArrayOf_alike hZ.alike Ar_184.2.1) Ar_184.2.2 hin_184 hat_184 (g := (mkF m 85 #[.val (.int p0), .val (.int p1), .val (.int p2), .val (.int p3), .val (.int (3 : Int32)), .val (.ref a), .val (.ref r), .unset] [(.int (4 : Int32)), (.ref r)])) rfl rfl (hb hby at_85) _ ktg)
    have pre186 : Rch p.tables e below (s₁.setTop (entryFrame m #[(.int p0), (.int p1), (.int p2), (.int p3)] maxLocals)) (T170.setTop (mkF m 97 #[.val (.int p0), .val (.int p1), .val (.int p2), .val (.int p3), .val (.int (3 : Int32)), .val (.ref a), .val (.ref r), .unset] [(.int (5 : Int32)), (.ref r)])) := fun tgt ktg => pre185 tgt (by
      show Steps p.tables e below (T170.setTop (mkF m 86 #[.val (.int p0), .val (.int p1), .val (.int p2), .val (.int p3), .val (.int (3 : Int32)), .val (.ref a), .val (.ref r), .unset] [(.int (28 : Int32))])) _
      refine XS.bipush X170.here hx rfl (hb hby at_86) ?_
      show Steps p.tables e below (T170.setTop (mkF m 88 #[.val (.int p0), .val (.int p1), .val (.int p2), .val (.int p3), .val (.int (3 : Int32)), .val (.ref a), .val (.ref r), .unset] [(.int (28 : Int32)), (.int (28 : Int32))])) _
      refine XS.icmpNo X170.here hx rfl (hb hby at_88) rfl (teq (rfl : (28 : Int32) = (28 : Int32))).2 ?_
      show Steps p.tables e below (T170.setTop (mkF m 91 #[.val (.int p0), .val (.int p1), .val (.int p2), .val (.int p3), .val (.int (3 : Int32)), .val (.ref a), .val (.ref r), .unset] [])) _
      refine XS.aload X170.here hx rfl (hb hby at_91) rfl rfl ?_
      show Steps p.tables e below (T170.setTop (mkF m 93 #[.val (.int p0), .val (.int p1), .val (.int p2), .val (.int p3), .val (.int (3 : Int32)), .val (.ref a), .val (.ref r), .unset] [(.ref r)])) _
      refine XS.iload X170.here hx rfl (hb hby at_93) rfl ?_
      show Steps p.tables e below (T170.setTop (mkF m 95 #[.val (.int p0), .val (.int p1), .val (.int p2), .val (.int p3), .val (.int (3 : Int32)), .val (.ref a), .val (.ref r), .unset] [(.int (3 : Int32)), (.ref r)])) _
      refine XS.iconst X170.here hx rfl (hb hby at_95) ?_
      show Steps p.tables e below (T170.setTop (mkF m 96 #[.val (.int p0), .val (.int p1), .val (.int p2), .val (.int p3), .val (.int (3 : Int32)), .val (.ref a), .val (.ref r), .unset] [(.int (2 : Int32)), (.int (3 : Int32)), (.ref r)])) _
      refine XS.iadd X170.here hx rfl (hb hby at_96) rfl ?_
      exact ktg)
    obtain ⟨cl_187, Ar_187, q_187, S_187, N_187, H_187, G_187⟩ := id ar
    have hin_187 : ¬ ((5 : Int32) < 0 ∨ cl_187.slots.size ≤ ((5 : Int32)).toNatClampNeg) := inb_of S_187 ⟨by decide, by decide⟩
    have hat_187 : cl_187.slots[((5 : Int32)).toNatClampNeg]? = some (.int (13 : Int32)) := H_187.at hin_187 rfl
    have pre188 : Rch p.tables e below (s₁.setTop (entryFrame m #[(.int p0), (.int p1), (.int p2), (.int p3)] maxLocals)) (T170.setTop (mkF m 98 #[.val (.int p0), .val (.int p1), .val (.int p2), .val (.int p3), .val (.int (3 : Int32)), .val (.ref a), .val (.ref r), .unset] [(.int (13 : Int32))])) := fun tgt ktg => pre186 tgt (X170.baloadBytes hx (j := (5 : Int32)) (v := (.int (13 : Int32))) Ar_187.1 (State.isArrayOf_alike hZ.alike Ar_187.2.1) Ar_187.2.2 hin_187 hat_187 (g := (mkF m 97 #[.val (.int p0), .val (.int p1), .val (.int p2), .val (.int p3), .val (.int (3 : Int32)), .val (.ref a), .val (.ref r), .unset] [(.int (5 : Int32)), (.ref r)])) rfl rfl (hb hby at_97) _ ktg)
    have pre189 : Rch p.tables e below (s₁.setTop (entryFrame m #[(.int p0), (.int p1), (.int p2), (.int p3)] maxLocals)) (T170.setTop (mkF m 112 #[.val (.int p0), .val (.int p1), .val (.int p2), .val (.int p3), .val (.int (3 : Int32)), .val (.ref a), .val (.ref r), .val (.int (1 : Int32))] [(.int (3 : Int32))])) := fun tgt ktg => pre188 tgt (by
      show Steps p.tables e below (T170.setTop (mkF m 98 #[.val (.int p0), .val (.int p1), .val (.int p2), .val (.int p3), .val (.int (3 : Int32)), .val (.ref a), .val (.ref r), .unset] [(.int (13 : Int32))])) _
      refine XS.bipush X170.here hx rfl (hb hby at_98) ?_
      show Steps p.tables e below (T170.setTop (mkF m 100 #[.val (.int p0), .val (.int p1), .val (.int p2), .val (.int p3), .val (.int (3 : Int32)), .val (.ref a), .val (.ref r), .unset] [(.int (13 : Int32)), (.int (13 : Int32))])) _
      refine XS.icmpNo X170.here hx rfl (hb hby at_100) rfl (teq (rfl : (13 : Int32) = (13 : Int32))).2 ?_
      show Steps p.tables e below (T170.setTop (mkF m 103 #[.val (.int p0), .val (.int p1), .val (.int p2), .val (.int p3), .val (.int (3 : Int32)), .val (.ref a), .val (.ref r), .unset] [])) _
      refine XS.iconst X170.here hx rfl (hb hby at_103) ?_
      show Steps p.tables e below (T170.setTop (mkF m 104 #[.val (.int p0), .val (.int p1), .val (.int p2), .val (.int p3), .val (.int (3 : Int32)), .val (.ref a), .val (.ref r), .unset] [(.int (1 : Int32))])) _
      refine XS.goto X170.here hx rfl (pc0 := 104) (pc' := 108) rfl (hb hby at_104) (by decide) (by decide) ?_
      show Steps p.tables e below (T170.setTop (mkF m 108 #[.val (.int p0), .val (.int p1), .val (.int p2), .val (.int p3), .val (.int (3 : Int32)), .val (.ref a), .val (.ref r), .unset] [(.int (1 : Int32))])) _
      refine XS.istore X170.here hx rfl (hb hby at_108) rfl (l' := #[.val (.int p0), .val (.int p1), .val (.int p2), .val (.int p3), .val (.int (3 : Int32)), .val (.ref a), .val (.ref r), .val (.int (1 : Int32))]) rfl ?_
      show Steps p.tables e below (T170.setTop (mkF m 110 #[.val (.int p0), .val (.int p1), .val (.int p2), .val (.int p3), .val (.int (3 : Int32)), .val (.ref a), .val (.ref r), .val (.int (1 : Int32))] [])) _
      refine XS.iload X170.here hx rfl (hb hby at_110) rfl ?_
      exact ktg)
    have pre190 : Rch p.tables e below (s₁.setTop (entryFrame m #[(.int p0), (.int p1), (.int p2), (.int p3)] maxLocals)) (T170.setTop (mkF m 123 #[.val (.int p0), .val (.int p1), .val (.int p2), .val (.int p3), .val (.int (3 : Int32)), .val (.ref a), .val (.ref r), .val (.int (1 : Int32))] [(.int (1 : Int32)), (.ref r)])) := fun tgt ktg => pre189 tgt (by
      show Steps p.tables e below (T170.setTop (mkF m 112 #[.val (.int p0), .val (.int p1), .val (.int p2), .val (.int p3), .val (.int (3 : Int32)), .val (.ref a), .val (.ref r), .val (.int (1 : Int32))] [(.int (3 : Int32))])) _
      refine XS.ifNo X170.here hx rfl (hb hby at_112) rfl ((if0 _ _).trans (tlt (by decide : (0 : Int32) < (3 : Int32))).2.2.2) ?_
      show Steps p.tables e below (T170.setTop (mkF m 115 #[.val (.int p0), .val (.int p1), .val (.int p2), .val (.int p3), .val (.int (3 : Int32)), .val (.ref a), .val (.ref r), .val (.int (1 : Int32))] [])) _
      refine XS.iload X170.here hx rfl (hb hby at_115) rfl ?_
      show Steps p.tables e below (T170.setTop (mkF m 117 #[.val (.int p0), .val (.int p1), .val (.int p2), .val (.int p3), .val (.int (3 : Int32)), .val (.ref a), .val (.ref r), .val (.int (1 : Int32))] [(.int (1 : Int32))])) _
      refine XS.ifNo X170.here hx rfl (hb hby at_117) rfl ((if0 _ _).trans (feq (by decide : ¬ ((1 : Int32) = (0 : Int32)))).1) ?_
      show Steps p.tables e below (T170.setTop (mkF m 120 #[.val (.int p0), .val (.int p1), .val (.int p2), .val (.int p3), .val (.int (3 : Int32)), .val (.ref a), .val (.ref r), .val (.int (1 : Int32))] [])) _
      refine XS.aload X170.here hx rfl (hb hby at_120) rfl rfl ?_
      show Steps p.tables e below (T170.setTop (mkF m 122 #[.val (.int p0), .val (.int p1), .val (.int p2), .val (.int p3), .val (.int (3 : Int32)), .val (.ref a), .val (.ref r), .val (.int (1 : Int32))] [(.ref r)])) _
      refine XS.iconst X170.here hx rfl (hb hby at_122) ?_
      exact ktg)
    obtain ⟨cl_191, Ar_191, q_191, S_191, N_191, H_191, G_191⟩ := id ar
    have hin_191 : ¬ ((1 : Int32) < 0 ∨ cl_191.slots.size ≤ ((1 : Int32)).toNatClampNeg) := inb_of S_191 ⟨by decide, by decide⟩
    have hat_191 : cl_191.slots[((1 : Int32)).toNatClampNeg]? = some (.int v0) := H_191.at hin_191 rfl
    have pre192 : Rch p.tables e below (s₁.setTop (entryFrame m #[(.int p0), (.int p1), (.int p2), (.int p3)] maxLocals)) (T170.setTop (mkF m 124 #[.val (.int p0), .val (.int p1), .val (.int p2), .val (.int p3), .val (.int (3 : Int32)), .val (.ref a), .val (.ref r), .val (.int (1 : Int32))] [(.int v0)])) := fun tgt ktg => pre190 tgt (X170.baloadBytes hx (j := (1 : Int32)) (v := (.int v0)) Ar_191.1 (State.isArrayOf_alike hZ.alike Ar_191.2.1) Ar_191.2.2 hin_191 hat_191 (g := (mkF m 123 #[.val (.int p0), .val (.int p1), .val (.int p2), .val (.int p3), .val (.int (3 : Int32)), .val (.ref a), .val (.ref r), .val (.int (1 : Int32))] [(.int (1 : Int32)), (.ref r)])) rfl rfl (hb hby at_123) _ ktg)
    have pre193 : Rch p.tables e below (s₁.setTop (entryFrame m #[(.int p0), (.int p1), (.int p2), (.int p3)] maxLocals)) (T170.setTop (mkF m 132 #[.val (.int p0), .val (.int p1), .val (.int p2), .val (.int p3), .val (.int (3 : Int32)), .val (.ref a), .val (.ref r), .val (.int (1 : Int32))] [(.int (0 : Int32)), (.ref a)])) := fun tgt ktg => pre192 tgt (by
      show Steps p.tables e below (T170.setTop (mkF m 124 #[.val (.int p0), .val (.int p1), .val (.int p2), .val (.int p3), .val (.int (3 : Int32)), .val (.ref a), .val (.ref r), .val (.int (1 : Int32))] [(.int v0)])) _
      refine XS.iloadN X170.here hx rfl (hb hby at_124) rfl ?_
      show Steps p.tables e below (T170.setTop (mkF m 125 #[.val (.int p0), .val (.int p1), .val (.int p2), .val (.int p3), .val (.int (3 : Int32)), .val (.ref a), .val (.ref r), .val (.int (1 : Int32))] [(.int p1), (.int v0)])) _
      refine XT.i2b X170.here hx rfl (hb hby at_125) rfl ?_
      show Steps p.tables e below (T170.setTop (mkF m 126 #[.val (.int p0), .val (.int p1), .val (.int p2), .val (.int p3), .val (.int (3 : Int32)), .val (.ref a), .val (.ref r), .val (.int (1 : Int32))] [(.int (p1.toInt8.toInt32)), (.int v0)])) _
      refine XS.icmpNo X170.here hx rfl (hb hby at_126) rfl (teq hv0).2 ?_
      show Steps p.tables e below (T170.setTop (mkF m 129 #[.val (.int p0), .val (.int p1), .val (.int p2), .val (.int p3), .val (.int (3 : Int32)), .val (.ref a), .val (.ref r), .val (.int (1 : Int32))] [])) _
      refine XS.aload X170.here hx rfl (hb hby at_129) rfl rfl ?_
      show Steps p.tables e below (T170.setTop (mkF m 131 #[.val (.int p0), .val (.int p1), .val (.int p2), .val (.int p3), .val (.int (3 : Int32)), .val (.ref a), .val (.ref r), .val (.int (1 : Int32))] [(.ref a)])) _
      refine XS.iconst X170.here hx rfl (hb hby at_131) ?_
      exact ktg)
    obtain ⟨cl_194, Ar_194, q_194, S_194, N_194, H_194, G_194⟩ := id f174
    have hin_194 : ¬ ((0 : Int32) < 0 ∨ cl_194.slots.size ≤ ((0 : Int32)).toNatClampNeg) := inb_of S_194 ⟨by decide, by decide⟩
    have hat_194 : cl_194.slots[((0 : Int32)).toNatClampNeg]? = some (.int v0) := H_194.at hin_194 rfl
    have pre195 : Rch p.tables e below (s₁.setTop (entryFrame m #[(.int p0), (.int p1), (.int p2), (.int p3)] maxLocals)) (T170.setTop (mkF m 133 #[.val (.int p0), .val (.int p1), .val (.int p2), .val (.int p3), .val (.int (3 : Int32)), .val (.ref a), .val (.ref r), .val (.int (1 : Int32))] [(.int v0)])) := fun tgt ktg => pre193 tgt (X170.baloadBytes hx (j := (0 : Int32)) (v := (.int v0)) Ar_194.1 (State.isArrayOf_alike hZ.alike Ar_194.2.1) Ar_194.2.2 hin_194 hat_194 (g := (mkF m 132 #[.val (.int p0), .val (.int p1), .val (.int p2), .val (.int p3), .val (.int (3 : Int32)), .val (.ref a), .val (.ref r), .val (.int (1 : Int32))] [(.int (0 : Int32)), (.ref a)])) rfl rfl (hb hby at_132) _ ktg)
    have pre196 : Rch p.tables e below (s₁.setTop (entryFrame m #[(.int p0), (.int p1), (.int p2), (.int p3)] maxLocals)) (T170.setTop (mkF m 145 #[.val (.int p0), .val (.int p1), .val (.int p2), .val (.int p3), .val (.int (3 : Int32)), .val (.ref a), .val (.ref r), .val (.int (1 : Int32))] [])) := fun tgt ktg => pre195 tgt (by
      show Steps p.tables e below (T170.setTop (mkF m 133 #[.val (.int p0), .val (.int p1), .val (.int p2), .val (.int p3), .val (.int (3 : Int32)), .val (.ref a), .val (.ref r), .val (.int (1 : Int32))] [(.int v0)])) _
      refine XS.iloadN X170.here hx rfl (hb hby at_133) rfl ?_
      show Steps p.tables e below (T170.setTop (mkF m 134 #[.val (.int p0), .val (.int p1), .val (.int p2), .val (.int p3), .val (.int (3 : Int32)), .val (.ref a), .val (.ref r), .val (.int (1 : Int32))] [(.int p1), (.int v0)])) _
      refine XT.i2b X170.here hx rfl (hb hby at_134) rfl ?_
      show Steps p.tables e below (T170.setTop (mkF m 135 #[.val (.int p0), .val (.int p1), .val (.int p2), .val (.int p3), .val (.int (3 : Int32)), .val (.ref a), .val (.ref r), .val (.int (1 : Int32))] [(.int (p1.toInt8.toInt32)), (.int v0)])) _
      refine XS.icmpNo X170.here hx rfl (hb hby at_135) rfl (teq hv0).2 ?_
      show Steps p.tables e below (T170.setTop (mkF m 138 #[.val (.int p0), .val (.int p1), .val (.int p2), .val (.int p3), .val (.int (3 : Int32)), .val (.ref a), .val (.ref r), .val (.int (1 : Int32))] [])) _
      refine XS.iconst X170.here hx rfl (hb hby at_138) ?_
      show Steps p.tables e below (T170.setTop (mkF m 139 #[.val (.int p0), .val (.int p1), .val (.int p2), .val (.int p3), .val (.int (3 : Int32)), .val (.ref a), .val (.ref r), .val (.int (1 : Int32))] [(.int (1 : Int32))])) _
      refine XS.goto X170.here hx rfl (pc0 := 139) (pc' := 143) rfl (hb hby at_139) (by decide) (by decide) ?_
      show Steps p.tables e below (T170.setTop (mkF m 143 #[.val (.int p0), .val (.int p1), .val (.int p2), .val (.int p3), .val (.int (3 : Int32)), .val (.ref a), .val (.ref r), .val (.int (1 : Int32))] [(.int (1 : Int32))])) _
      refine XS.istore X170.here hx rfl (hb hby at_143) rfl (l' := #[.val (.int p0), .val (.int p1), .val (.int p2), .val (.int p3), .val (.int (3 : Int32)), .val (.ref a), .val (.ref r), .val (.int (1 : Int32))]) rfl ?_
      exact ktg)
    have pre197 : Rch p.tables e below (s₁.setTop (entryFrame m #[(.int p0), (.int p1), (.int p2), (.int p3)] maxLocals)) (T170.setTop (mkF m 159 #[.val (.int p0), .val (.int p1), .val (.int p2), .val (.int p3), .val (.int (3 : Int32)), .val (.ref a), .val (.ref r), .val (.int (1 : Int32))] [(.int (2 : Int32)), (.ref r)])) := fun tgt ktg => pre196 tgt (by
      show Steps p.tables e below (T170.setTop (mkF m 145 #[.val (.int p0), .val (.int p1), .val (.int p2), .val (.int p3), .val (.int (3 : Int32)), .val (.ref a), .val (.ref r), .val (.int (1 : Int32))] [])) _
      refine XS.iload X170.here hx rfl (hb hby at_145) rfl ?_
      show Steps p.tables e below (T170.setTop (mkF m 147 #[.val (.int p0), .val (.int p1), .val (.int p2), .val (.int p3), .val (.int (3 : Int32)), .val (.ref a), .val (.ref r), .val (.int (1 : Int32))] [(.int (3 : Int32))])) _
      refine XS.iconst X170.here hx rfl (hb hby at_147) ?_
      show Steps p.tables e below (T170.setTop (mkF m 148 #[.val (.int p0), .val (.int p1), .val (.int p2), .val (.int p3), .val (.int (3 : Int32)), .val (.ref a), .val (.ref r), .val (.int (1 : Int32))] [(.int (1 : Int32)), (.int (3 : Int32))])) _
      refine XS.icmpNo X170.here hx rfl (hb hby at_148) rfl (tlt (by decide : (1 : Int32) < (3 : Int32))).2.2.2 ?_
      show Steps p.tables e below (T170.setTop (mkF m 151 #[.val (.int p0), .val (.int p1), .val (.int p2), .val (.int p3), .val (.int (3 : Int32)), .val (.ref a), .val (.ref r), .val (.int (1 : Int32))] [])) _
      refine XS.iload X170.here hx rfl (hb hby at_151) rfl ?_
      show Steps p.tables e below (T170.setTop (mkF m 153 #[.val (.int p0), .val (.int p1), .val (.int p2), .val (.int p3), .val (.int (3 : Int32)), .val (.ref a), .val (.ref r), .val (.int (1 : Int32))] [(.int (1 : Int32))])) _
      refine XS.ifNo X170.here hx rfl (hb hby at_153) rfl ((if0 _ _).trans (feq (by decide : ¬ ((1 : Int32) = (0 : Int32)))).1) ?_
      show Steps p.tables e below (T170.setTop (mkF m 156 #[.val (.int p0), .val (.int p1), .val (.int p2), .val (.int p3), .val (.int (3 : Int32)), .val (.ref a), .val (.ref r), .val (.int (1 : Int32))] [])) _
      refine XS.aload X170.here hx rfl (hb hby at_156) rfl rfl ?_
      show Steps p.tables e below (T170.setTop (mkF m 158 #[.val (.int p0), .val (.int p1), .val (.int p2), .val (.int p3), .val (.int (3 : Int32)), .val (.ref a), .val (.ref r), .val (.int (1 : Int32))] [(.ref r)])) _
      refine XS.iconst X170.here hx rfl (hb hby at_158) ?_
      exact ktg)
    obtain ⟨cl_198, Ar_198, q_198, S_198, N_198, H_198, G_198⟩ := id ar
    have hin_198 : ¬ ((2 : Int32) < 0 ∨ cl_198.slots.size ≤ ((2 : Int32)).toNatClampNeg) := inb_of S_198 ⟨by decide, by decide⟩
    have hat_198 : cl_198.slots[((2 : Int32)).toNatClampNeg]? = some (.int v1) := H_198.at hin_198 rfl
    have pre199 : Rch p.tables e below (s₁.setTop (entryFrame m #[(.int p0), (.int p1), (.int p2), (.int p3)] maxLocals)) (T170.setTop (mkF m 160 #[.val (.int p0), .val (.int p1), .val (.int p2), .val (.int p3), .val (.int (3 : Int32)), .val (.ref a), .val (.ref r), .val (.int (1 : Int32))] [(.int v1)])) := fun tgt ktg => pre197 tgt (X170.baloadBytes hx (j := (2 : Int32)) (v := (.int v1)) Ar_198.1 (State.isArrayOf_alike hZ.alike Ar_198.2.1) Ar_198.2.2 hin_198 hat_198 (g := (mkF m 159 #[.val (.int p0), .val (.int p1), .val (.int p2), .val (.int p3), .val (.int (3 : Int32)), .val (.ref a), .val (.ref r), .val (.int (1 : Int32))] [(.int (2 : Int32)), (.ref r)])) rfl rfl (hb hby at_159) _ ktg)
    have pre200 : Rch p.tables e below (s₁.setTop (entryFrame m #[(.int p0), (.int p1), (.int p2), (.int p3)] maxLocals)) (T170.setTop (mkF m 168 #[.val (.int p0), .val (.int p1), .val (.int p2), .val (.int p3), .val (.int (3 : Int32)), .val (.ref a), .val (.ref r), .val (.int (1 : Int32))] [(.int (1 : Int32)), (.ref a)])) := fun tgt ktg => pre199 tgt (by
      show Steps p.tables e below (T170.setTop (mkF m 160 #[.val (.int p0), .val (.int p1), .val (.int p2), .val (.int p3), .val (.int (3 : Int32)), .val (.ref a), .val (.ref r), .val (.int (1 : Int32))] [(.int v1)])) _
      refine XS.iloadN X170.here hx rfl (hb hby at_160) rfl ?_
      show Steps p.tables e below (T170.setTop (mkF m 161 #[.val (.int p0), .val (.int p1), .val (.int p2), .val (.int p3), .val (.int (3 : Int32)), .val (.ref a), .val (.ref r), .val (.int (1 : Int32))] [(.int p2), (.int v1)])) _
      refine XT.i2b X170.here hx rfl (hb hby at_161) rfl ?_
      show Steps p.tables e below (T170.setTop (mkF m 162 #[.val (.int p0), .val (.int p1), .val (.int p2), .val (.int p3), .val (.int (3 : Int32)), .val (.ref a), .val (.ref r), .val (.int (1 : Int32))] [(.int (p2.toInt8.toInt32)), (.int v1)])) _
      refine XS.icmpNo X170.here hx rfl (hb hby at_162) rfl (teq hv1).2 ?_
      show Steps p.tables e below (T170.setTop (mkF m 165 #[.val (.int p0), .val (.int p1), .val (.int p2), .val (.int p3), .val (.int (3 : Int32)), .val (.ref a), .val (.ref r), .val (.int (1 : Int32))] [])) _
      refine XS.aload X170.here hx rfl (hb hby at_165) rfl rfl ?_
      show Steps p.tables e below (T170.setTop (mkF m 167 #[.val (.int p0), .val (.int p1), .val (.int p2), .val (.int p3), .val (.int (3 : Int32)), .val (.ref a), .val (.ref r), .val (.int (1 : Int32))] [(.ref a)])) _
      refine XS.iconst X170.here hx rfl (hb hby at_167) ?_
      exact ktg)
    obtain ⟨cl_201, Ar_201, q_201, S_201, N_201, H_201, G_201⟩ := id f174
    have hin_201 : ¬ ((1 : Int32) < 0 ∨ cl_201.slots.size ≤ ((1 : Int32)).toNatClampNeg) := inb_of S_201 ⟨by decide, by decide⟩
    have hat_201 : cl_201.slots[((1 : Int32)).toNatClampNeg]? = some (.int v1) := H_201.at hin_201 rfl
    have pre202 : Rch p.tables e below (s₁.setTop (entryFrame m #[(.int p0), (.int p1), (.int p2), (.int p3)] maxLocals)) (T170.setTop (mkF m 169 #[.val (.int p0), .val (.int p1), .val (.int p2), .val (.int p3), .val (.int (3 : Int32)), .val (.ref a), .val (.ref r), .val (.int (1 : Int32))] [(.int v1)])) := fun tgt ktg => pre200 tgt (X170.baloadBytes hx (j := (1 : Int32)) (v := (.int v1)) Ar_201.1 (State.isArrayOf_alike hZ.alike Ar_201.2.1) Ar_201.2.2 hin_201 hat_201 (g := (mkF m 168 #[.val (.int p0), .val (.int p1), .val (.int p2), .val (.int p3), .val (.int (3 : Int32)), .val (.ref a), .val (.ref r), .val (.int (1 : Int32))] [(.int (1 : Int32)), (.ref a)])) rfl rfl (hb hby at_168) _ ktg)
    have pre203 : Rch p.tables e below (s₁.setTop (entryFrame m #[(.int p0), (.int p1), (.int p2), (.int p3)] maxLocals)) (T170.setTop (mkF m 181 #[.val (.int p0), .val (.int p1), .val (.int p2), .val (.int p3), .val (.int (3 : Int32)), .val (.ref a), .val (.ref r), .val (.int (1 : Int32))] [])) := fun tgt ktg => pre202 tgt (by
      show Steps p.tables e below (T170.setTop (mkF m 169 #[.val (.int p0), .val (.int p1), .val (.int p2), .val (.int p3), .val (.int (3 : Int32)), .val (.ref a), .val (.ref r), .val (.int (1 : Int32))] [(.int v1)])) _
      refine XS.iloadN X170.here hx rfl (hb hby at_169) rfl ?_
      show Steps p.tables e below (T170.setTop (mkF m 170 #[.val (.int p0), .val (.int p1), .val (.int p2), .val (.int p3), .val (.int (3 : Int32)), .val (.ref a), .val (.ref r), .val (.int (1 : Int32))] [(.int p2), (.int v1)])) _
      refine XT.i2b X170.here hx rfl (hb hby at_170) rfl ?_
      show Steps p.tables e below (T170.setTop (mkF m 171 #[.val (.int p0), .val (.int p1), .val (.int p2), .val (.int p3), .val (.int (3 : Int32)), .val (.ref a), .val (.ref r), .val (.int (1 : Int32))] [(.int (p2.toInt8.toInt32)), (.int v1)])) _
      refine XS.icmpNo X170.here hx rfl (hb hby at_171) rfl (teq hv1).2 ?_
      show Steps p.tables e below (T170.setTop (mkF m 174 #[.val (.int p0), .val (.int p1), .val (.int p2), .val (.int p3), .val (.int (3 : Int32)), .val (.ref a), .val (.ref r), .val (.int (1 : Int32))] [])) _
      refine XS.iconst X170.here hx rfl (hb hby at_174) ?_
      show Steps p.tables e below (T170.setTop (mkF m 175 #[.val (.int p0), .val (.int p1), .val (.int p2), .val (.int p3), .val (.int (3 : Int32)), .val (.ref a), .val (.ref r), .val (.int (1 : Int32))] [(.int (1 : Int32))])) _
      refine XS.goto X170.here hx rfl (pc0 := 175) (pc' := 179) rfl (hb hby at_175) (by decide) (by decide) ?_
      show Steps p.tables e below (T170.setTop (mkF m 179 #[.val (.int p0), .val (.int p1), .val (.int p2), .val (.int p3), .val (.int (3 : Int32)), .val (.ref a), .val (.ref r), .val (.int (1 : Int32))] [(.int (1 : Int32))])) _
      refine XS.istore X170.here hx rfl (hb hby at_179) rfl (l' := #[.val (.int p0), .val (.int p1), .val (.int p2), .val (.int p3), .val (.int (3 : Int32)), .val (.ref a), .val (.ref r), .val (.int (1 : Int32))]) rfl ?_
      exact ktg)
    have pre204 : Rch p.tables e below (s₁.setTop (entryFrame m #[(.int p0), (.int p1), (.int p2), (.int p3)] maxLocals)) (T170.setTop (mkF m 195 #[.val (.int p0), .val (.int p1), .val (.int p2), .val (.int p3), .val (.int (3 : Int32)), .val (.ref a), .val (.ref r), .val (.int (1 : Int32))] [(.int (3 : Int32)), (.ref r)])) := fun tgt ktg => pre203 tgt (by
      show Steps p.tables e below (T170.setTop (mkF m 181 #[.val (.int p0), .val (.int p1), .val (.int p2), .val (.int p3), .val (.int (3 : Int32)), .val (.ref a), .val (.ref r), .val (.int (1 : Int32))] [])) _
      refine XS.iload X170.here hx rfl (hb hby at_181) rfl ?_
      show Steps p.tables e below (T170.setTop (mkF m 183 #[.val (.int p0), .val (.int p1), .val (.int p2), .val (.int p3), .val (.int (3 : Int32)), .val (.ref a), .val (.ref r), .val (.int (1 : Int32))] [(.int (3 : Int32))])) _
      refine XS.iconst X170.here hx rfl (hb hby at_183) ?_
      show Steps p.tables e below (T170.setTop (mkF m 184 #[.val (.int p0), .val (.int p1), .val (.int p2), .val (.int p3), .val (.int (3 : Int32)), .val (.ref a), .val (.ref r), .val (.int (1 : Int32))] [(.int (2 : Int32)), (.int (3 : Int32))])) _
      refine XS.icmpNo X170.here hx rfl (hb hby at_184) rfl (tlt (by decide : (2 : Int32) < (3 : Int32))).2.2.2 ?_
      show Steps p.tables e below (T170.setTop (mkF m 187 #[.val (.int p0), .val (.int p1), .val (.int p2), .val (.int p3), .val (.int (3 : Int32)), .val (.ref a), .val (.ref r), .val (.int (1 : Int32))] [])) _
      refine XS.iload X170.here hx rfl (hb hby at_187) rfl ?_
      show Steps p.tables e below (T170.setTop (mkF m 189 #[.val (.int p0), .val (.int p1), .val (.int p2), .val (.int p3), .val (.int (3 : Int32)), .val (.ref a), .val (.ref r), .val (.int (1 : Int32))] [(.int (1 : Int32))])) _
      refine XS.ifNo X170.here hx rfl (hb hby at_189) rfl ((if0 _ _).trans (feq (by decide : ¬ ((1 : Int32) = (0 : Int32)))).1) ?_
      show Steps p.tables e below (T170.setTop (mkF m 192 #[.val (.int p0), .val (.int p1), .val (.int p2), .val (.int p3), .val (.int (3 : Int32)), .val (.ref a), .val (.ref r), .val (.int (1 : Int32))] [])) _
      refine XS.aload X170.here hx rfl (hb hby at_192) rfl rfl ?_
      show Steps p.tables e below (T170.setTop (mkF m 194 #[.val (.int p0), .val (.int p1), .val (.int p2), .val (.int p3), .val (.int (3 : Int32)), .val (.ref a), .val (.ref r), .val (.int (1 : Int32))] [(.ref r)])) _
      refine XS.iconst X170.here hx rfl (hb hby at_194) ?_
      exact ktg)
    obtain ⟨cl_205, Ar_205, q_205, S_205, N_205, H_205, G_205⟩ := id ar
    have hin_205 : ¬ ((3 : Int32) < 0 ∨ cl_205.slots.size ≤ ((3 : Int32)).toNatClampNeg) := inb_of S_205 ⟨by decide, by decide⟩
    have hat_205 : cl_205.slots[((3 : Int32)).toNatClampNeg]? = some (.int v2) := H_205.at hin_205 rfl
    have pre206 : Rch p.tables e below (s₁.setTop (entryFrame m #[(.int p0), (.int p1), (.int p2), (.int p3)] maxLocals)) (T170.setTop (mkF m 196 #[.val (.int p0), .val (.int p1), .val (.int p2), .val (.int p3), .val (.int (3 : Int32)), .val (.ref a), .val (.ref r), .val (.int (1 : Int32))] [(.int v2)])) := fun tgt ktg => pre204 tgt (X170.baloadBytes hx (j := (3 : Int32)) (v := (.int v2)) Ar_205.1 (State.isArrayOf_alike hZ.alike Ar_205.2.1) Ar_205.2.2 hin_205 hat_205 (g := (mkF m 195 #[.val (.int p0), .val (.int p1), .val (.int p2), .val (.int p3), .val (.int (3 : Int32)), .val (.ref a), .val (.ref r), .val (.int (1 : Int32))] [(.int (3 : Int32)), (.ref r)])) rfl rfl (hb hby at_195) _ ktg)
    have pre207 : Rch p.tables e below (s₁.setTop (entryFrame m #[(.int p0), (.int p1), (.int p2), (.int p3)] maxLocals)) (T170.setTop (mkF m 204 #[.val (.int p0), .val (.int p1), .val (.int p2), .val (.int p3), .val (.int (3 : Int32)), .val (.ref a), .val (.ref r), .val (.int (1 : Int32))] [(.int (2 : Int32)), (.ref a)])) := fun tgt ktg => pre206 tgt (by
      show Steps p.tables e below (T170.setTop (mkF m 196 #[.val (.int p0), .val (.int p1), .val (.int p2), .val (.int p3), .val (.int (3 : Int32)), .val (.ref a), .val (.ref r), .val (.int (1 : Int32))] [(.int v2)])) _
      refine XS.iloadN X170.here hx rfl (hb hby at_196) rfl ?_
      show Steps p.tables e below (T170.setTop (mkF m 197 #[.val (.int p0), .val (.int p1), .val (.int p2), .val (.int p3), .val (.int (3 : Int32)), .val (.ref a), .val (.ref r), .val (.int (1 : Int32))] [(.int p3), (.int v2)])) _
      refine XT.i2b X170.here hx rfl (hb hby at_197) rfl ?_
      show Steps p.tables e below (T170.setTop (mkF m 198 #[.val (.int p0), .val (.int p1), .val (.int p2), .val (.int p3), .val (.int (3 : Int32)), .val (.ref a), .val (.ref r), .val (.int (1 : Int32))] [(.int (p3.toInt8.toInt32)), (.int v2)])) _
      refine XS.icmpNo X170.here hx rfl (hb hby at_198) rfl (teq hv2).2 ?_
      show Steps p.tables e below (T170.setTop (mkF m 201 #[.val (.int p0), .val (.int p1), .val (.int p2), .val (.int p3), .val (.int (3 : Int32)), .val (.ref a), .val (.ref r), .val (.int (1 : Int32))] [])) _
      refine XS.aload X170.here hx rfl (hb hby at_201) rfl rfl ?_
      show Steps p.tables e below (T170.setTop (mkF m 203 #[.val (.int p0), .val (.int p1), .val (.int p2), .val (.int p3), .val (.int (3 : Int32)), .val (.ref a), .val (.ref r), .val (.int (1 : Int32))] [(.ref a)])) _
      refine XS.iconst X170.here hx rfl (hb hby at_203) ?_
      exact ktg)
    obtain ⟨cl_208, Ar_208, q_208, S_208, N_208, H_208, G_208⟩ := id f174
    have hin_208 : ¬ ((2 : Int32) < 0 ∨ cl_208.slots.size ≤ ((2 : Int32)).toNatClampNeg) := inb_of S_208 ⟨by decide, by decide⟩
    have hat_208 : cl_208.slots[((2 : Int32)).toNatClampNeg]? = some (.int v2) := H_208.at hin_208 rfl
    have pre209 : Rch p.tables e below (s₁.setTop (entryFrame m #[(.int p0), (.int p1), (.int p2), (.int p3)] maxLocals)) (T170.setTop (mkF m 205 #[.val (.int p0), .val (.int p1), .val (.int p2), .val (.int p3), .val (.int (3 : Int32)), .val (.ref a), .val (.ref r), .val (.int (1 : Int32))] [(.int v2)])) := fun tgt ktg => pre207 tgt (X170.baloadBytes hx (j := (2 : Int32)) (v := (.int v2)) Ar_208.1 (State.isArrayOf_alike hZ.alike Ar_208.2.1) Ar_208.2.2 hin_208 hat_208 (g := (mkF m 204 #[.val (.int p0), .val (.int p1), .val (.int p2), .val (.int p3), .val (.int (3 : Int32)), .val (.ref a), .val (.ref r), .val (.int (1 : Int32))] [(.int (2 : Int32)), (.ref a)])) rfl rfl (hb hby at_204) _ ktg)
    have pre210 : Rch p.tables e below (s₁.setTop (entryFrame m #[(.int p0), (.int p1), (.int p2), (.int p3)] maxLocals)) (T170.setTop (mkF m 217 #[.val (.int p0), .val (.int p1), .val (.int p2), .val (.int p3), .val (.int (3 : Int32)), .val (.ref a), .val (.ref r), .val (.int (1 : Int32))] [])) := fun tgt ktg => pre209 tgt (by
      show Steps p.tables e below (T170.setTop (mkF m 205 #[.val (.int p0), .val (.int p1), .val (.int p2), .val (.int p3), .val (.int (3 : Int32)), .val (.ref a), .val (.ref r), .val (.int (1 : Int32))] [(.int v2)])) _
      refine XS.iloadN X170.here hx rfl (hb hby at_205) rfl ?_
      show Steps p.tables e below (T170.setTop (mkF m 206 #[.val (.int p0), .val (.int p1), .val (.int p2), .val (.int p3), .val (.int (3 : Int32)), .val (.ref a), .val (.ref r), .val (.int (1 : Int32))] [(.int p3), (.int v2)])) _
      refine XT.i2b X170.here hx rfl (hb hby at_206) rfl ?_
      show Steps p.tables e below (T170.setTop (mkF m 207 #[.val (.int p0), .val (.int p1), .val (.int p2), .val (.int p3), .val (.int (3 : Int32)), .val (.ref a), .val (.ref r), .val (.int (1 : Int32))] [(.int (p3.toInt8.toInt32)), (.int v2)])) _
      refine XS.icmpNo X170.here hx rfl (hb hby at_207) rfl (teq hv2).2 ?_
      show Steps p.tables e below (T170.setTop (mkF m 210 #[.val (.int p0), .val (.int p1), .val (.int p2), .val (.int p3), .val (.int (3 : Int32)), .val (.ref a), .val (.ref r), .val (.int (1 : Int32))] [])) _
      refine XS.iconst X170.here hx rfl (hb hby at_210) ?_
      show Steps p.tables e below (T170.setTop (mkF m 211 #[.val (.int p0), .val (.int p1), .val (.int p2), .val (.int p3), .val (.int (3 : Int32)), .val (.ref a), .val (.ref r), .val (.int (1 : Int32))] [(.int (1 : Int32))])) _
      refine XS.goto X170.here hx rfl (pc0 := 211) (pc' := 215) rfl (hb hby at_211) (by decide) (by decide) ?_
      show Steps p.tables e below (T170.setTop (mkF m 215 #[.val (.int p0), .val (.int p1), .val (.int p2), .val (.int p3), .val (.int (3 : Int32)), .val (.ref a), .val (.ref r), .val (.int (1 : Int32))] [(.int (1 : Int32))])) _
      refine XS.istore X170.here hx rfl (hb hby at_215) rfl (l' := #[.val (.int p0), .val (.int p1), .val (.int p2), .val (.int p3), .val (.int (3 : Int32)), .val (.ref a), .val (.ref r), .val (.int (1 : Int32))]) rfl ?_
      exact ktg)
    have pre211 : Rch p.tables e below (s₁.setTop (entryFrame m #[(.int p0), (.int p1), (.int p2), (.int p3)] maxLocals)) (T170.setTop (mkF m 219 #[.val (.int p0), .val (.int p1), .val (.int p2), .val (.int p3), .val (.int (3 : Int32)), .val (.ref a), .val (.ref r), .val (.int (1 : Int32))] [(.int (1 : Int32))])) := fun tgt ktg => pre210 tgt (by
      show Steps p.tables e below (T170.setTop (mkF m 217 #[.val (.int p0), .val (.int p1), .val (.int p2), .val (.int p3), .val (.int (3 : Int32)), .val (.ref a), .val (.ref r), .val (.int (1 : Int32))] [])) _
      refine XS.iload X170.here hx rfl (hb hby at_217) rfl ?_
      exact ktg)
    obtain ⟨fs, hr, hrun, hended, hW, hsame⟩ := X170.leave (v := some (.int (1 : Int32))) (fun h => by rw [Bd.returns] at h; cases h)
    refine ⟨_, _, pre211 _ ?_, hrun, hended, _, _, rfl, ?_, ⟨_, rfl⟩, hW, hsame.mono (by decide) (by decide)⟩
    · show Steps p.tables e below (T170.setTop (mkF m 219 #[.val (.int p0), .val (.int p1), .val (.int p2), .val (.int p3), .val (.int (3 : Int32)), .val (.ref a), .val (.ref r), .val (.int (1 : Int32))] [(.int (1 : Int32))])) _
      exact retN X170 hx (t := .boolean) Bd.returns (by simp) (hb hby at_219) hr
    · show Q0 Z p0 p1 p2 p3 h0 n0 _ T170.heap _
      exact ⟨rfl, N171⟩
theorem own_eqi {args : Array Value} {s f : State} {o : Option Outcome} {idx : List Nat} {a : Term} {v : Int32} (h : (Jvm.Cond.eq a (.int v)).value args f o s idx = some true) : a.eval args f o idx s = some (.int v) := by
  simp only [Cond.value, Term.int_eval] at h
  cases ha : a.eval args f o idx s with
  | none => simp [ha] at h
  | some x => cases x <;> simp [ha] at h; rw [h]
set_option maxRecDepth 65536 in
set_option maxHeartbeats 40000000 in
theorem comes_1 {Post : Tables → Env → Array Value → State → Outcome → State → Prop} (hpost : ∀ tb e args s v u, (limb_1_1.after args s (.returned v) u = true ∧ limb_1_2.after args s (.returned v) u = true ∧ True) → FrameEnd s (.returned v) u (Jvm.fieldLocs frame_1_writes args s ++ Jvm.arrayLocs frame_1_arrays args s ++ Jvm.staticLocs frame_1_statics s) 16 128 → Post tb e args s (.returned v) u) :
    ArmFor flags0 classFile x code maxLocals ret World_1 tables_1 room_1 Calls_1 rest_1 Pre_1 Post := by
  intro l hfl _ _ p e ha hc hk s m args below hf hA hF happ hP
  obtain ⟨hcalls, hrest, hpre⟩ := hP
  obtain ⟨-, -, -, hnamed, -, -, -, hat⟩ := (Spec.applies_iff hf).mp happ
  obtain ⟨hg, hn⟩ := and_e (Cond.before_iff.mp (show (Jvm.Cond.and given_1 narrow_1).before args s = true from hpre))
  obtain ⟨gc, g0⟩ := and_e hg
  obtain ⟨ga0, g1⟩ := and_e g0
  obtain ⟨ga1, g2⟩ := and_e g1
  obtain ⟨ga2, g3⟩ := and_e g2
  obtain ⟨w0, w1, w2, w3, rfl⟩ : ∃ w0 w1 w2 w3 : Value, args = #[w0, w1, w2, w3] := by
    have hs : args.size = 4 := by simpa [Cond.value, given_1] using gc
    obtain ⟨L⟩ := args
    match L, hs with
    | [w0, w1, w2, w3], _ => exact ⟨w0, w1, w2, w3, rfl⟩
  have hw := fun d (hd : d ∈ tables_1) => atoms_spec (ws := Jvm.Cond.code x code maxLocals ret :: tables_1) hat d (List.mem_cons_of_mem _ hd)
  have hfit : Fit s := fun {y c} hc i hi => by
    obtain ⟨ha, rfl⟩ := Array.getElem?_eq_some_iff.mp hc
    have q := List.all_eq_true.mp ((Array.all_eq_true_iff_forall_mem.mp hF) _ (Array.getElem_mem ha)) i (List.mem_range.mpr hi)
    simpa [Array.getElem?_eq_getElem hi] using q
  obtain ⟨i0, ei0⟩ := is_v ga0
  obtain rfl : w0 = (.int i0) := Option.some.inj ei0
  obtain ⟨i1, ei1⟩ := is_v ga1
  obtain rfl : w1 = (.int i1) := Option.some.inj ei1
  obtain ⟨i2, ei2⟩ := is_v ga2
  obtain rfl : w2 = (.int i2) := Option.some.inj ei2
  obtain ⟨i3, ei3⟩ := is_v g3
  obtain rfl : w3 = (.int i3) := Option.some.inj ei3
  obtain ⟨n1, m1⟩ := and_e hn
  obtain ⟨n2, m2⟩ := and_e m1
  obtain ⟨n3, m3⟩ := and_e m2
  obtain ⟨n4, n5⟩ := and_e m3
  obtain ⟨w, ew⟩ := arr_v n1
  have S1 : Sta s s.heap "Mllp" "END" "[B" (.ref w) := Sta.start ew (Or.inr ⟨(hw _ (List.mem_of_getElem? (i := 3) rfl)), (hw _ (List.mem_of_getElem? (i := 6) rfl))⟩)
  obtain ⟨cl, A1⟩ := Arr.start ew n1
  obtain ⟨b, cell, e1, e2, e3, e4⟩ := Lib.length_spec (own_eqi n3)
  cases ew.symm.trans e1
  cases (A1.fin (Vm.Alike.refl _)).symm.trans e2
  have AE : Arv s s.heap w cl.cls .byte (2 : Int32) [(.int (28 : Int32)), (.int (13 : Int32))] (.int (0 : Int32)) := Arv.start hfit A1 e3 (Value.int.inj e4).symm (by decide) rfl ⟨(elem_in (own_eqi n4) ew (Term.int_eval _) A1.1).2, (elem_in (own_eqi n5) ew (Term.int_eval _) A1.1).2, trivial⟩
  obtain ⟨n, o, h1, h2, h3, _, L, rfl, ⟨rfl, N⟩, hq⟩ := rm0 l s _ hw tables_1 i0 i1 i2 i3 s.heap s.heap.size (Nat.le_refl _) w cl.cls S1 AE p e ha hc hk s m _ below hf ((Spec.applies_iff_loose hf).mp happ).1 ⟨rfl, State.Warmed39.refl s, rfl⟩ trivial
  refine ⟨n, _, h1, h2, h3, hpost _ _ _ _ _ _ ⟨Cond.after_iff.mpr rfl, Cond.after_iff.mpr (eq_i res_at (Term.int_eval (1)) rfl), trivial⟩ ⟨hq.1, hq.2.1, (hq.2.2.sift fun y hy => Or.inr (N y hy)).mono (by decide) (by decide)⟩⟩
theorem main_1_1 : Claimed_1_1 := comes_1 fun _ _ _ _ _ _ h hF => ⟨h.1, hF⟩
theorem main_1_2 : Claimed_1_2 := comes_1 fun _ _ _ _ _ _ h hF => ⟨h.2.1, hF⟩
end Jvm.Pilot.@@N@@
namespace Jvm.Pilot.@@N@@
open Jvm Jvm.ClassFile Sem Op Lib Jvm.Free Jvm.Stand Jvm.Pilot.@@N@@.Jvm.D
/-! MADE BY PROGRAM (witnessworld.py) out of the Statement's table words and the real class files: 10 classes; the members and pool entries that the words name. The judged class is class 1, her method 1. -/
namespace start1
open Jvm.ClassFile
def u (s : String) : CpInfo := .utf8 (stringToUtf16 s)
/-- a pool by its gaps: so many unusable entries, then the entry; so many at the end -/
def gap : Nat → List CpInfo → List CpInfo
  | 0, r => r
  | n + 1, r => .unusable :: gap n r
def poolList (es : List (Nat × CpInfo)) (last : Nat) : List CpInfo := es.foldr (fun e r => gap e.1 (e.2 :: r)) (gap last [])
def pool (es : List (Nat × CpInfo)) (last : Nat) : Array CpInfo := ⟨poolList es last⟩
def fileOf (pool : Array CpInfo) (this : Nat) (attrs : Array Attribute := #[]) (ms : Array MethodInfo := #[]) (fl : Nat := 33) (sup : Nat := 0) (ifs : Array Nat := #[]) (fds : Array FieldInfo := #[]) : ClassFile where
  minorVersion := 0
  majorVersion := 65
  constantPool := pool
  accessFlags := fl
  thisClass := this
  superClass := sup
  interfaces := ifs
  fields := fds
  methods := ms
  attributes := attrs
def plain (name : String) (sup : Option ClassId) : Class where
  name := name
  kind := .ordinary
  loader := none
  accessFlags := 33
  super := sup
  interfaces := #[]
  cf := none
  fields := #[]
  methods := #[]
  instanceTypes := #[]
  staticTypes := #[]
  resolved := #[]
  callSites := []
  init := .initialized
  statics := none
  mirror := none

def pool0 : Array CpInfo := pool [(5, u "<init>"), (0, u "()V"), (1, .class_ 10), (1, u "java/lang/Object")] 113

def k0m0 : Method := { name := "<init>", desc := "()V", sig := { parameters := [], returnType := none }, accessFlags := 1, code := none }
/-- java/lang/Object -/
def k0 : Class := { plain "java/lang/Object" none with
  accessFlags := 33
  interfaces := #[]
  cf := some (fileOf pool0 8 #[] #[{ accessFlags := 1, nameIndex := 5, descriptorIndex := 6, attributes := #[] }] 33 0 #[] #[])
  fields := #[]
  methods := #[k0m0]
  instanceTypes := #[]
  staticTypes := #[]
  resolved := Array.replicate 124 none
  statics := none }

def pool1 : Array CpInfo := pool [(2, .class_ 4), (1, u "java/lang/Object"), (0, u "<init>"), (0, u "()V"), (0, .methodref 8 9), (0, .class_ 10), (0, .nameAndType 11 12), (0, u "Mllp"), (0, u "frame"), (0, u "([B)[B"), (0, .class_ 14), (0, u "MllpFramePinLaw"), (2, u "law"), (0, u "(IIII)Z")] 5

def k1m0 : Method := { name := "<init>", desc := "()V", sig := { parameters := [], returnType := none }, accessFlags := 1, code := none }
def k1c1 : Code := { maxStack := 3, maxLocals := 8, code := code, exceptionTable := #[], attributes := #[] }
def k1m1 : Method := { name := "law", desc := "(IIII)Z", sig := { parameters := [.int, .int, .int, .int], returnType := some .boolean }, accessFlags := 9, code := some k1c1 }
/-- MllpFramePinLaw -/
def k1 : Class := { plain "MllpFramePinLaw" (some 0) with
  accessFlags := 49
  interfaces := #[]
  cf := some (fileOf pool1 13 #[] #[{ accessFlags := 1, nameIndex := 5, descriptorIndex := 6, attributes := #[] }, { accessFlags := 9, nameIndex := 17, descriptorIndex := 18, attributes := #[] }] 49 2 #[] #[])
  fields := #[]
  methods := #[k1m0, k1m1]
  instanceTypes := #[]
  staticTypes := #[]
  resolved := Array.replicate 24 none
  statics := none }

def pool2 : Array CpInfo := pool [(2, .class_ 4), (1, u "java/lang/Object"), (0, u "<init>"), (0, u "()V"), (0, .fieldref 8 9), (0, .class_ 10), (0, .nameAndType 11 12), (0, u "Mllp"), (0, u "END"), (0, u "[B"), (0, .methodref 14 15), (0, .class_ 16), (0, .nameAndType 17 18), (0, u "java/lang/System"), (0, u "arraycopy"), (0, u "(Ljava/lang/Object;ILjava/lang/Object;II)V"), (2, u "frame"), (0, u "([B)[B"), (29, u "START"), (0, u "I")] 13

def k2m0 : Method := { name := "<init>", desc := "()V", sig := { parameters := [], returnType := none }, accessFlags := 2, code := none }
def k2c1 : Code := { maxStack := 5, maxLocals := 2, code := prog_9_method_2_code, exceptionTable := #[], attributes := #[] }
def k2m1 : Method := { name := "frame", desc := "([B)[B", sig := { parameters := [(.array .byte)], returnType := some (.array .byte) }, accessFlags := 8, code := some k2c1 }
/-- Mllp -/
def k2 : Class := { plain "Mllp" (some 0) with
  accessFlags := 48
  interfaces := #[]
  cf := some (fileOf pool2 8 #[] #[{ accessFlags := 2, nameIndex := 5, descriptorIndex := 6, attributes := #[] }, { accessFlags := 8, nameIndex := 21, descriptorIndex := 22, attributes := #[] }] 48 2 #[] #[{ accessFlags := 24, nameIndex := 52, descriptorIndex := 53, attributes := #[] }, { accessFlags := 24, nameIndex := 11, descriptorIndex := 12, attributes := #[] }])
  fields := #[{ name := "START", type := .int, accessFlags := 24, slot := 0, constantValue := 0 }, { name := "END", type := (.array .byte), accessFlags := 24, slot := 1, constantValue := 0 }]
  methods := #[k2m0, k2m1]
  instanceTypes := #[]
  staticTypes := #[.int, (.array .byte)]
  resolved := Array.replicate 67 none
  statics := some 0 }

def pool3 : Array CpInfo := pool [(2, .class_ 4), (1, u "java/lang/Object"), (0, u "<init>"), (0, u "()V"), (1, .class_ 10), (1, u "java/lang/System"), (0, u "allowSecurityManager"), (0, u "I"), (16, u "cons"), (0, u "Ljava/io/Console;"), (77, .class_ 110), (1, u "java/lang/System$CallersHolder"), (43, u "initialErrStream"), (0, u "Ljava/io/PrintStream;"), (19, u "security"), (0, u "Ljava/lang/SecurityManager;"), (31, .class_ 209), (0, u "java/lang/System$1"), (7, u "props"), (0, u "Ljava/util/Properties;"), (2, u "lineSeparator"), (0, u "Ljava/lang/String;"), (96, .class_ 321), (1, u "java/lang/System$LoggerFinder"), (5, .class_ 328), (0, u "java/lang/System$Logger"), (67, u "err"), (2, u "out"), (91, u "notSupportedJnuEncoding"), (15, u "in"), (17, u "initialIn"), (0, u "Ljava/io/InputStream;"), (35, u "bootLayer"), (0, u "Ljava/lang/ModuleLayer;"), (99, .class_ 664), (0, u "java/lang/System$2"), (9, u "NEVER"), (2, u "MAYBE"), (49, u "arraycopy"), (0, u "(Ljava/lang/Object;ILjava/lang/Object;II)V"), (72, .class_ 802), (0, u "java/lang/System$Logger$Level")] 31

def k3m0 : Method := { name := "<init>", desc := "()V", sig := { parameters := [], returnType := none }, accessFlags := 2, code := none }
def k3m1 : Method := { name := "arraycopy", desc := "(Ljava/lang/Object;ILjava/lang/Object;II)V", sig := { parameters := [(.object "java/lang/Object"), .int, (.object "java/lang/Object"), .int, .int], returnType := none }, accessFlags := 265, code := none }
/-- java/lang/System -/
def k3 : Class := { plain "java/lang/System" (some 0) with
  accessFlags := 49
  interfaces := #[]
  cf := some (fileOf pool3 8 #[.nestMembers #[319, 327, 801, 108, 663, 208]] #[{ accessFlags := 2, nameIndex := 5, descriptorIndex := 6, attributes := #[] }, { accessFlags := 265, nameIndex := 727, descriptorIndex := 728, attributes := #[] }] 49 2 #[] #[{ accessFlags := 25, nameIndex := 507, descriptorIndex := 526, attributes := #[] }, { accessFlags := 25, nameIndex := 399, descriptorIndex := 155, attributes := #[] }, { accessFlags := 25, nameIndex := 396, descriptorIndex := 155, attributes := #[] }, { accessFlags := 10, nameIndex := 525, descriptorIndex := 526, attributes := #[] }, { accessFlags := 26, nameIndex := 674, descriptorIndex := 12, attributes := #[] }, { accessFlags := 26, nameIndex := 677, descriptorIndex := 12, attributes := #[] }, { accessFlags := 10, nameIndex := 11, descriptorIndex := 12, attributes := #[] }, { accessFlags := 74, nameIndex := 175, descriptorIndex := 176, attributes := #[] }, { accessFlags := 10, nameIndex := 491, descriptorIndex := 222, attributes := #[] }, { accessFlags := 74, nameIndex := 29, descriptorIndex := 30, attributes := #[] }, { accessFlags := 74, nameIndex := 154, descriptorIndex := 155, attributes := #[] }, { accessFlags := 10, nameIndex := 217, descriptorIndex := 218, attributes := #[] }, { accessFlags := 10, nameIndex := 221, descriptorIndex := 222, attributes := #[] }, { accessFlags := 8, nameIndex := 562, descriptorIndex := 563, attributes := #[] }])
  fields := #[{ name := "in", type := (.object "java/io/InputStream"), accessFlags := 25, slot := 0, constantValue := 0 }, { name := "out", type := (.object "java/io/PrintStream"), accessFlags := 25, slot := 1, constantValue := 0 }, { name := "err", type := (.object "java/io/PrintStream"), accessFlags := 25, slot := 2, constantValue := 0 }, { name := "initialIn", type := (.object "java/io/InputStream"), accessFlags := 10, slot := 3, constantValue := 0 }, { name := "NEVER", type := .int, accessFlags := 26, slot := 4, constantValue := 0 }, { name := "MAYBE", type := .int, accessFlags := 26, slot := 5, constantValue := 0 }, { name := "allowSecurityManager", type := .int, accessFlags := 10, slot := 6, constantValue := 0 }, { name := "security", type := (.object "java/lang/SecurityManager"), accessFlags := 74, slot := 7, constantValue := 0 }, { name := "notSupportedJnuEncoding", type := (.object "java/lang/String"), accessFlags := 10, slot := 8, constantValue := 0 }, { name := "cons", type := (.object "java/io/Console"), accessFlags := 74, slot := 9, constantValue := 0 }, { name := "initialErrStream", type := (.object "java/io/PrintStream"), accessFlags := 74, slot := 10, constantValue := 0 }, { name := "props", type := (.object "java/util/Properties"), accessFlags := 10, slot := 11, constantValue := 0 }, { name := "lineSeparator", type := (.object "java/lang/String"), accessFlags := 10, slot := 12, constantValue := 0 }, { name := "bootLayer", type := (.object "java/lang/ModuleLayer"), accessFlags := 8, slot := 13, constantValue := 0 }]
  methods := #[k3m0, k3m1]
  instanceTypes := #[]
  staticTypes := #[(.object "java/io/InputStream"), (.object "java/io/PrintStream"), (.object "java/io/PrintStream"), (.object "java/io/InputStream"), .int, .int, .int, (.object "java/lang/SecurityManager"), (.object "java/lang/String"), (.object "java/io/Console"), (.object "java/io/PrintStream"), (.object "java/util/Properties"), (.object "java/lang/String"), (.object "java/lang/ModuleLayer")]
  resolved := Array.replicate 834 none
  statics := none }

def pool4 : Array CpInfo := pool [(1, u "java/lang/Cloneable"), (0, .class_ 1), (0, u "java/lang/Object"), (0, .class_ 3)] 3

/-- java/lang/Cloneable -/
def k4 : Class := { plain "java/lang/Cloneable" (some 0) with
  accessFlags := 1537
  interfaces := #[]
  cf := some (fileOf pool4 2 #[] #[] 1537 4 #[] #[])
  fields := #[]
  methods := #[]
  instanceTypes := #[]
  staticTypes := #[]
  resolved := Array.replicate 8 none
  statics := none }

def pool5 : Array CpInfo := pool [(1, u "java/io/Serializable"), (0, .class_ 1), (0, u "java/lang/Object"), (0, .class_ 3)] 3

/-- java/io/Serializable -/
def k5 : Class := { plain "java/io/Serializable" (some 0) with
  accessFlags := 1537
  interfaces := #[]
  cf := some (fileOf pool5 2 #[] #[] 1537 4 #[] #[])
  fields := #[]
  methods := #[]
  instanceTypes := #[]
  staticTypes := #[]
  resolved := Array.replicate 8 none
  statics := none }

/-- the primitive byte -/
def k6 : Class := { plain "byte" none with kind := .primitive 'B', accessFlags := 0x411 }
/-- [B -/
def k7 : Class := { plain "[B" (some 0) with kind := .array 6 .byte, interfaces := #[4, 5], accessFlags := 1041 }

/-- the primitive int -/
def k8 : Class := { plain "int" none with kind := .primitive 'I', accessFlags := 0x411 }
/-- [I -/
def k9 : Class := { plain "[I" (some 0) with kind := .array 8 .int, interfaces := #[4, 5], accessFlags := 1041 }

def heap : Heap := #[{ cls := 2, slots := #[.int 0, .ref 1], vm := .statics 2 },
  { cls := 7, slots := #[.int 28, .int 13], vm := .none }]
def classes : Array Class := #[k0, k1, k2, k3, k4, k5, k6, k7, k8, k9]
def interned : List (Array UInt16 × Addr) := []
def slotsUsed : Nat := 4
def theMethod : MethodId := ⟨1, 1⟩
def args0 : Array Value := #[.int 2, .int 5, .int 6, .int 7]
def aboutOver (below : List Frame) : State where
  vm := { classes := classes, interned := interned.toArray }
  heap := heap
  slotsUsed := slotsUsed
  threads := #[{ frames := .invoking theMethod args0 :: below }]
def below0 : List Frame := [.native { method := ⟨0, 0⟩, args := #[] }]
def about1 : State := aboutOver below0
def p0 : Program := .bare "" "" ""
def e0 : Env := launch0.env 0 0 0
theorem w_frames : about1.frames = Frame.invoking theMethod args0 :: below0 := rfl
set_option maxRecDepth 65536 in
theorem w_args : argsFit about1.vm theMethod args0 = true := by decide +kernel
set_option maxRecDepth 65536 in
theorem w_heap : heapFits about1 = true := by decide +kernel
set_option maxRecDepth 65536 in
theorem w_runnable : about1.curStatus? = some .runnable := by decide +kernel
set_option maxRecDepth 65536 in
theorem w_alone : about1.alone = true := by decide +kernel
set_option maxRecDepth 65536 in
theorem w_named : about1.methodNamed? x = some theMethod := by decide +kernel
set_option maxRecDepth 65536 in
theorem w_hears : about1.hears theMethod below0 = true := by decide +kernel
set_option maxRecDepth 65536 in
theorem w_ripe : about1.ripe theMethod args0 below0 = true := by decide +kernel
theorem w_running : about1.status = .running := rfl
set_option maxRecDepth 65536 in
theorem w_room : about1.hasRoom e0.platform room_1 = true :=
  launch0.hasRoom_least _ room_1 (by decide +kernel) (by decide +kernel) (by decide +kernel) (by decide +kernel) (by decide +kernel) (by decide +kernel)
theorem allAtoms_all (ts : List Jvm.Cond) (a : Array Jvm.Value) (st : Jvm.State) : (allAtoms ts).before a st = ts.all (fun c => c.before a st) := by
  induction ts with
  | nil => rfl
  | cons c t ih =>
    show (Jvm.Cond.and c (allAtoms t)).before a st = _
    rw [Jvm.Cond.before_and, ih, List.all_cons]
def words1 : List Jvm.Cond := Jvm.Cond.code x code maxLocals ret :: tables_1
/-- a 'code' word, met by the world's own term for the bytes: nothing is compared byte by byte -/
theorem code_word {y : MethodName} {bytes : ByteArray} {mx : Nat} {rt : Option FieldType} {a : Array Value} {s : State} {m : MethodId} {meth : Method} {c : Code} (h1 : s.methodNamed? y = some m) (h2 : s.vm.method? m = some meth) (h3 : meth.code = some c) (h4 : c.code = bytes)
    (h5 : (c.maxLocals == mx && c.exceptionTable.isEmpty && decide (c.maxStack ≤ mostOperands) && decide (meth.sig.returnType = rt) && !meth.locks && decide (parseMethodDescriptor y.desc = some meth.sig)) = true) : (Jvm.Cond.code y bytes mx rt).before a s = true := by
  simp only [Bool.and_eq_true, beq_iff_eq, Bool.not_eq_true', decide_eq_true_eq] at h5
  obtain ⟨⟨⟨⟨⟨g1, g2⟩, g3⟩, g4⟩, g5⟩, g6⟩ := h5
  simp [Cond.before, Cond.holds, Cond.value, h1, h2, h3, h4, g1, g2, g3, g4, g5, g6]
def isCode : Jvm.Cond → Bool
  | .code _ _ _ _ => true
  | _ => false
theorem all_split {L : List Jvm.Cond} {P : Jvm.Cond → Bool} (h1 : L.all (fun c => isCode c || P c) = true) (h2 : ∀ c ∈ L.filter isCode, P c = true) : L.all P = true := by
  refine List.all_eq_true.mpr fun c hc => ?_
  have h := List.all_eq_true.mp h1 c hc
  rcases Bool.eq_false_or_eq_true (isCode c) with hi | hi
  · exact h2 c (List.mem_filter.mpr ⟨hc, hi⟩)
  · simpa [hi] using h
set_option maxRecDepth 65536 in
theorem w_c0 : (Jvm.Cond.code x code maxLocals ret).before args0 about1 = true := code_word (m := ⟨1, 1⟩) (meth := k1m1) (c := k1c1) (by decide +kernel) rfl rfl rfl (by decide +kernel)
set_option maxRecDepth 65536 in
theorem w_c1 : (Jvm.Cond.code ({ cls := "Mllp", name := "frame", desc := "([B)[B" } : Jvm.MethodName) prog_9_method_2_code (2 : Nat) (Option.some (Jvm.ClassFile.FieldType.array Jvm.ClassFile.FieldType.byte))).before args0 about1 = true := code_word (m := ⟨2, 1⟩) (meth := k2m1) (c := k2c1) (by decide +kernel) rfl rfl rfl (by decide +kernel)
def codes1 : List Jvm.Cond := [Jvm.Cond.code x code maxLocals ret, Jvm.Cond.code ({ cls := "Mllp", name := "frame", desc := "([B)[B" } : Jvm.MethodName) prog_9_method_2_code (2 : Nat) (Option.some (Jvm.ClassFile.FieldType.array Jvm.ClassFile.FieldType.byte))]
set_option maxRecDepth 65536 in
theorem codes_eq : words1.filter isCode = codes1 := rfl
theorem w_codes : ∀ c ∈ words1.filter isCode, c.before args0 about1 = true := by
  rw [codes_eq]
  intro c hc
  simp only [codes1, List.mem_cons, List.not_mem_nil, or_false] at hc
  rcases hc with rfl | rfl
  · exact w_c0
  · exact w_c1
set_option maxRecDepth 65536 in
theorem w_t1 : words1.all (fun c => isCode c || c.before args0 about1) = true := by decide +kernel
theorem w_tables : (allAtoms (Jvm.Cond.code x code maxLocals ret :: tables_1)).before args0 about1 = true := by
  rw [allAtoms_all]
  show words1.all (fun c => c.before args0 about1) = true
  refine all_split ?_ w_codes
  rw [w_t1]
set_option maxRecDepth 65536 in
theorem w_case : (Jvm.Cond.and given_1 narrow_1).before args0 about1 = true := by decide +kernel
theorem w_applies : (headSpec (Jvm.Cond.code x code maxLocals ret :: tables_1) room_1).applies x e0.platform about1 = true :=
  (Spec.applies_iff w_frames).mpr ⟨w_running, w_runnable, w_alone, w_named, w_hears, w_ripe, w_room, w_tables⟩
theorem atStart : AtStart classFile x code maxLocals ret World_1 tables_1 room_1 Calls_1 rest_1 Pre_1 launch0 p0 e0 about1 theMethod args0 below0 :=
  ⟨lists_1, trivial, launch0.admits_env _ _ _, launch0.least_env, fairChoices_fair.cas, fairChoices_fair.clock, w_frames, w_args, w_heap, w_applies, trivial, trivial, w_case⟩
end start1
theorem witness_1 : WitnessClaimed_1 := ⟨start1.p0, start1.e0, start1.about1, start1.theMethod, start1.args0, start1.below0, start1.atStart⟩
end Jvm.Pilot.@@N@@
