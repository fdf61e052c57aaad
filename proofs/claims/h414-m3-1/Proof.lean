import JvmDerived
import JvmDerived.Pilot.@@N@@Statement
import JvmDerived.Pilot.@@N@@Code
set_option linter.unusedVariables false
set_option linter.unusedSimpArgs false
@@BLOCK:NumsL.lean.txt@@
namespace Jvm.RoadKit
open Sem ClassFile Op Lib Jvm.Stand Jvm.Free Jvm.LawKit
section New
variable {p : Program} {l : Launch} {e : Env} {R : Room} {s : State} {m : MethodId} {args : Array Value} {below : List Frame} {meth : Method} {c : Code} {T : State} {locs : List Loc} {cells slots : Nat}
theorem retI (X : Stand p l e R s m args below meth c T locs cells slots) (hx : p.tables.exec = Jvm.exec) {pc : Nat} {Ls : Array Slot} {z : Int32} {rest : List Value} (hret : meth.sig.returnType = some .int) (hd : decode c.code pc = .ok (.ireturn, 1)) {fs : List Frame}
    (hl : ∀ (f : JFrame) (acts : List Action), f.method = m → f.locked = none → f.entered = [] → (doReturn e (T.setTop f) acts (some (.int z))).1 = T.setFrames fs) : Steps p.tables e below (T.setTop (mkF m pc Ls (.int z :: rest))) (T.setFrames fs) := by
  have hm' : T.vm.method? m = some meth := X.method'
  have hn : narrow .int (.int z) = .int z := rfl
  show Steps p.tables e below (T.setTop { method := m, pc := pc, locals := Ls, stack := _ :: rest, locked := none }) _
  jvm_step X.here [X.here.top, hx, hd, hm', hret, hn]
  first | (intro acts; rw [hl _ acts rfl rfl rfl]) | rw [hl _ _ rfl rfl rfl]
  exact Steps.refl _
end New
theorem own_sta_keep {Z : State} {h h' : Heap} {C n d : String} {v : Value} {ws : List Addr} (F : Sta Z h C n d v) (K : Keep h h' ws) (q : ∀ x ∈ ws, ∀ cell : Cell, h[x]? = some cell → cell.vm.isStatics = false) : Sta Z h' C n d v := by
  obtain ⟨cf, i, k, f, st, cell, h1, h2, h3, h4, h5, h6, h7⟩ := F
  exact ⟨cf, i, k, f, st, cell, h1, h2, h3, h4, K.2.1 st cell h5 (fun hm => by rw [q st hm cell h5] at h6; cases h6), h6, h7⟩
/-- a class that is none of the interfaces -/
def NoFace (Z : State) (N : String) : Prop := ∃ (c : ClassId) (k : Class), Z.vm.findClass N = some c ∧ Z.vm.classes[c]? = some k ∧ k.isInterface = false
theorem own_noface {Z : State} {a0 : Array Value} {C : String} {y : MethodName} (w : (Cond.selects C y y).before a0 Z = true) : NoFace Z y.cls := by
  obtain ⟨c2, r2, m2, q1, q2, q3, q4, kP, hkP, hkPi⟩ := Cond.selects_spec w
  exact ⟨m2.cls, kP, findClass_of_methodNamed q3, hkP, hkPi⟩
theorem own_same {Z : State} {a0 : Array Value} {y : MethodName} (F : NoFace Z y.cls) (wi : (Cond.instanceMethod y).before a0 Z = true) (hy : y.cls ≠ "java/lang/invoke/MethodHandle" ∧ y.cls ≠ "java/lang/invoke/VarHandle") : (Cond.sameMethod y.cls y.cls y.name y.desc).before a0 Z = true := by
  obtain ⟨c, k, h1, h2, h3⟩ := F
  obtain ⟨mk, methM, hnamed, hmethM, -, -⟩ := Cond.instanceMethod_spec wi
  have hfound : Z.methodFound? y.cls y.name y.desc = some mk := State.methodFound?_of_named hnamed hy
  have hn : Z.methodNamed? ⟨y.cls, y.name, y.desc⟩ = some mk := hnamed
  simp only [Cond.before, Cond.holds, Cond.value, h1, hfound, hn, h2]
  simp; exact h3
theorem own_psel {Z : State} {a0 : Array Value} {y : MethodName} (F : NoFace Z y.cls) (wi : (Cond.instanceMethod y).before a0 Z = true) (wp : (Cond.privateMethod y).before a0 Z = true) (hy : y.cls ≠ "java/lang/invoke/MethodHandle" ∧ y.cls ≠ "java/lang/invoke/VarHandle") : (Cond.selects y.cls y y).before a0 Z = true := by
  obtain ⟨c, k, h1, h2, h3⟩ := F
  exact selects_self_of_private h1 h2 h3 (Cond.privateMethod_at wp) wi hy
/-- from A the run goes on as from B -/
def Rch (tb : Tables) (e : Env) (below : List Frame) (A B : State) : Prop := ∀ t, Steps tb e below B t → Steps tb e below A t
end Jvm.RoadKit
namespace Jvm.Pilot.@@N@@
open Jvm Jvm.ClassFile Sem Op Lib Jvm.Free Jvm.Stand Jvm.LawKit Jvm.RoadKit Bundle Jvm.Pilot.@@N@@.Jvm.D
theorem own_EW {Z : State} {a0 : Array Value} (hw : ∀ d ∈ tables_1, d.before a0 Z = true) : EW Z a0 consts_1 := (EW.cons (hw _ (List.mem_of_getElem? (i := 4) rfl)) (by decide) (EW.cons (hw _ (List.mem_of_getElem? (i := 132) rfl)) (by decide) (EW.cons (hw _ (List.mem_of_getElem? (i := 133) rfl)) (by decide) (EW.cons (hw _ (List.mem_of_getElem? (i := 60) rfl)) (by decide) (EW.cons (hw _ (List.mem_of_getElem? (i := 82) rfl)) (by decide) EW.nil)))))
theorem own_wS {Z : State} {a0 : Array Value} (hw : ∀ d ∈ tables_1, d.before a0 Z = true) : ∀ d ∈ Bundle.stringAtoms, d.before a0 Z = true := by
  intro d hd
  simp only [Bundle.stringAtoms, List.mem_cons, List.not_mem_nil, or_false] at hd
  rcases hd with rfl | rfl | rfl | rfl | rfl | rfl | rfl
  · exact (hw _ (List.mem_of_getElem? (i := 5) rfl))
  · exact (hw _ (List.mem_of_getElem? (i := 6) rfl))
  · exact (hw _ (List.mem_of_getElem? (i := 7) rfl))
  · exact (hw _ (List.mem_of_getElem? (i := 8) rfl))
  · exact (hw _ (List.mem_of_getElem? (i := 9) rfl))
  · exact (hw _ (List.mem_of_getElem? (i := 10) rfl))
  · exact (hw _ (List.mem_of_getElem? (i := 11) rfl))
theorem own_safe_null {Z : State} {EL : List (String × Nat)} {vm : Vm} {h : Heap} {x : Addr} (hal : Z.vm.Alike vm) (E : Exa Z h x "java/lang/String") (F : Fld Z h x "java/lang/String" "value" "[B" .null) : Safe Z EL vm h x := fun B => by
  obtain ⟨p, -, u, a, -, q, -, G, rfl | rfl⟩ := B
  · obtain ⟨cS, ⟨S, -, -⟩, -⟩ := G
    obtain ⟨s1, -, -, ⟨c, k, i, s4, -⟩, -, -, -, s8, -⟩ := S
    obtain ⟨cell, cf, k', i', f', g1, g2, -, -, -, -, g7⟩ := F
    cases (show h[q.sa]? = some q.sC from s1).symm.trans g1
    obtain ⟨k2, h2, -⟩ := State.fieldFound?_setVm (s := Z) hal g2
    have e : some (cf, k2, i', f') = some (c, k, i, q.fSV) := h2.symm.trans s4
    have e2 : f' = q.fSV := by cases e; rfl
    rw [e2] at g7
    cases g7.symm.trans s8
  · obtain ⟨cell, kc, e1, e2, -⟩ := E
    have hd : h[q.sd]? = some q.SA := G.hd
    cases hd.symm.trans e1
    obtain ⟨cS, -, -, f, -⟩ := G
    have f' : vm.findClass "[B" = some q.SA.cls := f
    rw [hal.findClass] at f'
    obtain ⟨k1, q1, q2⟩ := Vm.findClass_spec f'
    obtain ⟨k2, q3, q4⟩ := Vm.findClass_spec e2
    cases q1.symm.trans q3
    exact absurd (q2.symm.trans q4) (by decide)
theorem own_idem (x : Int32) : nar .byte (x.toInt8.toInt32) = x.toInt8.toInt32 := by
  show x.toInt8.toInt32.toInt8.toInt32 = x.toInt8.toInt32
  rw [Int8.toInt8_toInt32]
theorem own_shr0 (z : Int32) : (z >>> ((0 : Int32) &&& 31)) = z := by
  show z >>> (0 : Int32) = z
  exact Int32.shiftRight_zero
theorem own_ch (x : Int32) : some (Value.int (nar .char ((x &&& (255 : Int32)).toUInt32.toUInt16.toUInt32.toInt32))) = some (Value.int (x &&& 255)) := by
  rw [i2c_mask]
  show some (Value.int ((x &&& (255 : Int32)).toUInt32.toUInt16.toUInt32.toInt32)) = _
  rw [i2c_mask]
theorem own_ch2 (x : Int32) : some (Value.int (nar .char (x &&& 255))) = some (Value.int (x &&& 255)) := by
  show some (Value.int ((x &&& (255 : Int32)).toUInt32.toUInt16.toUInt32.toInt32)) = _
  rw [i2c_mask]
theorem own_ltn {a b : Nat} (ha : a < 100) (hb : b < 100) : Int32.ofNat a < Int32.ofNat b ↔ a < b := by
  rw [Int32.lt_iff_toInt_lt, Int32.toInt_ofNat_of_lt (by omega), Int32.toInt_ofNat_of_lt (by omega)]; omega
theorem own_inj {a b : Nat} (ha : a < 100) (hb : b < 100) : Int32.ofNat a = Int32.ofNat b ↔ a = b := by
  constructor
  · intro h
    have q := congrArg Int32.toInt h
    rw [Int32.toInt_ofNat_of_lt (by omega), Int32.toInt_ofNat_of_lt (by omega)] at q; omega
  · intro h; rw [h]
theorem own_suc (a : Nat) : Int32.ofNat a + (1 : Int32) = Int32.ofNat (a + 1) := (Int32.ofNat_add a 1).symm
theorem own_nn {a : Nat} (ha : a < 100) : (Int32.ofNat a).toNatClampNeg = a := by
  have e := Int32.toInt_ofNat_of_lt (n := a) (by omega)
  show (Int32.ofNat a).toInt.toNat = a
  rw [e]; omega
theorem own_gd (l : List Int32) (i : Nat) : (l.map Value.int).getD i (.int (0 : Int32)) = .int (l.getD i 0) := by
  induction l generalizing i with
  | nil => rfl
  | cons x t ih => cases i with
    | zero => rfl
    | succ i => exact ih i
theorem own_at {l : List Int32} {i : Nat} (hi : i < 100) : (l.map Value.int).getD (Int32.ofNat i).toNatClampNeg (.int (0 : Int32)) = .int (l.getD i 0) := by rw [own_nn hi]; exact own_gd l i
theorem own_inb {i z : Nat} (hz : z < 100) (h : i < z) : ¬ Int32.ofNat i < 0 ∧ Int32.ofNat i < Int32.ofNat z := ⟨fun q => absurd ((own_ltn (by omega) (by decide : 0 < 100)).mp q) (by omega), (own_ltn (by omega) hz).mpr h⟩
/-- a slot that a store of one word fills -/
def Pl (sl : Slot) : Prop := sl = .unset ∨ ∃ x, sl = .val (.int x)
/-- ts stands in bs at the place i -/
def Occ (bs ts : List Int32) (i : Nat) : Prop := ∀ k, k < ts.length → bs.getD (i + k) 0 = ts.getD k 0
def Has (bs ts : List Int32) : Prop := ∃ i, i + ts.length ≤ bs.length ∧ Occ bs ts i
theorem own_mx {z mx : Nat} (h : mx + z = 38) : (38 : Int32) - Int32.ofNat z = Int32.ofNat mx := by
  refine Int32.toInt_inj.mp ?_
  have e38 : (38 : Int32).toInt = 38 := by decide
  have ez := Int32.toInt_ofNat_of_lt (n := z) (by omega)
  have a : ((38 : Int32) - Int32.ofNat z).toInt = 38 - (z : Int) := by rw [← e38, ← ez]; exact Jvm.Kit.i32_sub (by omega) (by omega)
  rw [a, Int32.toInt_ofNat_of_lt (by omega)]; omega
theorem own_en {i z : Nat} (hz : 1 ≤ z) (h : i + z ≤ 38) : ((Int32.ofNat (i + 1) + Int32.ofNat z) - (1 : Int32)) = Int32.ofNat (i + z) := by
  refine Int32.toInt_inj.mp ?_
  have e1 : (1 : Int32).toInt = 1 := by decide
  have ez := Int32.toInt_ofNat_of_lt (n := z) (by omega)
  have ei := Int32.toInt_ofNat_of_lt (n := i + 1) (by omega)
  have a : (Int32.ofNat (i + 1) + Int32.ofNat z).toInt = (i + 1 : Nat) + (z : Int) := by rw [← ei, ← ez]; exact Jvm.Kit.i32_add (by omega) (by omega)
  have b : ((Int32.ofNat (i + 1) + Int32.ofNat z) - (1 : Int32)).toInt = (Int32.ofNat (i + 1) + Int32.ofNat z).toInt - 1 := by rw [← e1]; exact Jvm.Kit.i32_sub (by omega) (by omega)
  rw [b, a, Int32.toInt_ofNat_of_lt (by omega)]; omega
theorem d21_76 : decode jdk_43_method_25_code 76 = .ok (.iload 8, 2) := by decide +kernel
theorem d21_78 : decode jdk_43_method_25_code 78 = .ok (.iload 9, 2) := by decide +kernel
theorem d21_80 : decode jdk_43_method_25_code 80 = .ok (.if_icmp .ge 23, 3) := by decide +kernel
theorem d21_83 : decode jdk_43_method_25_code 83 = .ok (.aload_n 0, 1) := by decide +kernel
theorem d21_84 : decode jdk_43_method_25_code 84 = .ok (.iload 8, 2) := by decide +kernel
theorem d21_86 : decode jdk_43_method_25_code 86 = .ok (.baload, 1) := by decide +kernel
theorem d21_87 : decode jdk_43_method_25_code 87 = .ok (.aload_n 2, 1) := by decide +kernel
theorem d21_88 : decode jdk_43_method_25_code 88 = .ok (.iload 10, 2) := by decide +kernel
theorem d21_90 : decode jdk_43_method_25_code 90 = .ok (.baload, 1) := by decide +kernel
theorem d21_91 : decode jdk_43_method_25_code 91 = .ok (.if_icmp .ne 12, 3) := by decide +kernel
theorem d21_94 : decode jdk_43_method_25_code 94 = .ok (.iinc 8 1, 3) := by decide +kernel
theorem d21_97 : decode jdk_43_method_25_code 97 = .ok (.iinc 10 1, 3) := by decide +kernel
theorem d21_100 : decode jdk_43_method_25_code 100 = .ok (.goto (-24), 3) := by decide +kernel
set_option maxRecDepth 65536 in
set_option maxHeartbeats 40000000 in
theorem inT {p : Program} {l : Launch} {e : Env} {s : State} {m : MethodId} {args : Array Value} {below : List Frame} {meth : Method} {c : Code} {T0 : State} {locs : List Loc} {cells slots : Nat} {Z : State} {h0 : Heap} {b t : Addr} {kb kt : ClassId} {bs ts : List Int32} {z mx : Nat} {f : Int32} {i j k : Nat}
    (X0 : Stand p l e ({ frames := 0, cells := 0, slots := 0, locals := 0 } : Room) s m args below meth c T0 locs cells slots) (hx : p.tables.exec = Jvm.exec) (hZ : Z.Warmed39 s.vm) (hby : c.code = jdk_43_method_25_code) (e0 : T0.heap = h0) (A1 : Arv Z h0 b kb .byte (38 : Int32) (bs.map Value.int) (.int (0 : Int32))) (A2 : Arv Z h0 t kt .byte (Int32.ofNat z) (ts.map Value.int) (.int (0 : Int32))) (hz1 : 1 ≤ z) (hzm : mx + z = 38) (hi : i + z ≤ 38) (hj : j = i + k) (hk : k ≤ z) :
    (k < z ∧ bs.getD (i + k) 0 = ts.getD k 0 ∧ Rch p.tables e below (T0.setTop (mkF m 76 #[.val (.ref b), .val (.int (38 : Int32)), .val (.ref t), .val (.int (Int32.ofNat z)), .val (.int (0 : Int32)), .val (.int f), .val (.int (Int32.ofNat mx)), .val (.int (Int32.ofNat i)), .val (.int (Int32.ofNat j)), .val (.int (Int32.ofNat (i + z))), .val (.int (Int32.ofNat k))] [])) (T0.setTop (mkF m 76 #[.val (.ref b), .val (.int (38 : Int32)), .val (.ref t), .val (.int (Int32.ofNat z)), .val (.int (0 : Int32)), .val (.int f), .val (.int (Int32.ofNat mx)), .val (.int (Int32.ofNat i)), .val (.int (Int32.ofNat (j + 1))), .val (.int (Int32.ofNat (i + z))), .val (.int (Int32.ofNat (k + 1)))] []))) ∨ ((k = z ∨ (k < z ∧ ¬ bs.getD (i + k) 0 = ts.getD k 0)) ∧ Rch p.tables e below (T0.setTop (mkF m 76 #[.val (.ref b), .val (.int (38 : Int32)), .val (.ref t), .val (.int (Int32.ofNat z)), .val (.int (0 : Int32)), .val (.int f), .val (.int (Int32.ofNat mx)), .val (.int (Int32.ofNat i)), .val (.int (Int32.ofNat j)), .val (.int (Int32.ofNat (i + z))), .val (.int (Int32.ofNat k))] [])) (T0.setTop (mkF m 103 #[.val (.ref b), .val (.int (38 : Int32)), .val (.ref t), .val (.int (Int32.ofNat z)), .val (.int (0 : Int32)), .val (.int f), .val (.int (Int32.ofNat mx)), .val (.int (Int32.ofNat i)), .val (.int (Int32.ofNat j)), .val (.int (Int32.ofNat (i + z))), .val (.int (Int32.ofNat k))] []))) := by
  have pre0 : Rch p.tables e below (T0.setTop (mkF m 76 #[.val (.ref b), .val (.int (38 : Int32)), .val (.ref t), .val (.int (Int32.ofNat z)), .val (.int (0 : Int32)), .val (.int f), .val (.int (Int32.ofNat mx)), .val (.int (Int32.ofNat i)), .val (.int (Int32.ofNat j)), .val (.int (Int32.ofNat (i + z))), .val (.int (Int32.ofNat k))] [])) (T0.setTop (mkF m 76 #[.val (.ref b), .val (.int (38 : Int32)), .val (.ref t), .val (.int (Int32.ofNat z)), .val (.int (0 : Int32)), .val (.int f), .val (.int (Int32.ofNat mx)), .val (.int (Int32.ofNat i)), .val (.int (Int32.ofNat j)), .val (.int (Int32.ofNat (i + z))), .val (.int (Int32.ofNat k))] [])) := fun tgt ktg => ktg
  have pre_1 : Rch p.tables e below (T0.setTop (mkF m 76 #[.val (.ref b), .val (.int (38 : Int32)), .val (.ref t), .val (.int (Int32.ofNat z)), .val (.int (0 : Int32)), .val (.int f), .val (.int (Int32.ofNat mx)), .val (.int (Int32.ofNat i)), .val (.int (Int32.ofNat j)), .val (.int (Int32.ofNat (i + z))), .val (.int (Int32.ofNat k))] [])) (T0.setTop (mkF m 80 #[.val (.ref b), .val (.int (38 : Int32)), .val (.ref t), .val (.int (Int32.ofNat z)), .val (.int (0 : Int32)), .val (.int f), .val (.int (Int32.ofNat mx)), .val (.int (Int32.ofNat i)), .val (.int (Int32.ofNat j)), .val (.int (Int32.ofNat (i + z))), .val (.int (Int32.ofNat k))] [(.int (Int32.ofNat (i + z))), (.int (Int32.ofNat j))])) := fun tgt ktg => pre0 tgt (by
    show Steps p.tables e below (T0.setTop (mkF m 76 #[.val (.ref b), .val (.int (38 : Int32)), .val (.ref t), .val (.int (Int32.ofNat z)), .val (.int (0 : Int32)), .val (.int f), .val (.int (Int32.ofNat mx)), .val (.int (Int32.ofNat i)), .val (.int (Int32.ofNat j)), .val (.int (Int32.ofNat (i + z))), .val (.int (Int32.ofNat k))] [])) _
    refine XS.iload X0.here hx rfl (hb hby d21_76) rfl ?_
    show Steps p.tables e below (T0.setTop (mkF m 78 #[.val (.ref b), .val (.int (38 : Int32)), .val (.ref t), .val (.int (Int32.ofNat z)), .val (.int (0 : Int32)), .val (.int f), .val (.int (Int32.ofNat mx)), .val (.int (Int32.ofNat i)), .val (.int (Int32.ofNat j)), .val (.int (Int32.ofNat (i + z))), .val (.int (Int32.ofNat k))] [(.int (Int32.ofNat j))])) _
    refine XS.iload X0.here hx rfl (hb hby d21_78) rfl ?_
    exact ktg)
  by_cases c_2 : (Int32.ofNat j) < (Int32.ofNat (i + z))
  · skip
    have pre_3 : Rch p.tables e below (T0.setTop (mkF m 76 #[.val (.ref b), .val (.int (38 : Int32)), .val (.ref t), .val (.int (Int32.ofNat z)), .val (.int (0 : Int32)), .val (.int f), .val (.int (Int32.ofNat mx)), .val (.int (Int32.ofNat i)), .val (.int (Int32.ofNat j)), .val (.int (Int32.ofNat (i + z))), .val (.int (Int32.ofNat k))] [])) (T0.setTop (mkF m 83 #[.val (.ref b), .val (.int (38 : Int32)), .val (.ref t), .val (.int (Int32.ofNat z)), .val (.int (0 : Int32)), .val (.int f), .val (.int (Int32.ofNat mx)), .val (.int (Int32.ofNat i)), .val (.int (Int32.ofNat j)), .val (.int (Int32.ofNat (i + z))), .val (.int (Int32.ofNat k))] [])) := fun tgt ktg => pre_1 tgt (by
      show Steps p.tables e below (T0.setTop (mkF m 80 #[.val (.ref b), .val (.int (38 : Int32)), .val (.ref t), .val (.int (Int32.ofNat z)), .val (.int (0 : Int32)), .val (.int f), .val (.int (Int32.ofNat mx)), .val (.int (Int32.ofNat i)), .val (.int (Int32.ofNat j)), .val (.int (Int32.ofNat (i + z))), .val (.int (Int32.ofNat k))] [(.int (Int32.ofNat (i + z))), (.int (Int32.ofNat j))])) _
      refine XS.icmpNo X0.here hx rfl (hb hby d21_80) rfl (tlt c_2).2.1 ?_
      exact ktg)
    have cj : j < i + z := (own_ltn (by omega) (by omega)).mp c_2
    have pre_4 : Rch p.tables e below (T0.setTop (mkF m 76 #[.val (.ref b), .val (.int (38 : Int32)), .val (.ref t), .val (.int (Int32.ofNat z)), .val (.int (0 : Int32)), .val (.int f), .val (.int (Int32.ofNat mx)), .val (.int (Int32.ofNat i)), .val (.int (Int32.ofNat j)), .val (.int (Int32.ofNat (i + z))), .val (.int (Int32.ofNat k))] [])) (T0.setTop (mkF m 86 #[.val (.ref b), .val (.int (38 : Int32)), .val (.ref t), .val (.int (Int32.ofNat z)), .val (.int (0 : Int32)), .val (.int f), .val (.int (Int32.ofNat mx)), .val (.int (Int32.ofNat i)), .val (.int (Int32.ofNat j)), .val (.int (Int32.ofNat (i + z))), .val (.int (Int32.ofNat k))] [(.int (Int32.ofNat j)), (.ref b)])) := fun tgt ktg => pre_3 tgt (by
      show Steps p.tables e below (T0.setTop (mkF m 83 #[.val (.ref b), .val (.int (38 : Int32)), .val (.ref t), .val (.int (Int32.ofNat z)), .val (.int (0 : Int32)), .val (.int f), .val (.int (Int32.ofNat mx)), .val (.int (Int32.ofNat i)), .val (.int (Int32.ofNat j)), .val (.int (Int32.ofNat (i + z))), .val (.int (Int32.ofNat k))] [])) _
      refine XS.aloadN X0.here hx rfl (hb hby d21_83) rfl rfl ?_
      show Steps p.tables e below (T0.setTop (mkF m 84 #[.val (.ref b), .val (.int (38 : Int32)), .val (.ref t), .val (.int (Int32.ofNat z)), .val (.int (0 : Int32)), .val (.int f), .val (.int (Int32.ofNat mx)), .val (.int (Int32.ofNat i)), .val (.int (Int32.ofNat j)), .val (.int (Int32.ofNat (i + z))), .val (.int (Int32.ofNat k))] [(.ref b)])) _
      refine XS.iload X0.here hx rfl (hb hby d21_84) rfl ?_
      exact ktg)
    obtain ⟨cl__5, Ar__5, q__5, S__5, N__5, H__5, G__5⟩ := id A1
    have hin__5 : ¬ ((Int32.ofNat j) < 0 ∨ cl__5.slots.size ≤ ((Int32.ofNat j)).toNatClampNeg) := inb_of S__5 (own_inb (z := 38) (by decide) (by omega))
    have hat__5 : cl__5.slots[((Int32.ofNat j)).toNatClampNeg]? = some (.int (bs.getD j 0)) := H__5.at hin__5 (own_at (by omega))
    have pre_6 : Rch p.tables e below (T0.setTop (mkF m 76 #[.val (.ref b), .val (.int (38 : Int32)), .val (.ref t), .val (.int (Int32.ofNat z)), .val (.int (0 : Int32)), .val (.int f), .val (.int (Int32.ofNat mx)), .val (.int (Int32.ofNat i)), .val (.int (Int32.ofNat j)), .val (.int (Int32.ofNat (i + z))), .val (.int (Int32.ofNat k))] [])) (T0.setTop (mkF m 87 #[.val (.ref b), .val (.int (38 : Int32)), .val (.ref t), .val (.int (Int32.ofNat z)), .val (.int (0 : Int32)), .val (.int f), .val (.int (Int32.ofNat mx)), .val (.int (Int32.ofNat i)), .val (.int (Int32.ofNat j)), .val (.int (Int32.ofNat (i + z))), .val (.int (Int32.ofNat k))] [(.int (bs.getD j 0))])) := fun tgt ktg => pre_4 tgt (X0.baloadBytes hx (j := (Int32.ofNat j)) (v := (.int (bs.getD j 0))) (by rw [e0]; exact Ar__5.1) (State.isArrayOf_alike hZ.alike Ar__5.2.1) Ar__5.2.2 hin__5 hat__5 (g := (mkF m 86 #[.val (.ref b), .val (.int (38 : Int32)), .val (.ref t), .val (.int (Int32.ofNat z)), .val (.int (0 : Int32)), .val (.int f), .val (.int (Int32.ofNat mx)), .val (.int (Int32.ofNat i)), .val (.int (Int32.ofNat j)), .val (.int (Int32.ofNat (i + z))), .val (.int (Int32.ofNat k))] [(.int (Int32.ofNat j)), (.ref b)])) rfl rfl (hb hby d21_86) _ ktg)
    have pre_7 : Rch p.tables e below (T0.setTop (mkF m 76 #[.val (.ref b), .val (.int (38 : Int32)), .val (.ref t), .val (.int (Int32.ofNat z)), .val (.int (0 : Int32)), .val (.int f), .val (.int (Int32.ofNat mx)), .val (.int (Int32.ofNat i)), .val (.int (Int32.ofNat j)), .val (.int (Int32.ofNat (i + z))), .val (.int (Int32.ofNat k))] [])) (T0.setTop (mkF m 90 #[.val (.ref b), .val (.int (38 : Int32)), .val (.ref t), .val (.int (Int32.ofNat z)), .val (.int (0 : Int32)), .val (.int f), .val (.int (Int32.ofNat mx)), .val (.int (Int32.ofNat i)), .val (.int (Int32.ofNat j)), .val (.int (Int32.ofNat (i + z))), .val (.int (Int32.ofNat k))] [(.int (Int32.ofNat k)), (.ref t), (.int (bs.getD j 0))])) := fun tgt ktg => pre_6 tgt (by
      show Steps p.tables e below (T0.setTop (mkF m 87 #[.val (.ref b), .val (.int (38 : Int32)), .val (.ref t), .val (.int (Int32.ofNat z)), .val (.int (0 : Int32)), .val (.int f), .val (.int (Int32.ofNat mx)), .val (.int (Int32.ofNat i)), .val (.int (Int32.ofNat j)), .val (.int (Int32.ofNat (i + z))), .val (.int (Int32.ofNat k))] [(.int (bs.getD j 0))])) _
      refine XS.aloadN X0.here hx rfl (hb hby d21_87) rfl rfl ?_
      show Steps p.tables e below (T0.setTop (mkF m 88 #[.val (.ref b), .val (.int (38 : Int32)), .val (.ref t), .val (.int (Int32.ofNat z)), .val (.int (0 : Int32)), .val (.int f), .val (.int (Int32.ofNat mx)), .val (.int (Int32.ofNat i)), .val (.int (Int32.ofNat j)), .val (.int (Int32.ofNat (i + z))), .val (.int (Int32.ofNat k))] [(.ref t), (.int (bs.getD j 0))])) _
      refine XS.iload X0.here hx rfl (hb hby d21_88) rfl ?_
      exact ktg)
    obtain ⟨cl__8, Ar__8, q__8, S__8, N__8, H__8, G__8⟩ := id A2
    have hin__8 : ¬ ((Int32.ofNat k) < 0 ∨ cl__8.slots.size ≤ ((Int32.ofNat k)).toNatClampNeg) := inb_of S__8 (own_inb (by omega) (by omega))
    have hat__8 : cl__8.slots[((Int32.ofNat k)).toNatClampNeg]? = some (.int (ts.getD k 0)) := H__8.at hin__8 (own_at (by omega))
    have pre_9 : Rch p.tables e below (T0.setTop (mkF m 76 #[.val (.ref b), .val (.int (38 : Int32)), .val (.ref t), .val (.int (Int32.ofNat z)), .val (.int (0 : Int32)), .val (.int f), .val (.int (Int32.ofNat mx)), .val (.int (Int32.ofNat i)), .val (.int (Int32.ofNat j)), .val (.int (Int32.ofNat (i + z))), .val (.int (Int32.ofNat k))] [])) (T0.setTop (mkF m 91 #[.val (.ref b), .val (.int (38 : Int32)), .val (.ref t), .val (.int (Int32.ofNat z)), .val (.int (0 : Int32)), .val (.int f), .val (.int (Int32.ofNat mx)), .val (.int (Int32.ofNat i)), .val (.int (Int32.ofNat j)), .val (.int (Int32.ofNat (i + z))), .val (.int (Int32.ofNat k))] [(.int (ts.getD k 0)), (.int (bs.getD j 0))])) := fun tgt ktg => pre_7 tgt (X0.baloadBytes hx (j := (Int32.ofNat k)) (v := (.int (ts.getD k 0))) (by rw [e0]; exact Ar__8.1) (State.isArrayOf_alike hZ.alike Ar__8.2.1) Ar__8.2.2 hin__8 hat__8 (g := (mkF m 90 #[.val (.ref b), .val (.int (38 : Int32)), .val (.ref t), .val (.int (Int32.ofNat z)), .val (.int (0 : Int32)), .val (.int f), .val (.int (Int32.ofNat mx)), .val (.int (Int32.ofNat i)), .val (.int (Int32.ofNat j)), .val (.int (Int32.ofNat (i + z))), .val (.int (Int32.ofNat k))] [(.int (Int32.ofNat k)), (.ref t), (.int (bs.getD j 0))])) rfl rfl (hb hby d21_90) _ ktg)
    by_cases c_10 : (bs.getD j 0) = (ts.getD k 0)
    · skip
      have pre_11 : Rch p.tables e below (T0.setTop (mkF m 76 #[.val (.ref b), .val (.int (38 : Int32)), .val (.ref t), .val (.int (Int32.ofNat z)), .val (.int (0 : Int32)), .val (.int f), .val (.int (Int32.ofNat mx)), .val (.int (Int32.ofNat i)), .val (.int (Int32.ofNat j)), .val (.int (Int32.ofNat (i + z))), .val (.int (Int32.ofNat k))] [])) (T0.setTop (mkF m 94 #[.val (.ref b), .val (.int (38 : Int32)), .val (.ref t), .val (.int (Int32.ofNat z)), .val (.int (0 : Int32)), .val (.int f), .val (.int (Int32.ofNat mx)), .val (.int (Int32.ofNat i)), .val (.int (Int32.ofNat j)), .val (.int (Int32.ofNat (i + z))), .val (.int (Int32.ofNat k))] [])) := fun tgt ktg => pre_9 tgt (by
        show Steps p.tables e below (T0.setTop (mkF m 91 #[.val (.ref b), .val (.int (38 : Int32)), .val (.ref t), .val (.int (Int32.ofNat z)), .val (.int (0 : Int32)), .val (.int f), .val (.int (Int32.ofNat mx)), .val (.int (Int32.ofNat i)), .val (.int (Int32.ofNat j)), .val (.int (Int32.ofNat (i + z))), .val (.int (Int32.ofNat k))] [(.int (ts.getD k 0)), (.int (bs.getD j 0))])) _
        refine XS.icmpNo X0.here hx rfl (hb hby d21_91) rfl (teq c_10).2 ?_
        exact ktg)
      have pre_12 : Rch p.tables e below (T0.setTop (mkF m 76 #[.val (.ref b), .val (.int (38 : Int32)), .val (.ref t), .val (.int (Int32.ofNat z)), .val (.int (0 : Int32)), .val (.int f), .val (.int (Int32.ofNat mx)), .val (.int (Int32.ofNat i)), .val (.int (Int32.ofNat j)), .val (.int (Int32.ofNat (i + z))), .val (.int (Int32.ofNat k))] [])) (T0.setTop (mkF m 76 #[.val (.ref b), .val (.int (38 : Int32)), .val (.ref t), .val (.int (Int32.ofNat z)), .val (.int (0 : Int32)), .val (.int f), .val (.int (Int32.ofNat mx)), .val (.int (Int32.ofNat i)), .val (.int ((Int32.ofNat j) + (1 : Int32))), .val (.int (Int32.ofNat (i + z))), .val (.int ((Int32.ofNat k) + (1 : Int32)))] [])) := fun tgt ktg => pre_11 tgt (by
        show Steps p.tables e below (T0.setTop (mkF m 94 #[.val (.ref b), .val (.int (38 : Int32)), .val (.ref t), .val (.int (Int32.ofNat z)), .val (.int (0 : Int32)), .val (.int f), .val (.int (Int32.ofNat mx)), .val (.int (Int32.ofNat i)), .val (.int (Int32.ofNat j)), .val (.int (Int32.ofNat (i + z))), .val (.int (Int32.ofNat k))] [])) _
        refine XS.iinc X0.here hx rfl (hb hby d21_94) rfl (l' := #[.val (.ref b), .val (.int (38 : Int32)), .val (.ref t), .val (.int (Int32.ofNat z)), .val (.int (0 : Int32)), .val (.int f), .val (.int (Int32.ofNat mx)), .val (.int (Int32.ofNat i)), .val (.int ((Int32.ofNat j) + (1 : Int32))), .val (.int (Int32.ofNat (i + z))), .val (.int (Int32.ofNat k))]) rfl ?_
        show Steps p.tables e below (T0.setTop (mkF m 97 #[.val (.ref b), .val (.int (38 : Int32)), .val (.ref t), .val (.int (Int32.ofNat z)), .val (.int (0 : Int32)), .val (.int f), .val (.int (Int32.ofNat mx)), .val (.int (Int32.ofNat i)), .val (.int ((Int32.ofNat j) + (1 : Int32))), .val (.int (Int32.ofNat (i + z))), .val (.int (Int32.ofNat k))] [])) _
        refine XS.iinc X0.here hx rfl (hb hby d21_97) rfl (l' := #[.val (.ref b), .val (.int (38 : Int32)), .val (.ref t), .val (.int (Int32.ofNat z)), .val (.int (0 : Int32)), .val (.int f), .val (.int (Int32.ofNat mx)), .val (.int (Int32.ofNat i)), .val (.int ((Int32.ofNat j) + (1 : Int32))), .val (.int (Int32.ofNat (i + z))), .val (.int ((Int32.ofNat k) + (1 : Int32)))]) rfl ?_
        show Steps p.tables e below (T0.setTop (mkF m 100 #[.val (.ref b), .val (.int (38 : Int32)), .val (.ref t), .val (.int (Int32.ofNat z)), .val (.int (0 : Int32)), .val (.int f), .val (.int (Int32.ofNat mx)), .val (.int (Int32.ofNat i)), .val (.int ((Int32.ofNat j) + (1 : Int32))), .val (.int (Int32.ofNat (i + z))), .val (.int ((Int32.ofNat k) + (1 : Int32)))] [])) _
        refine XS.goto X0.here hx rfl (pc0 := 100) (pc' := 76) rfl (hb hby d21_100) (by decide) (by decide) ?_
        exact ktg)
      have rc_13 : ((Int32.ofNat j) + (1 : Int32)) = (Int32.ofNat (j + 1)) := own_suc _
      have pre_13 : Rch p.tables e below (T0.setTop (mkF m 76 #[.val (.ref b), .val (.int (38 : Int32)), .val (.ref t), .val (.int (Int32.ofNat z)), .val (.int (0 : Int32)), .val (.int f), .val (.int (Int32.ofNat mx)), .val (.int (Int32.ofNat i)), .val (.int (Int32.ofNat j)), .val (.int (Int32.ofNat (i + z))), .val (.int (Int32.ofNat k))] [])) (T0.setTop (mkF m 76 #[.val (.ref b), .val (.int (38 : Int32)), .val (.ref t), .val (.int (Int32.ofNat z)), .val (.int (0 : Int32)), .val (.int f), .val (.int (Int32.ofNat mx)), .val (.int (Int32.ofNat i)), .val (.int (Int32.ofNat (j + 1))), .val (.int (Int32.ofNat (i + z))), .val (.int ((Int32.ofNat k) + (1 : Int32)))] [])) := fun tgt ktg => pre_12 tgt (by rw [rc_13]; exact ktg)
      have rc_14 : ((Int32.ofNat k) + (1 : Int32)) = (Int32.ofNat (k + 1)) := own_suc _
      have pre_14 : Rch p.tables e below (T0.setTop (mkF m 76 #[.val (.ref b), .val (.int (38 : Int32)), .val (.ref t), .val (.int (Int32.ofNat z)), .val (.int (0 : Int32)), .val (.int f), .val (.int (Int32.ofNat mx)), .val (.int (Int32.ofNat i)), .val (.int (Int32.ofNat j)), .val (.int (Int32.ofNat (i + z))), .val (.int (Int32.ofNat k))] [])) (T0.setTop (mkF m 76 #[.val (.ref b), .val (.int (38 : Int32)), .val (.ref t), .val (.int (Int32.ofNat z)), .val (.int (0 : Int32)), .val (.int f), .val (.int (Int32.ofNat mx)), .val (.int (Int32.ofNat i)), .val (.int (Int32.ofNat (j + 1))), .val (.int (Int32.ofNat (i + z))), .val (.int (Int32.ofNat (k + 1)))] [])) := fun tgt ktg => pre_13 tgt (by rw [rc_14]; exact ktg)
      exact Or.inl ⟨by omega, hj ▸ c_10, pre_14⟩
    · skip
      have pre_15 : Rch p.tables e below (T0.setTop (mkF m 76 #[.val (.ref b), .val (.int (38 : Int32)), .val (.ref t), .val (.int (Int32.ofNat z)), .val (.int (0 : Int32)), .val (.int f), .val (.int (Int32.ofNat mx)), .val (.int (Int32.ofNat i)), .val (.int (Int32.ofNat j)), .val (.int (Int32.ofNat (i + z))), .val (.int (Int32.ofNat k))] [])) (T0.setTop (mkF m 103 #[.val (.ref b), .val (.int (38 : Int32)), .val (.ref t), .val (.int (Int32.ofNat z)), .val (.int (0 : Int32)), .val (.int f), .val (.int (Int32.ofNat mx)), .val (.int (Int32.ofNat i)), .val (.int (Int32.ofNat j)), .val (.int (Int32.ofNat (i + z))), .val (.int (Int32.ofNat k))] [])) := fun tgt ktg => pre_9 tgt (by
        show Steps p.tables e below (T0.setTop (mkF m 91 #[.val (.ref b), .val (.int (38 : Int32)), .val (.ref t), .val (.int (Int32.ofNat z)), .val (.int (0 : Int32)), .val (.int f), .val (.int (Int32.ofNat mx)), .val (.int (Int32.ofNat i)), .val (.int (Int32.ofNat j)), .val (.int (Int32.ofNat (i + z))), .val (.int (Int32.ofNat k))] [(.int (ts.getD k 0)), (.int (bs.getD j 0))])) _
        refine XS.icmpYes X0.here hx rfl (pc0 := 91) (pc' := 103) rfl (hb hby d21_91) rfl (feq c_10).2 (by decide) (by decide) ?_
        exact ktg)
      exact Or.inr ⟨Or.inr ⟨by omega, hj ▸ c_10⟩, pre_15⟩
  · skip
    have pre_16 : Rch p.tables e below (T0.setTop (mkF m 76 #[.val (.ref b), .val (.int (38 : Int32)), .val (.ref t), .val (.int (Int32.ofNat z)), .val (.int (0 : Int32)), .val (.int f), .val (.int (Int32.ofNat mx)), .val (.int (Int32.ofNat i)), .val (.int (Int32.ofNat j)), .val (.int (Int32.ofNat (i + z))), .val (.int (Int32.ofNat k))] [])) (T0.setTop (mkF m 103 #[.val (.ref b), .val (.int (38 : Int32)), .val (.ref t), .val (.int (Int32.ofNat z)), .val (.int (0 : Int32)), .val (.int f), .val (.int (Int32.ofNat mx)), .val (.int (Int32.ofNat i)), .val (.int (Int32.ofNat j)), .val (.int (Int32.ofNat (i + z))), .val (.int (Int32.ofNat k))] [])) := fun tgt ktg => pre_1 tgt (by
      show Steps p.tables e below (T0.setTop (mkF m 80 #[.val (.ref b), .val (.int (38 : Int32)), .val (.ref t), .val (.int (Int32.ofNat z)), .val (.int (0 : Int32)), .val (.int f), .val (.int (Int32.ofNat mx)), .val (.int (Int32.ofNat i)), .val (.int (Int32.ofNat j)), .val (.int (Int32.ofNat (i + z))), .val (.int (Int32.ofNat k))] [(.int (Int32.ofNat (i + z))), (.int (Int32.ofNat j))])) _
      refine XS.icmpYes X0.here hx rfl (pc0 := 80) (pc' := 103) rfl (hb hby d21_80) rfl (flt c_2).2.1 (by decide) (by decide) ?_
      exact ktg)
    have cj : ¬ j < i + z := fun q => c_2 ((own_ltn (by omega) (by omega)).mpr q)
    exact Or.inr ⟨Or.inl (by omega), pre_16⟩
set_option maxRecDepth 65536 in
set_option maxHeartbeats 40000000 in
theorem inL {p : Program} {l : Launch} {e : Env} {s : State} {m : MethodId} {args : Array Value} {below : List Frame} {meth : Method} {c : Code} {T0 : State} {locs : List Loc} {cells slots : Nat} {Z : State} {h0 : Heap} {b t : Addr} {kb kt : ClassId} {bs ts : List Int32} {z mx : Nat} {f : Int32} {i : Nat}
    (X0 : Stand p l e ({ frames := 0, cells := 0, slots := 0, locals := 0 } : Room) s m args below meth c T0 locs cells slots) (hx : p.tables.exec = Jvm.exec) (hZ : Z.Warmed39 s.vm) (hby : c.code = jdk_43_method_25_code) (e0 : T0.heap = h0) (A1 : Arv Z h0 b kb .byte (38 : Int32) (bs.map Value.int) (.int (0 : Int32))) (A2 : Arv Z h0 t kt .byte (Int32.ofNat z) (ts.map Value.int) (.int (0 : Int32))) (hz1 : 1 ≤ z) (hzm : mx + z = 38) (hi : i + z ≤ 38) (n : Nat) :
    ∀ j k : Nat, j = i + k → k ≤ z → k + n = z → ∃ k', k' ≤ z ∧ (∀ q, k ≤ q → q < k' → bs.getD (i + q) 0 = ts.getD q 0) ∧ (k' = z ∨ (k' < z ∧ ¬ bs.getD (i + k') 0 = ts.getD k' 0)) ∧ k ≤ k' ∧ Rch p.tables e below (T0.setTop (mkF m 76 #[.val (.ref b), .val (.int (38 : Int32)), .val (.ref t), .val (.int (Int32.ofNat z)), .val (.int (0 : Int32)), .val (.int f), .val (.int (Int32.ofNat mx)), .val (.int (Int32.ofNat i)), .val (.int (Int32.ofNat j)), .val (.int (Int32.ofNat (i + z))), .val (.int (Int32.ofNat k))] [])) (T0.setTop (mkF m 103 #[.val (.ref b), .val (.int (38 : Int32)), .val (.ref t), .val (.int (Int32.ofNat z)), .val (.int (0 : Int32)), .val (.int f), .val (.int (Int32.ofNat mx)), .val (.int (Int32.ofNat i)), .val (.int (Int32.ofNat (i + k'))), .val (.int (Int32.ofNat (i + z))), .val (.int (Int32.ofNat k'))] [])) := by
  induction n with
  | zero =>
    intro j k hj hk hn
    rcases inT X0 hx hZ hby e0 A1 A2 hz1 hzm hi hj hk with ⟨h1, -⟩ | ⟨h1, R⟩
    · omega
    · subst hj; exact ⟨k, hk, fun q a b => by omega, h1, Nat.le_refl _, R⟩
  | succ n ih =>
    intro j k hj hk hn
    rcases inT X0 hx hZ hby e0 A1 A2 hz1 hzm hi hj hk with ⟨h1, h2, R⟩ | ⟨h1, R⟩
    · obtain ⟨k', a1, a2, a3, a4, R'⟩ := ih (j + 1) (k + 1) (by omega) (by omega) (by omega)
      refine ⟨k', a1, fun q b1 b2 => ?_, a3, by omega, fun tgt ktg => R tgt (R' tgt ktg)⟩
      by_cases e : q = k
      · rw [e]; exact h2
      · exact a2 q (by omega) b2
    · subst hj; exact ⟨k, hk, fun q a b => by omega, h1, Nat.le_refl _, R⟩
theorem d21_30 : decode jdk_43_method_25_code 30 = .ok (.iinc 7 1, 3) := by decide +kernel
theorem d21_33 : decode jdk_43_method_25_code 33 = .ok (.iload 7, 2) := by decide +kernel
theorem d21_35 : decode jdk_43_method_25_code 35 = .ok (.iload 6, 2) := by decide +kernel
theorem d21_37 : decode jdk_43_method_25_code 37 = .ok (.if_icmp .gt 15, 3) := by decide +kernel
theorem d21_40 : decode jdk_43_method_25_code 40 = .ok (.aload_n 0, 1) := by decide +kernel
theorem d21_41 : decode jdk_43_method_25_code 41 = .ok (.iload 7, 2) := by decide +kernel
theorem d21_43 : decode jdk_43_method_25_code 43 = .ok (.baload, 1) := by decide +kernel
theorem d21_44 : decode jdk_43_method_25_code 44 = .ok (.iload 5, 2) := by decide +kernel
theorem d21_46 : decode jdk_43_method_25_code 46 = .ok (.if_icmp .eq 6, 3) := by decide +kernel
theorem d21_49 : decode jdk_43_method_25_code 49 = .ok (.goto (-19), 3) := by decide +kernel
set_option maxRecDepth 65536 in
set_option maxHeartbeats 40000000 in
theorem skT {p : Program} {l : Launch} {e : Env} {s : State} {m : MethodId} {args : Array Value} {below : List Frame} {meth : Method} {c : Code} {T0 : State} {locs : List Loc} {cells slots : Nat} {Z : State} {h0 : Heap} {b t : Addr} {kb kt : ClassId} {bs ts : List Int32} {z mx : Nat} {f : Int32} {s8 s9 s10 : Slot} {i : Nat}
    (X0 : Stand p l e ({ frames := 0, cells := 0, slots := 0, locals := 0 } : Room) s m args below meth c T0 locs cells slots) (hx : p.tables.exec = Jvm.exec) (hZ : Z.Warmed39 s.vm) (hby : c.code = jdk_43_method_25_code) (e0 : T0.heap = h0) (A1 : Arv Z h0 b kb .byte (38 : Int32) (bs.map Value.int) (.int (0 : Int32))) (A2 : Arv Z h0 t kt .byte (Int32.ofNat z) (ts.map Value.int) (.int (0 : Int32))) (hz1 : 1 ≤ z) (hzm : mx + z = 38) (hi : i ≤ mx) :
    ((i = mx ∨ bs.getD (i + 1) 0 = f) ∧ Rch p.tables e below (T0.setTop (mkF m 30 #[.val (.ref b), .val (.int (38 : Int32)), .val (.ref t), .val (.int (Int32.ofNat z)), .val (.int (0 : Int32)), .val (.int f), .val (.int (Int32.ofNat mx)), .val (.int (Int32.ofNat i)), s8, s9, s10] [])) (T0.setTop (mkF m 52 #[.val (.ref b), .val (.int (38 : Int32)), .val (.ref t), .val (.int (Int32.ofNat z)), .val (.int (0 : Int32)), .val (.int f), .val (.int (Int32.ofNat mx)), .val (.int (Int32.ofNat (i + 1))), s8, s9, s10] []))) ∨ (i < mx ∧ ¬ bs.getD (i + 1) 0 = f ∧ Rch p.tables e below (T0.setTop (mkF m 30 #[.val (.ref b), .val (.int (38 : Int32)), .val (.ref t), .val (.int (Int32.ofNat z)), .val (.int (0 : Int32)), .val (.int f), .val (.int (Int32.ofNat mx)), .val (.int (Int32.ofNat i)), s8, s9, s10] [])) (T0.setTop (mkF m 30 #[.val (.ref b), .val (.int (38 : Int32)), .val (.ref t), .val (.int (Int32.ofNat z)), .val (.int (0 : Int32)), .val (.int f), .val (.int (Int32.ofNat mx)), .val (.int (Int32.ofNat (i + 1))), s8, s9, s10] []))) := by
  have pre0 : Rch p.tables e below (T0.setTop (mkF m 30 #[.val (.ref b), .val (.int (38 : Int32)), .val (.ref t), .val (.int (Int32.ofNat z)), .val (.int (0 : Int32)), .val (.int f), .val (.int (Int32.ofNat mx)), .val (.int (Int32.ofNat i)), s8, s9, s10] [])) (T0.setTop (mkF m 30 #[.val (.ref b), .val (.int (38 : Int32)), .val (.ref t), .val (.int (Int32.ofNat z)), .val (.int (0 : Int32)), .val (.int f), .val (.int (Int32.ofNat mx)), .val (.int (Int32.ofNat i)), s8, s9, s10] [])) := fun tgt ktg => ktg
  have pre_1 : Rch p.tables e below (T0.setTop (mkF m 30 #[.val (.ref b), .val (.int (38 : Int32)), .val (.ref t), .val (.int (Int32.ofNat z)), .val (.int (0 : Int32)), .val (.int f), .val (.int (Int32.ofNat mx)), .val (.int (Int32.ofNat i)), s8, s9, s10] [])) (T0.setTop (mkF m 33 #[.val (.ref b), .val (.int (38 : Int32)), .val (.ref t), .val (.int (Int32.ofNat z)), .val (.int (0 : Int32)), .val (.int f), .val (.int (Int32.ofNat mx)), .val (.int ((Int32.ofNat i) + (1 : Int32))), s8, s9, s10] [])) := fun tgt ktg => pre0 tgt (by
    show Steps p.tables e below (T0.setTop (mkF m 30 #[.val (.ref b), .val (.int (38 : Int32)), .val (.ref t), .val (.int (Int32.ofNat z)), .val (.int (0 : Int32)), .val (.int f), .val (.int (Int32.ofNat mx)), .val (.int (Int32.ofNat i)), s8, s9, s10] [])) _
    refine XS.iinc X0.here hx rfl (hb hby d21_30) rfl (l' := #[.val (.ref b), .val (.int (38 : Int32)), .val (.ref t), .val (.int (Int32.ofNat z)), .val (.int (0 : Int32)), .val (.int f), .val (.int (Int32.ofNat mx)), .val (.int ((Int32.ofNat i) + (1 : Int32))), s8, s9, s10]) rfl ?_
    exact ktg)
  have rc_2 : ((Int32.ofNat i) + (1 : Int32)) = (Int32.ofNat (i + 1)) := own_suc _
  have pre_2 : Rch p.tables e below (T0.setTop (mkF m 30 #[.val (.ref b), .val (.int (38 : Int32)), .val (.ref t), .val (.int (Int32.ofNat z)), .val (.int (0 : Int32)), .val (.int f), .val (.int (Int32.ofNat mx)), .val (.int (Int32.ofNat i)), s8, s9, s10] [])) (T0.setTop (mkF m 33 #[.val (.ref b), .val (.int (38 : Int32)), .val (.ref t), .val (.int (Int32.ofNat z)), .val (.int (0 : Int32)), .val (.int f), .val (.int (Int32.ofNat mx)), .val (.int (Int32.ofNat (i + 1))), s8, s9, s10] [])) := fun tgt ktg => pre_1 tgt (by rw [rc_2]; exact ktg)
  have pre_3 : Rch p.tables e below (T0.setTop (mkF m 30 #[.val (.ref b), .val (.int (38 : Int32)), .val (.ref t), .val (.int (Int32.ofNat z)), .val (.int (0 : Int32)), .val (.int f), .val (.int (Int32.ofNat mx)), .val (.int (Int32.ofNat i)), s8, s9, s10] [])) (T0.setTop (mkF m 37 #[.val (.ref b), .val (.int (38 : Int32)), .val (.ref t), .val (.int (Int32.ofNat z)), .val (.int (0 : Int32)), .val (.int f), .val (.int (Int32.ofNat mx)), .val (.int (Int32.ofNat (i + 1))), s8, s9, s10] [(.int (Int32.ofNat mx)), (.int (Int32.ofNat (i + 1)))])) := fun tgt ktg => pre_2 tgt (by
    show Steps p.tables e below (T0.setTop (mkF m 33 #[.val (.ref b), .val (.int (38 : Int32)), .val (.ref t), .val (.int (Int32.ofNat z)), .val (.int (0 : Int32)), .val (.int f), .val (.int (Int32.ofNat mx)), .val (.int (Int32.ofNat (i + 1))), s8, s9, s10] [])) _
    refine XS.iload X0.here hx rfl (hb hby d21_33) rfl ?_
    show Steps p.tables e below (T0.setTop (mkF m 35 #[.val (.ref b), .val (.int (38 : Int32)), .val (.ref t), .val (.int (Int32.ofNat z)), .val (.int (0 : Int32)), .val (.int f), .val (.int (Int32.ofNat mx)), .val (.int (Int32.ofNat (i + 1))), s8, s9, s10] [(.int (Int32.ofNat (i + 1)))])) _
    refine XS.iload X0.here hx rfl (hb hby d21_35) rfl ?_
    exact ktg)
  by_cases c_4 : (Int32.ofNat mx) < (Int32.ofNat (i + 1))
  · skip
    have pre_5 : Rch p.tables e below (T0.setTop (mkF m 30 #[.val (.ref b), .val (.int (38 : Int32)), .val (.ref t), .val (.int (Int32.ofNat z)), .val (.int (0 : Int32)), .val (.int f), .val (.int (Int32.ofNat mx)), .val (.int (Int32.ofNat i)), s8, s9, s10] [])) (T0.setTop (mkF m 52 #[.val (.ref b), .val (.int (38 : Int32)), .val (.ref t), .val (.int (Int32.ofNat z)), .val (.int (0 : Int32)), .val (.int f), .val (.int (Int32.ofNat mx)), .val (.int (Int32.ofNat (i + 1))), s8, s9, s10] [])) := fun tgt ktg => pre_3 tgt (by
      show Steps p.tables e below (T0.setTop (mkF m 37 #[.val (.ref b), .val (.int (38 : Int32)), .val (.ref t), .val (.int (Int32.ofNat z)), .val (.int (0 : Int32)), .val (.int f), .val (.int (Int32.ofNat mx)), .val (.int (Int32.ofNat (i + 1))), s8, s9, s10] [(.int (Int32.ofNat mx)), (.int (Int32.ofNat (i + 1)))])) _
      refine XS.icmpYes X0.here hx rfl (pc0 := 37) (pc' := 52) rfl (hb hby d21_37) rfl (tlt c_4).2.2.1 (by decide) (by decide) ?_
      exact ktg)
    have ci : mx < i + 1 := (own_ltn (by omega) (by omega)).mp c_4
    exact Or.inl ⟨Or.inl (by omega), pre_5⟩
  · skip
    have pre_6 : Rch p.tables e below (T0.setTop (mkF m 30 #[.val (.ref b), .val (.int (38 : Int32)), .val (.ref t), .val (.int (Int32.ofNat z)), .val (.int (0 : Int32)), .val (.int f), .val (.int (Int32.ofNat mx)), .val (.int (Int32.ofNat i)), s8, s9, s10] [])) (T0.setTop (mkF m 40 #[.val (.ref b), .val (.int (38 : Int32)), .val (.ref t), .val (.int (Int32.ofNat z)), .val (.int (0 : Int32)), .val (.int f), .val (.int (Int32.ofNat mx)), .val (.int (Int32.ofNat (i + 1))), s8, s9, s10] [])) := fun tgt ktg => pre_3 tgt (by
      show Steps p.tables e below (T0.setTop (mkF m 37 #[.val (.ref b), .val (.int (38 : Int32)), .val (.ref t), .val (.int (Int32.ofNat z)), .val (.int (0 : Int32)), .val (.int f), .val (.int (Int32.ofNat mx)), .val (.int (Int32.ofNat (i + 1))), s8, s9, s10] [(.int (Int32.ofNat mx)), (.int (Int32.ofNat (i + 1)))])) _
      refine XS.icmpNo X0.here hx rfl (hb hby d21_37) rfl (flt c_4).2.2.1 ?_
      exact ktg)
    have ci : ¬ mx < i + 1 := fun q => c_4 ((own_ltn (by omega) (by omega)).mpr q)
    have pre_7 : Rch p.tables e below (T0.setTop (mkF m 30 #[.val (.ref b), .val (.int (38 : Int32)), .val (.ref t), .val (.int (Int32.ofNat z)), .val (.int (0 : Int32)), .val (.int f), .val (.int (Int32.ofNat mx)), .val (.int (Int32.ofNat i)), s8, s9, s10] [])) (T0.setTop (mkF m 43 #[.val (.ref b), .val (.int (38 : Int32)), .val (.ref t), .val (.int (Int32.ofNat z)), .val (.int (0 : Int32)), .val (.int f), .val (.int (Int32.ofNat mx)), .val (.int (Int32.ofNat (i + 1))), s8, s9, s10] [(.int (Int32.ofNat (i + 1))), (.ref b)])) := fun tgt ktg => pre_6 tgt (by
      show Steps p.tables e below (T0.setTop (mkF m 40 #[.val (.ref b), .val (.int (38 : Int32)), .val (.ref t), .val (.int (Int32.ofNat z)), .val (.int (0 : Int32)), .val (.int f), .val (.int (Int32.ofNat mx)), .val (.int (Int32.ofNat (i + 1))), s8, s9, s10] [])) _
      refine XS.aloadN X0.here hx rfl (hb hby d21_40) rfl rfl ?_
      show Steps p.tables e below (T0.setTop (mkF m 41 #[.val (.ref b), .val (.int (38 : Int32)), .val (.ref t), .val (.int (Int32.ofNat z)), .val (.int (0 : Int32)), .val (.int f), .val (.int (Int32.ofNat mx)), .val (.int (Int32.ofNat (i + 1))), s8, s9, s10] [(.ref b)])) _
      refine XS.iload X0.here hx rfl (hb hby d21_41) rfl ?_
      exact ktg)
    obtain ⟨cl__8, Ar__8, q__8, S__8, N__8, H__8, G__8⟩ := id A1
    have hin__8 : ¬ ((Int32.ofNat (i + 1)) < 0 ∨ cl__8.slots.size ≤ ((Int32.ofNat (i + 1))).toNatClampNeg) := inb_of S__8 (own_inb (z := 38) (by decide) (by omega))
    have hat__8 : cl__8.slots[((Int32.ofNat (i + 1))).toNatClampNeg]? = some (.int (bs.getD (i + 1) 0)) := H__8.at hin__8 (own_at (by omega))
    have pre_9 : Rch p.tables e below (T0.setTop (mkF m 30 #[.val (.ref b), .val (.int (38 : Int32)), .val (.ref t), .val (.int (Int32.ofNat z)), .val (.int (0 : Int32)), .val (.int f), .val (.int (Int32.ofNat mx)), .val (.int (Int32.ofNat i)), s8, s9, s10] [])) (T0.setTop (mkF m 44 #[.val (.ref b), .val (.int (38 : Int32)), .val (.ref t), .val (.int (Int32.ofNat z)), .val (.int (0 : Int32)), .val (.int f), .val (.int (Int32.ofNat mx)), .val (.int (Int32.ofNat (i + 1))), s8, s9, s10] [(.int (bs.getD (i + 1) 0))])) := fun tgt ktg => pre_7 tgt (X0.baloadBytes hx (j := (Int32.ofNat (i + 1))) (v := (.int (bs.getD (i + 1) 0))) (by rw [e0]; exact Ar__8.1) (State.isArrayOf_alike hZ.alike Ar__8.2.1) Ar__8.2.2 hin__8 hat__8 (g := (mkF m 43 #[.val (.ref b), .val (.int (38 : Int32)), .val (.ref t), .val (.int (Int32.ofNat z)), .val (.int (0 : Int32)), .val (.int f), .val (.int (Int32.ofNat mx)), .val (.int (Int32.ofNat (i + 1))), s8, s9, s10] [(.int (Int32.ofNat (i + 1))), (.ref b)])) rfl rfl (hb hby d21_43) _ ktg)
    have pre_10 : Rch p.tables e below (T0.setTop (mkF m 30 #[.val (.ref b), .val (.int (38 : Int32)), .val (.ref t), .val (.int (Int32.ofNat z)), .val (.int (0 : Int32)), .val (.int f), .val (.int (Int32.ofNat mx)), .val (.int (Int32.ofNat i)), s8, s9, s10] [])) (T0.setTop (mkF m 46 #[.val (.ref b), .val (.int (38 : Int32)), .val (.ref t), .val (.int (Int32.ofNat z)), .val (.int (0 : Int32)), .val (.int f), .val (.int (Int32.ofNat mx)), .val (.int (Int32.ofNat (i + 1))), s8, s9, s10] [(.int f), (.int (bs.getD (i + 1) 0))])) := fun tgt ktg => pre_9 tgt (by
      show Steps p.tables e below (T0.setTop (mkF m 44 #[.val (.ref b), .val (.int (38 : Int32)), .val (.ref t), .val (.int (Int32.ofNat z)), .val (.int (0 : Int32)), .val (.int f), .val (.int (Int32.ofNat mx)), .val (.int (Int32.ofNat (i + 1))), s8, s9, s10] [(.int (bs.getD (i + 1) 0))])) _
      refine XS.iload X0.here hx rfl (hb hby d21_44) rfl ?_
      exact ktg)
    by_cases c_11 : (bs.getD (i + 1) 0) = f
    · skip
      have pre_12 : Rch p.tables e below (T0.setTop (mkF m 30 #[.val (.ref b), .val (.int (38 : Int32)), .val (.ref t), .val (.int (Int32.ofNat z)), .val (.int (0 : Int32)), .val (.int f), .val (.int (Int32.ofNat mx)), .val (.int (Int32.ofNat i)), s8, s9, s10] [])) (T0.setTop (mkF m 52 #[.val (.ref b), .val (.int (38 : Int32)), .val (.ref t), .val (.int (Int32.ofNat z)), .val (.int (0 : Int32)), .val (.int f), .val (.int (Int32.ofNat mx)), .val (.int (Int32.ofNat (i + 1))), s8, s9, s10] [])) := fun tgt ktg => pre_10 tgt (by
        show Steps p.tables e below (T0.setTop (mkF m 46 #[.val (.ref b), .val (.int (38 : Int32)), .val (.ref t), .val (.int (Int32.ofNat z)), .val (.int (0 : Int32)), .val (.int f), .val (.int (Int32.ofNat mx)), .val (.int (Int32.ofNat (i + 1))), s8, s9, s10] [(.int f), (.int (bs.getD (i + 1) 0))])) _
        refine XS.icmpYes X0.here hx rfl (pc0 := 46) (pc' := 52) rfl (hb hby d21_46) rfl (teq c_11).1 (by decide) (by decide) ?_
        exact ktg)
      exact Or.inl ⟨Or.inr c_11, pre_12⟩
    · skip
      have pre_13 : Rch p.tables e below (T0.setTop (mkF m 30 #[.val (.ref b), .val (.int (38 : Int32)), .val (.ref t), .val (.int (Int32.ofNat z)), .val (.int (0 : Int32)), .val (.int f), .val (.int (Int32.ofNat mx)), .val (.int (Int32.ofNat i)), s8, s9, s10] [])) (T0.setTop (mkF m 49 #[.val (.ref b), .val (.int (38 : Int32)), .val (.ref t), .val (.int (Int32.ofNat z)), .val (.int (0 : Int32)), .val (.int f), .val (.int (Int32.ofNat mx)), .val (.int (Int32.ofNat (i + 1))), s8, s9, s10] [])) := fun tgt ktg => pre_10 tgt (by
        show Steps p.tables e below (T0.setTop (mkF m 46 #[.val (.ref b), .val (.int (38 : Int32)), .val (.ref t), .val (.int (Int32.ofNat z)), .val (.int (0 : Int32)), .val (.int f), .val (.int (Int32.ofNat mx)), .val (.int (Int32.ofNat (i + 1))), s8, s9, s10] [(.int f), (.int (bs.getD (i + 1) 0))])) _
        refine XS.icmpNo X0.here hx rfl (hb hby d21_46) rfl (feq c_11).1 ?_
        exact ktg)
      have pre_14 : Rch p.tables e below (T0.setTop (mkF m 30 #[.val (.ref b), .val (.int (38 : Int32)), .val (.ref t), .val (.int (Int32.ofNat z)), .val (.int (0 : Int32)), .val (.int f), .val (.int (Int32.ofNat mx)), .val (.int (Int32.ofNat i)), s8, s9, s10] [])) (T0.setTop (mkF m 30 #[.val (.ref b), .val (.int (38 : Int32)), .val (.ref t), .val (.int (Int32.ofNat z)), .val (.int (0 : Int32)), .val (.int f), .val (.int (Int32.ofNat mx)), .val (.int (Int32.ofNat (i + 1))), s8, s9, s10] [])) := fun tgt ktg => pre_13 tgt (by
        show Steps p.tables e below (T0.setTop (mkF m 49 #[.val (.ref b), .val (.int (38 : Int32)), .val (.ref t), .val (.int (Int32.ofNat z)), .val (.int (0 : Int32)), .val (.int f), .val (.int (Int32.ofNat mx)), .val (.int (Int32.ofNat (i + 1))), s8, s9, s10] [])) _
        refine XS.goto X0.here hx rfl (pc0 := 49) (pc' := 30) rfl (hb hby d21_49) (by decide) (by decide) ?_
        exact ktg)
      exact Or.inr ⟨by omega, c_11, pre_14⟩
set_option maxRecDepth 65536 in
set_option maxHeartbeats 40000000 in
theorem skL {p : Program} {l : Launch} {e : Env} {s : State} {m : MethodId} {args : Array Value} {below : List Frame} {meth : Method} {c : Code} {T0 : State} {locs : List Loc} {cells slots : Nat} {Z : State} {h0 : Heap} {b t : Addr} {kb kt : ClassId} {bs ts : List Int32} {z mx : Nat} {f : Int32} {s8 s9 s10 : Slot}
    (X0 : Stand p l e ({ frames := 0, cells := 0, slots := 0, locals := 0 } : Room) s m args below meth c T0 locs cells slots) (hx : p.tables.exec = Jvm.exec) (hZ : Z.Warmed39 s.vm) (hby : c.code = jdk_43_method_25_code) (e0 : T0.heap = h0) (A1 : Arv Z h0 b kb .byte (38 : Int32) (bs.map Value.int) (.int (0 : Int32))) (A2 : Arv Z h0 t kt .byte (Int32.ofNat z) (ts.map Value.int) (.int (0 : Int32))) (hz1 : 1 ≤ z) (hzm : mx + z = 38) (n : Nat) :
    ∀ i : Nat, i ≤ mx → i + n = mx → ∃ i', i < i' ∧ i' ≤ mx + 1 ∧ (∀ q, i < q → q < i' → ¬ bs.getD q 0 = f) ∧ (i' ≤ mx → bs.getD i' 0 = f) ∧ Rch p.tables e below (T0.setTop (mkF m 30 #[.val (.ref b), .val (.int (38 : Int32)), .val (.ref t), .val (.int (Int32.ofNat z)), .val (.int (0 : Int32)), .val (.int f), .val (.int (Int32.ofNat mx)), .val (.int (Int32.ofNat i)), s8, s9, s10] [])) (T0.setTop (mkF m 52 #[.val (.ref b), .val (.int (38 : Int32)), .val (.ref t), .val (.int (Int32.ofNat z)), .val (.int (0 : Int32)), .val (.int f), .val (.int (Int32.ofNat mx)), .val (.int (Int32.ofNat i')), s8, s9, s10] [])) := by
  induction n with
  | zero =>
    intro i hi hn
    rcases skT X0 hx hZ hby e0 A1 A2 hz1 hzm hi with ⟨h1, R⟩ | ⟨h1, -⟩
    · exact ⟨i + 1, by omega, by omega, fun q a b => by omega, fun q => h1.resolve_left (by omega), R⟩
    · omega
  | succ n ih =>
    intro i hi hn
    rcases skT X0 hx hZ hby e0 A1 A2 hz1 hzm hi with ⟨h1, R⟩ | ⟨h1, h2, R⟩
    · exact ⟨i + 1, by omega, by omega, fun q a b => by omega, fun q => h1.resolve_left (by omega), R⟩
    · obtain ⟨i', a1, a2, a3, a4, R'⟩ := ih (i + 1) (by omega) (by omega)
      refine ⟨i', by omega, a2, fun q b1 b2 => ?_, a4, fun tgt ktg => R tgt (R' tgt ktg)⟩
      by_cases e : q = i + 1
      · rw [e]; exact h2
      · exact a3 q (by omega) b2
theorem d21_52 : decode jdk_43_method_25_code 52 = .ok (.iload 7, 2) := by decide +kernel
theorem d21_54 : decode jdk_43_method_25_code 54 = .ok (.iload 6, 2) := by decide +kernel
theorem d21_56 : decode jdk_43_method_25_code 56 = .ok (.if_icmp .gt 57, 3) := by decide +kernel
theorem d21_113 : decode jdk_43_method_25_code 113 = .ok (.iinc 7 1, 3) := by decide +kernel
theorem d21_116 : decode jdk_43_method_25_code 116 = .ok (.goto (-102), 3) := by decide +kernel
theorem d21_59 : decode jdk_43_method_25_code 59 = .ok (.iload 7, 2) := by decide +kernel
theorem d21_61 : decode jdk_43_method_25_code 61 = .ok (.iconst 1, 1) := by decide +kernel
theorem d21_62 : decode jdk_43_method_25_code 62 = .ok (.iadd, 1) := by decide +kernel
theorem d21_63 : decode jdk_43_method_25_code 63 = .ok (.istore 8, 2) := by decide +kernel
theorem d21_65 : decode jdk_43_method_25_code 65 = .ok (.iload 8, 2) := by decide +kernel
theorem d21_67 : decode jdk_43_method_25_code 67 = .ok (.iload_n 3, 1) := by decide +kernel
theorem d21_68 : decode jdk_43_method_25_code 68 = .ok (.iadd, 1) := by decide +kernel
theorem d21_69 : decode jdk_43_method_25_code 69 = .ok (.iconst 1, 1) := by decide +kernel
theorem d21_70 : decode jdk_43_method_25_code 70 = .ok (.isub, 1) := by decide +kernel
theorem d21_71 : decode jdk_43_method_25_code 71 = .ok (.istore 9, 2) := by decide +kernel
theorem d21_73 : decode jdk_43_method_25_code 73 = .ok (.iconst 1, 1) := by decide +kernel
theorem d21_74 : decode jdk_43_method_25_code 74 = .ok (.istore 10, 2) := by decide +kernel
theorem d21_103 : decode jdk_43_method_25_code 103 = .ok (.iload 8, 2) := by decide +kernel
theorem d21_105 : decode jdk_43_method_25_code 105 = .ok (.iload 9, 2) := by decide +kernel
theorem d21_107 : decode jdk_43_method_25_code 107 = .ok (.if_icmp .ne 6, 3) := by decide +kernel
theorem d21_110 : decode jdk_43_method_25_code 110 = .ok (.iload 7, 2) := by decide +kernel
set_option maxRecDepth 65536 in
set_option maxHeartbeats 40000000 in
theorem cmT {p : Program} {l : Launch} {e : Env} {s : State} {m : MethodId} {args : Array Value} {below : List Frame} {meth : Method} {c : Code} {T0 : State} {locs : List Loc} {cells slots : Nat} {Z : State} {h0 : Heap} {b t : Addr} {kb kt : ClassId} {bs ts : List Int32} {z mx : Nat} {f : Int32} {s8 s9 s10 : Slot} {i : Nat}
    (X0 : Stand p l e ({ frames := 0, cells := 0, slots := 0, locals := 0 } : Room) s m args below meth c T0 locs cells slots) (hx : p.tables.exec = Jvm.exec) (hZ : Z.Warmed39 s.vm) (hby : c.code = jdk_43_method_25_code) (e0 : T0.heap = h0) (A1 : Arv Z h0 b kb .byte (38 : Int32) (bs.map Value.int) (.int (0 : Int32))) (A2 : Arv Z h0 t kt .byte (Int32.ofNat z) (ts.map Value.int) (.int (0 : Int32))) (hz1 : 1 ≤ z) (hzm : mx + z = 38) (hts : ts.length = z) (hf : f = ts.getD 0 0) (hi : i ≤ mx + 1) (h0i : i ≤ mx → bs.getD i 0 = f) (g8 : Pl s8) (g9 : Pl s9) (g10 : Pl s10) :
    (i ≤ mx ∧ Occ bs ts i ∧ ∃ s8' s9' s10' : Slot, Rch p.tables e below (T0.setTop (mkF m 52 #[.val (.ref b), .val (.int (38 : Int32)), .val (.ref t), .val (.int (Int32.ofNat z)), .val (.int (0 : Int32)), .val (.int f), .val (.int (Int32.ofNat mx)), .val (.int (Int32.ofNat i)), s8, s9, s10] [])) (T0.setTop (mkF m 112 #[.val (.ref b), .val (.int (38 : Int32)), .val (.ref t), .val (.int (Int32.ofNat z)), .val (.int (0 : Int32)), .val (.int f), .val (.int (Int32.ofNat mx)), .val (.int (Int32.ofNat i)), s8', s9', s10'] [(.int (Int32.ofNat i))]))) ∨ ((i ≤ mx → ¬ Occ bs ts i) ∧ ∃ s8' s9' s10' : Slot, Pl s8' ∧ Pl s9' ∧ Pl s10' ∧ Rch p.tables e below (T0.setTop (mkF m 52 #[.val (.ref b), .val (.int (38 : Int32)), .val (.ref t), .val (.int (Int32.ofNat z)), .val (.int (0 : Int32)), .val (.int f), .val (.int (Int32.ofNat mx)), .val (.int (Int32.ofNat i)), s8, s9, s10] [])) (T0.setTop (mkF m 14 #[.val (.ref b), .val (.int (38 : Int32)), .val (.ref t), .val (.int (Int32.ofNat z)), .val (.int (0 : Int32)), .val (.int f), .val (.int (Int32.ofNat mx)), .val (.int (Int32.ofNat (i + 1))), s8', s9', s10'] []))) := by
  have pre0 : Rch p.tables e below (T0.setTop (mkF m 52 #[.val (.ref b), .val (.int (38 : Int32)), .val (.ref t), .val (.int (Int32.ofNat z)), .val (.int (0 : Int32)), .val (.int f), .val (.int (Int32.ofNat mx)), .val (.int (Int32.ofNat i)), s8, s9, s10] [])) (T0.setTop (mkF m 52 #[.val (.ref b), .val (.int (38 : Int32)), .val (.ref t), .val (.int (Int32.ofNat z)), .val (.int (0 : Int32)), .val (.int f), .val (.int (Int32.ofNat mx)), .val (.int (Int32.ofNat i)), s8, s9, s10] [])) := fun tgt ktg => ktg
  have pre_1 : Rch p.tables e below (T0.setTop (mkF m 52 #[.val (.ref b), .val (.int (38 : Int32)), .val (.ref t), .val (.int (Int32.ofNat z)), .val (.int (0 : Int32)), .val (.int f), .val (.int (Int32.ofNat mx)), .val (.int (Int32.ofNat i)), s8, s9, s10] [])) (T0.setTop (mkF m 56 #[.val (.ref b), .val (.int (38 : Int32)), .val (.ref t), .val (.int (Int32.ofNat z)), .val (.int (0 : Int32)), .val (.int f), .val (.int (Int32.ofNat mx)), .val (.int (Int32.ofNat i)), s8, s9, s10] [(.int (Int32.ofNat mx)), (.int (Int32.ofNat i))])) := fun tgt ktg => pre0 tgt (by
    show Steps p.tables e below (T0.setTop (mkF m 52 #[.val (.ref b), .val (.int (38 : Int32)), .val (.ref t), .val (.int (Int32.ofNat z)), .val (.int (0 : Int32)), .val (.int f), .val (.int (Int32.ofNat mx)), .val (.int (Int32.ofNat i)), s8, s9, s10] [])) _
    refine XS.iload X0.here hx rfl (hb hby d21_52) rfl ?_
    show Steps p.tables e below (T0.setTop (mkF m 54 #[.val (.ref b), .val (.int (38 : Int32)), .val (.ref t), .val (.int (Int32.ofNat z)), .val (.int (0 : Int32)), .val (.int f), .val (.int (Int32.ofNat mx)), .val (.int (Int32.ofNat i)), s8, s9, s10] [(.int (Int32.ofNat i))])) _
    refine XS.iload X0.here hx rfl (hb hby d21_54) rfl ?_
    exact ktg)
  by_cases c_2 : (Int32.ofNat mx) < (Int32.ofNat i)
  · skip
    have pre_3 : Rch p.tables e below (T0.setTop (mkF m 52 #[.val (.ref b), .val (.int (38 : Int32)), .val (.ref t), .val (.int (Int32.ofNat z)), .val (.int (0 : Int32)), .val (.int f), .val (.int (Int32.ofNat mx)), .val (.int (Int32.ofNat i)), s8, s9, s10] [])) (T0.setTop (mkF m 113 #[.val (.ref b), .val (.int (38 : Int32)), .val (.ref t), .val (.int (Int32.ofNat z)), .val (.int (0 : Int32)), .val (.int f), .val (.int (Int32.ofNat mx)), .val (.int (Int32.ofNat i)), s8, s9, s10] [])) := fun tgt ktg => pre_1 tgt (by
      show Steps p.tables e below (T0.setTop (mkF m 56 #[.val (.ref b), .val (.int (38 : Int32)), .val (.ref t), .val (.int (Int32.ofNat z)), .val (.int (0 : Int32)), .val (.int f), .val (.int (Int32.ofNat mx)), .val (.int (Int32.ofNat i)), s8, s9, s10] [(.int (Int32.ofNat mx)), (.int (Int32.ofNat i))])) _
      refine XS.icmpYes X0.here hx rfl (pc0 := 56) (pc' := 113) rfl (hb hby d21_56) rfl (tlt c_2).2.2.1 (by decide) (by decide) ?_
      exact ktg)
    have pre_4 : Rch p.tables e below (T0.setTop (mkF m 52 #[.val (.ref b), .val (.int (38 : Int32)), .val (.ref t), .val (.int (Int32.ofNat z)), .val (.int (0 : Int32)), .val (.int f), .val (.int (Int32.ofNat mx)), .val (.int (Int32.ofNat i)), s8, s9, s10] [])) (T0.setTop (mkF m 14 #[.val (.ref b), .val (.int (38 : Int32)), .val (.ref t), .val (.int (Int32.ofNat z)), .val (.int (0 : Int32)), .val (.int f), .val (.int (Int32.ofNat mx)), .val (.int ((Int32.ofNat i) + (1 : Int32))), s8, s9, s10] [])) := fun tgt ktg => pre_3 tgt (by
      show Steps p.tables e below (T0.setTop (mkF m 113 #[.val (.ref b), .val (.int (38 : Int32)), .val (.ref t), .val (.int (Int32.ofNat z)), .val (.int (0 : Int32)), .val (.int f), .val (.int (Int32.ofNat mx)), .val (.int (Int32.ofNat i)), s8, s9, s10] [])) _
      refine XS.iinc X0.here hx rfl (hb hby d21_113) rfl (l' := #[.val (.ref b), .val (.int (38 : Int32)), .val (.ref t), .val (.int (Int32.ofNat z)), .val (.int (0 : Int32)), .val (.int f), .val (.int (Int32.ofNat mx)), .val (.int ((Int32.ofNat i) + (1 : Int32))), s8, s9, s10]) rfl ?_
      show Steps p.tables e below (T0.setTop (mkF m 116 #[.val (.ref b), .val (.int (38 : Int32)), .val (.ref t), .val (.int (Int32.ofNat z)), .val (.int (0 : Int32)), .val (.int f), .val (.int (Int32.ofNat mx)), .val (.int ((Int32.ofNat i) + (1 : Int32))), s8, s9, s10] [])) _
      refine XS.goto X0.here hx rfl (pc0 := 116) (pc' := 14) rfl (hb hby d21_116) (by decide) (by decide) ?_
      exact ktg)
    have rc_5 : ((Int32.ofNat i) + (1 : Int32)) = (Int32.ofNat (i + 1)) := own_suc _
    have pre_5 : Rch p.tables e below (T0.setTop (mkF m 52 #[.val (.ref b), .val (.int (38 : Int32)), .val (.ref t), .val (.int (Int32.ofNat z)), .val (.int (0 : Int32)), .val (.int f), .val (.int (Int32.ofNat mx)), .val (.int (Int32.ofNat i)), s8, s9, s10] [])) (T0.setTop (mkF m 14 #[.val (.ref b), .val (.int (38 : Int32)), .val (.ref t), .val (.int (Int32.ofNat z)), .val (.int (0 : Int32)), .val (.int f), .val (.int (Int32.ofNat mx)), .val (.int (Int32.ofNat (i + 1))), s8, s9, s10] [])) := fun tgt ktg => pre_4 tgt (by rw [rc_5]; exact ktg)
    have ci : mx < i := (own_ltn (by omega) (by omega)).mp c_2
    exact Or.inr ⟨fun q => by omega, _, _, _, g8, g9, g10, pre_5⟩
  · skip
    have pre_6 : Rch p.tables e below (T0.setTop (mkF m 52 #[.val (.ref b), .val (.int (38 : Int32)), .val (.ref t), .val (.int (Int32.ofNat z)), .val (.int (0 : Int32)), .val (.int f), .val (.int (Int32.ofNat mx)), .val (.int (Int32.ofNat i)), s8, s9, s10] [])) (T0.setTop (mkF m 59 #[.val (.ref b), .val (.int (38 : Int32)), .val (.ref t), .val (.int (Int32.ofNat z)), .val (.int (0 : Int32)), .val (.int f), .val (.int (Int32.ofNat mx)), .val (.int (Int32.ofNat i)), s8, s9, s10] [])) := fun tgt ktg => pre_1 tgt (by
      show Steps p.tables e below (T0.setTop (mkF m 56 #[.val (.ref b), .val (.int (38 : Int32)), .val (.ref t), .val (.int (Int32.ofNat z)), .val (.int (0 : Int32)), .val (.int f), .val (.int (Int32.ofNat mx)), .val (.int (Int32.ofNat i)), s8, s9, s10] [(.int (Int32.ofNat mx)), (.int (Int32.ofNat i))])) _
      refine XS.icmpNo X0.here hx rfl (hb hby d21_56) rfl (flt c_2).2.2.1 ?_
      exact ktg)
    have ci : ¬ mx < i := fun q => c_2 ((own_ltn (by omega) (by omega)).mpr q)
    have pre_7 : Rch p.tables e below (T0.setTop (mkF m 52 #[.val (.ref b), .val (.int (38 : Int32)), .val (.ref t), .val (.int (Int32.ofNat z)), .val (.int (0 : Int32)), .val (.int f), .val (.int (Int32.ofNat mx)), .val (.int (Int32.ofNat i)), s8, s9, s10] [])) (T0.setTop (mkF m 65 #[.val (.ref b), .val (.int (38 : Int32)), .val (.ref t), .val (.int (Int32.ofNat z)), .val (.int (0 : Int32)), .val (.int f), .val (.int (Int32.ofNat mx)), .val (.int (Int32.ofNat i)), .val (.int ((Int32.ofNat i) + (1 : Int32))), s9, s10] [])) := fun tgt ktg => pre_6 tgt (by
      show Steps p.tables e below (T0.setTop (mkF m 59 #[.val (.ref b), .val (.int (38 : Int32)), .val (.ref t), .val (.int (Int32.ofNat z)), .val (.int (0 : Int32)), .val (.int f), .val (.int (Int32.ofNat mx)), .val (.int (Int32.ofNat i)), s8, s9, s10] [])) _
      refine XS.iload X0.here hx rfl (hb hby d21_59) rfl ?_
      show Steps p.tables e below (T0.setTop (mkF m 61 #[.val (.ref b), .val (.int (38 : Int32)), .val (.ref t), .val (.int (Int32.ofNat z)), .val (.int (0 : Int32)), .val (.int f), .val (.int (Int32.ofNat mx)), .val (.int (Int32.ofNat i)), s8, s9, s10] [(.int (Int32.ofNat i))])) _
      refine XS.iconst X0.here hx rfl (hb hby d21_61) ?_
      show Steps p.tables e below (T0.setTop (mkF m 62 #[.val (.ref b), .val (.int (38 : Int32)), .val (.ref t), .val (.int (Int32.ofNat z)), .val (.int (0 : Int32)), .val (.int f), .val (.int (Int32.ofNat mx)), .val (.int (Int32.ofNat i)), s8, s9, s10] [(.int (1 : Int32)), (.int (Int32.ofNat i))])) _
      refine XS.iadd X0.here hx rfl (hb hby d21_62) rfl ?_
      show Steps p.tables e below (T0.setTop (mkF m 63 #[.val (.ref b), .val (.int (38 : Int32)), .val (.ref t), .val (.int (Int32.ofNat z)), .val (.int (0 : Int32)), .val (.int f), .val (.int (Int32.ofNat mx)), .val (.int (Int32.ofNat i)), s8, s9, s10] [(.int ((Int32.ofNat i) + (1 : Int32)))])) _
      refine XS.istore X0.here hx rfl (hb hby d21_63) rfl (l' := #[.val (.ref b), .val (.int (38 : Int32)), .val (.ref t), .val (.int (Int32.ofNat z)), .val (.int (0 : Int32)), .val (.int f), .val (.int (Int32.ofNat mx)), .val (.int (Int32.ofNat i)), .val (.int ((Int32.ofNat i) + (1 : Int32))), s9, s10]) (by rcases g8 with rfl | ⟨_, rfl⟩ <;> rfl) ?_
      exact ktg)
    have rc_8 : ((Int32.ofNat i) + (1 : Int32)) = (Int32.ofNat (i + 1)) := own_suc _
    have pre_8 : Rch p.tables e below (T0.setTop (mkF m 52 #[.val (.ref b), .val (.int (38 : Int32)), .val (.ref t), .val (.int (Int32.ofNat z)), .val (.int (0 : Int32)), .val (.int f), .val (.int (Int32.ofNat mx)), .val (.int (Int32.ofNat i)), s8, s9, s10] [])) (T0.setTop (mkF m 65 #[.val (.ref b), .val (.int (38 : Int32)), .val (.ref t), .val (.int (Int32.ofNat z)), .val (.int (0 : Int32)), .val (.int f), .val (.int (Int32.ofNat mx)), .val (.int (Int32.ofNat i)), .val (.int (Int32.ofNat (i + 1))), s9, s10] [])) := fun tgt ktg => pre_7 tgt (by rw [rc_8]; exact ktg)
    have pre_9 : Rch p.tables e below (T0.setTop (mkF m 52 #[.val (.ref b), .val (.int (38 : Int32)), .val (.ref t), .val (.int (Int32.ofNat z)), .val (.int (0 : Int32)), .val (.int f), .val (.int (Int32.ofNat mx)), .val (.int (Int32.ofNat i)), s8, s9, s10] [])) (T0.setTop (mkF m 71 #[.val (.ref b), .val (.int (38 : Int32)), .val (.ref t), .val (.int (Int32.ofNat z)), .val (.int (0 : Int32)), .val (.int f), .val (.int (Int32.ofNat mx)), .val (.int (Int32.ofNat i)), .val (.int (Int32.ofNat (i + 1))), s9, s10] [(.int (((Int32.ofNat (i + 1)) + (Int32.ofNat z)) - (1 : Int32)))])) := fun tgt ktg => pre_8 tgt (by
      show Steps p.tables e below (T0.setTop (mkF m 65 #[.val (.ref b), .val (.int (38 : Int32)), .val (.ref t), .val (.int (Int32.ofNat z)), .val (.int (0 : Int32)), .val (.int f), .val (.int (Int32.ofNat mx)), .val (.int (Int32.ofNat i)), .val (.int (Int32.ofNat (i + 1))), s9, s10] [])) _
      refine XS.iload X0.here hx rfl (hb hby d21_65) rfl ?_
      show Steps p.tables e below (T0.setTop (mkF m 67 #[.val (.ref b), .val (.int (38 : Int32)), .val (.ref t), .val (.int (Int32.ofNat z)), .val (.int (0 : Int32)), .val (.int f), .val (.int (Int32.ofNat mx)), .val (.int (Int32.ofNat i)), .val (.int (Int32.ofNat (i + 1))), s9, s10] [(.int (Int32.ofNat (i + 1)))])) _
      refine XS.iloadN X0.here hx rfl (hb hby d21_67) rfl ?_
      show Steps p.tables e below (T0.setTop (mkF m 68 #[.val (.ref b), .val (.int (38 : Int32)), .val (.ref t), .val (.int (Int32.ofNat z)), .val (.int (0 : Int32)), .val (.int f), .val (.int (Int32.ofNat mx)), .val (.int (Int32.ofNat i)), .val (.int (Int32.ofNat (i + 1))), s9, s10] [(.int (Int32.ofNat z)), (.int (Int32.ofNat (i + 1)))])) _
      refine XS.iadd X0.here hx rfl (hb hby d21_68) rfl ?_
      show Steps p.tables e below (T0.setTop (mkF m 69 #[.val (.ref b), .val (.int (38 : Int32)), .val (.ref t), .val (.int (Int32.ofNat z)), .val (.int (0 : Int32)), .val (.int f), .val (.int (Int32.ofNat mx)), .val (.int (Int32.ofNat i)), .val (.int (Int32.ofNat (i + 1))), s9, s10] [(.int ((Int32.ofNat (i + 1)) + (Int32.ofNat z)))])) _
      refine XS.iconst X0.here hx rfl (hb hby d21_69) ?_
      show Steps p.tables e below (T0.setTop (mkF m 70 #[.val (.ref b), .val (.int (38 : Int32)), .val (.ref t), .val (.int (Int32.ofNat z)), .val (.int (0 : Int32)), .val (.int f), .val (.int (Int32.ofNat mx)), .val (.int (Int32.ofNat i)), .val (.int (Int32.ofNat (i + 1))), s9, s10] [(.int (1 : Int32)), (.int ((Int32.ofNat (i + 1)) + (Int32.ofNat z)))])) _
      refine XS.isub X0.here hx rfl (hb hby d21_70) rfl ?_
      exact ktg)
    have rc_10 : (((Int32.ofNat (i + 1)) + (Int32.ofNat z)) - (1 : Int32)) = (Int32.ofNat (i + z)) := own_en hz1 (by omega)
    have pre_10 : Rch p.tables e below (T0.setTop (mkF m 52 #[.val (.ref b), .val (.int (38 : Int32)), .val (.ref t), .val (.int (Int32.ofNat z)), .val (.int (0 : Int32)), .val (.int f), .val (.int (Int32.ofNat mx)), .val (.int (Int32.ofNat i)), s8, s9, s10] [])) (T0.setTop (mkF m 71 #[.val (.ref b), .val (.int (38 : Int32)), .val (.ref t), .val (.int (Int32.ofNat z)), .val (.int (0 : Int32)), .val (.int f), .val (.int (Int32.ofNat mx)), .val (.int (Int32.ofNat i)), .val (.int (Int32.ofNat (i + 1))), s9, s10] [(.int (Int32.ofNat (i + z)))])) := fun tgt ktg => pre_9 tgt (by rw [rc_10]; exact ktg)
    have pre_11 : Rch p.tables e below (T0.setTop (mkF m 52 #[.val (.ref b), .val (.int (38 : Int32)), .val (.ref t), .val (.int (Int32.ofNat z)), .val (.int (0 : Int32)), .val (.int f), .val (.int (Int32.ofNat mx)), .val (.int (Int32.ofNat i)), s8, s9, s10] [])) (T0.setTop (mkF m 76 #[.val (.ref b), .val (.int (38 : Int32)), .val (.ref t), .val (.int (Int32.ofNat z)), .val (.int (0 : Int32)), .val (.int f), .val (.int (Int32.ofNat mx)), .val (.int (Int32.ofNat i)), .val (.int (Int32.ofNat (i + 1))), .val (.int (Int32.ofNat (i + z))), .val (.int (1 : Int32))] [])) := fun tgt ktg => pre_10 tgt (by
      show Steps p.tables e below (T0.setTop (mkF m 71 #[.val (.ref b), .val (.int (38 : Int32)), .val (.ref t), .val (.int (Int32.ofNat z)), .val (.int (0 : Int32)), .val (.int f), .val (.int (Int32.ofNat mx)), .val (.int (Int32.ofNat i)), .val (.int (Int32.ofNat (i + 1))), s9, s10] [(.int (Int32.ofNat (i + z)))])) _
      refine XS.istore X0.here hx rfl (hb hby d21_71) rfl (l' := #[.val (.ref b), .val (.int (38 : Int32)), .val (.ref t), .val (.int (Int32.ofNat z)), .val (.int (0 : Int32)), .val (.int f), .val (.int (Int32.ofNat mx)), .val (.int (Int32.ofNat i)), .val (.int (Int32.ofNat (i + 1))), .val (.int (Int32.ofNat (i + z))), s10]) (by rcases g9 with rfl | ⟨_, rfl⟩ <;> rfl) ?_
      show Steps p.tables e below (T0.setTop (mkF m 73 #[.val (.ref b), .val (.int (38 : Int32)), .val (.ref t), .val (.int (Int32.ofNat z)), .val (.int (0 : Int32)), .val (.int f), .val (.int (Int32.ofNat mx)), .val (.int (Int32.ofNat i)), .val (.int (Int32.ofNat (i + 1))), .val (.int (Int32.ofNat (i + z))), s10] [])) _
      refine XS.iconst X0.here hx rfl (hb hby d21_73) ?_
      show Steps p.tables e below (T0.setTop (mkF m 74 #[.val (.ref b), .val (.int (38 : Int32)), .val (.ref t), .val (.int (Int32.ofNat z)), .val (.int (0 : Int32)), .val (.int f), .val (.int (Int32.ofNat mx)), .val (.int (Int32.ofNat i)), .val (.int (Int32.ofNat (i + 1))), .val (.int (Int32.ofNat (i + z))), s10] [(.int (1 : Int32))])) _
      refine XS.istore X0.here hx rfl (hb hby d21_74) rfl (l' := #[.val (.ref b), .val (.int (38 : Int32)), .val (.ref t), .val (.int (Int32.ofNat z)), .val (.int (0 : Int32)), .val (.int f), .val (.int (Int32.ofNat mx)), .val (.int (Int32.ofNat i)), .val (.int (Int32.ofNat (i + 1))), .val (.int (Int32.ofNat (i + z))), .val (.int (1 : Int32))]) (by rcases g10 with rfl | ⟨_, rfl⟩ <;> rfl) ?_
      exact ktg)
    obtain ⟨k', a1, a2, a3, a4, R⟩ := inL (f := f) X0 hx hZ hby e0 A1 A2 hz1 hzm (i := i) (by omega) (z - 1) (i + 1) 1 rfl hz1 (by omega)
    have pre_12 : Rch p.tables e below (T0.setTop (mkF m 52 #[.val (.ref b), .val (.int (38 : Int32)), .val (.ref t), .val (.int (Int32.ofNat z)), .val (.int (0 : Int32)), .val (.int f), .val (.int (Int32.ofNat mx)), .val (.int (Int32.ofNat i)), s8, s9, s10] [])) (T0.setTop (mkF m 103 #[.val (.ref b), .val (.int (38 : Int32)), .val (.ref t), .val (.int (Int32.ofNat z)), .val (.int (0 : Int32)), .val (.int f), .val (.int (Int32.ofNat mx)), .val (.int (Int32.ofNat i)), .val (.int (Int32.ofNat (i + k'))), .val (.int (Int32.ofNat (i + z))), .val (.int (Int32.ofNat k'))] [])) := fun tgt ktg => pre_11 tgt (R tgt ktg)
    have pre_13 : Rch p.tables e below (T0.setTop (mkF m 52 #[.val (.ref b), .val (.int (38 : Int32)), .val (.ref t), .val (.int (Int32.ofNat z)), .val (.int (0 : Int32)), .val (.int f), .val (.int (Int32.ofNat mx)), .val (.int (Int32.ofNat i)), s8, s9, s10] [])) (T0.setTop (mkF m 107 #[.val (.ref b), .val (.int (38 : Int32)), .val (.ref t), .val (.int (Int32.ofNat z)), .val (.int (0 : Int32)), .val (.int f), .val (.int (Int32.ofNat mx)), .val (.int (Int32.ofNat i)), .val (.int (Int32.ofNat (i + k'))), .val (.int (Int32.ofNat (i + z))), .val (.int (Int32.ofNat k'))] [(.int (Int32.ofNat (i + z))), (.int (Int32.ofNat (i + k')))])) := fun tgt ktg => pre_12 tgt (by
      show Steps p.tables e below (T0.setTop (mkF m 103 #[.val (.ref b), .val (.int (38 : Int32)), .val (.ref t), .val (.int (Int32.ofNat z)), .val (.int (0 : Int32)), .val (.int f), .val (.int (Int32.ofNat mx)), .val (.int (Int32.ofNat i)), .val (.int (Int32.ofNat (i + k'))), .val (.int (Int32.ofNat (i + z))), .val (.int (Int32.ofNat k'))] [])) _
      refine XS.iload X0.here hx rfl (hb hby d21_103) rfl ?_
      show Steps p.tables e below (T0.setTop (mkF m 105 #[.val (.ref b), .val (.int (38 : Int32)), .val (.ref t), .val (.int (Int32.ofNat z)), .val (.int (0 : Int32)), .val (.int f), .val (.int (Int32.ofNat mx)), .val (.int (Int32.ofNat i)), .val (.int (Int32.ofNat (i + k'))), .val (.int (Int32.ofNat (i + z))), .val (.int (Int32.ofNat k'))] [(.int (Int32.ofNat (i + k')))])) _
      refine XS.iload X0.here hx rfl (hb hby d21_105) rfl ?_
      exact ktg)
    by_cases c_14 : (Int32.ofNat (i + k')) = (Int32.ofNat (i + z))
    · skip
      have pre_15 : Rch p.tables e below (T0.setTop (mkF m 52 #[.val (.ref b), .val (.int (38 : Int32)), .val (.ref t), .val (.int (Int32.ofNat z)), .val (.int (0 : Int32)), .val (.int f), .val (.int (Int32.ofNat mx)), .val (.int (Int32.ofNat i)), s8, s9, s10] [])) (T0.setTop (mkF m 110 #[.val (.ref b), .val (.int (38 : Int32)), .val (.ref t), .val (.int (Int32.ofNat z)), .val (.int (0 : Int32)), .val (.int f), .val (.int (Int32.ofNat mx)), .val (.int (Int32.ofNat i)), .val (.int (Int32.ofNat (i + k'))), .val (.int (Int32.ofNat (i + z))), .val (.int (Int32.ofNat k'))] [])) := fun tgt ktg => pre_13 tgt (by
        show Steps p.tables e below (T0.setTop (mkF m 107 #[.val (.ref b), .val (.int (38 : Int32)), .val (.ref t), .val (.int (Int32.ofNat z)), .val (.int (0 : Int32)), .val (.int f), .val (.int (Int32.ofNat mx)), .val (.int (Int32.ofNat i)), .val (.int (Int32.ofNat (i + k'))), .val (.int (Int32.ofNat (i + z))), .val (.int (Int32.ofNat k'))] [(.int (Int32.ofNat (i + z))), (.int (Int32.ofNat (i + k')))])) _
        refine XS.icmpNo X0.here hx rfl (hb hby d21_107) rfl (teq c_14).2 ?_
        exact ktg)
      have pre_16 : Rch p.tables e below (T0.setTop (mkF m 52 #[.val (.ref b), .val (.int (38 : Int32)), .val (.ref t), .val (.int (Int32.ofNat z)), .val (.int (0 : Int32)), .val (.int f), .val (.int (Int32.ofNat mx)), .val (.int (Int32.ofNat i)), s8, s9, s10] [])) (T0.setTop (mkF m 112 #[.val (.ref b), .val (.int (38 : Int32)), .val (.ref t), .val (.int (Int32.ofNat z)), .val (.int (0 : Int32)), .val (.int f), .val (.int (Int32.ofNat mx)), .val (.int (Int32.ofNat i)), .val (.int (Int32.ofNat (i + k'))), .val (.int (Int32.ofNat (i + z))), .val (.int (Int32.ofNat k'))] [(.int (Int32.ofNat i))])) := fun tgt ktg => pre_15 tgt (by
        show Steps p.tables e below (T0.setTop (mkF m 110 #[.val (.ref b), .val (.int (38 : Int32)), .val (.ref t), .val (.int (Int32.ofNat z)), .val (.int (0 : Int32)), .val (.int f), .val (.int (Int32.ofNat mx)), .val (.int (Int32.ofNat i)), .val (.int (Int32.ofNat (i + k'))), .val (.int (Int32.ofNat (i + z))), .val (.int (Int32.ofNat k'))] [])) _
        refine XS.iload X0.here hx rfl (hb hby d21_110) rfl ?_
        exact ktg)
      have ek : i + k' = i + z := (own_inj (by omega) (by omega)).mp c_14
      refine Or.inl ⟨by omega, fun q hq => ?_, _, _, _, pre_16⟩
      by_cases e : q = 0
      · subst e; rw [← hf]; exact h0i (by omega)
      · exact a2 q (by omega) (by omega)
    · skip
      have pre_17 : Rch p.tables e below (T0.setTop (mkF m 52 #[.val (.ref b), .val (.int (38 : Int32)), .val (.ref t), .val (.int (Int32.ofNat z)), .val (.int (0 : Int32)), .val (.int f), .val (.int (Int32.ofNat mx)), .val (.int (Int32.ofNat i)), s8, s9, s10] [])) (T0.setTop (mkF m 113 #[.val (.ref b), .val (.int (38 : Int32)), .val (.ref t), .val (.int (Int32.ofNat z)), .val (.int (0 : Int32)), .val (.int f), .val (.int (Int32.ofNat mx)), .val (.int (Int32.ofNat i)), .val (.int (Int32.ofNat (i + k'))), .val (.int (Int32.ofNat (i + z))), .val (.int (Int32.ofNat k'))] [])) := fun tgt ktg => pre_13 tgt (by
        show Steps p.tables e below (T0.setTop (mkF m 107 #[.val (.ref b), .val (.int (38 : Int32)), .val (.ref t), .val (.int (Int32.ofNat z)), .val (.int (0 : Int32)), .val (.int f), .val (.int (Int32.ofNat mx)), .val (.int (Int32.ofNat i)), .val (.int (Int32.ofNat (i + k'))), .val (.int (Int32.ofNat (i + z))), .val (.int (Int32.ofNat k'))] [(.int (Int32.ofNat (i + z))), (.int (Int32.ofNat (i + k')))])) _
        refine XS.icmpYes X0.here hx rfl (pc0 := 107) (pc' := 113) rfl (hb hby d21_107) rfl (feq c_14).2 (by decide) (by decide) ?_
        exact ktg)
      have pre_18 : Rch p.tables e below (T0.setTop (mkF m 52 #[.val (.ref b), .val (.int (38 : Int32)), .val (.ref t), .val (.int (Int32.ofNat z)), .val (.int (0 : Int32)), .val (.int f), .val (.int (Int32.ofNat mx)), .val (.int (Int32.ofNat i)), s8, s9, s10] [])) (T0.setTop (mkF m 14 #[.val (.ref b), .val (.int (38 : Int32)), .val (.ref t), .val (.int (Int32.ofNat z)), .val (.int (0 : Int32)), .val (.int f), .val (.int (Int32.ofNat mx)), .val (.int ((Int32.ofNat i) + (1 : Int32))), .val (.int (Int32.ofNat (i + k'))), .val (.int (Int32.ofNat (i + z))), .val (.int (Int32.ofNat k'))] [])) := fun tgt ktg => pre_17 tgt (by
        show Steps p.tables e below (T0.setTop (mkF m 113 #[.val (.ref b), .val (.int (38 : Int32)), .val (.ref t), .val (.int (Int32.ofNat z)), .val (.int (0 : Int32)), .val (.int f), .val (.int (Int32.ofNat mx)), .val (.int (Int32.ofNat i)), .val (.int (Int32.ofNat (i + k'))), .val (.int (Int32.ofNat (i + z))), .val (.int (Int32.ofNat k'))] [])) _
        refine XS.iinc X0.here hx rfl (hb hby d21_113) rfl (l' := #[.val (.ref b), .val (.int (38 : Int32)), .val (.ref t), .val (.int (Int32.ofNat z)), .val (.int (0 : Int32)), .val (.int f), .val (.int (Int32.ofNat mx)), .val (.int ((Int32.ofNat i) + (1 : Int32))), .val (.int (Int32.ofNat (i + k'))), .val (.int (Int32.ofNat (i + z))), .val (.int (Int32.ofNat k'))]) rfl ?_
        show Steps p.tables e below (T0.setTop (mkF m 116 #[.val (.ref b), .val (.int (38 : Int32)), .val (.ref t), .val (.int (Int32.ofNat z)), .val (.int (0 : Int32)), .val (.int f), .val (.int (Int32.ofNat mx)), .val (.int ((Int32.ofNat i) + (1 : Int32))), .val (.int (Int32.ofNat (i + k'))), .val (.int (Int32.ofNat (i + z))), .val (.int (Int32.ofNat k'))] [])) _
        refine XS.goto X0.here hx rfl (pc0 := 116) (pc' := 14) rfl (hb hby d21_116) (by decide) (by decide) ?_
        exact ktg)
      have rc_19 : ((Int32.ofNat i) + (1 : Int32)) = (Int32.ofNat (i + 1)) := own_suc _
      have pre_19 : Rch p.tables e below (T0.setTop (mkF m 52 #[.val (.ref b), .val (.int (38 : Int32)), .val (.ref t), .val (.int (Int32.ofNat z)), .val (.int (0 : Int32)), .val (.int f), .val (.int (Int32.ofNat mx)), .val (.int (Int32.ofNat i)), s8, s9, s10] [])) (T0.setTop (mkF m 14 #[.val (.ref b), .val (.int (38 : Int32)), .val (.ref t), .val (.int (Int32.ofNat z)), .val (.int (0 : Int32)), .val (.int f), .val (.int (Int32.ofNat mx)), .val (.int (Int32.ofNat (i + 1))), .val (.int (Int32.ofNat (i + k'))), .val (.int (Int32.ofNat (i + z))), .val (.int (Int32.ofNat k'))] [])) := fun tgt ktg => pre_18 tgt (by rw [rc_19]; exact ktg)
      have ek : ¬ i + k' = i + z := fun q => c_14 ((own_inj (by omega) (by omega)).mpr q)
      refine Or.inr ⟨fun _ oc => ?_, _, _, _, Or.inr ⟨_, rfl⟩, Or.inr ⟨_, rfl⟩, Or.inr ⟨_, rfl⟩, pre_19⟩
      rcases a3 with q | ⟨q1, q2⟩
      · omega
      · exact q2 (oc k' (by omega))
theorem d21_14 : decode jdk_43_method_25_code 14 = .ok (.iload 7, 2) := by decide +kernel
theorem d21_16 : decode jdk_43_method_25_code 16 = .ok (.iload 6, 2) := by decide +kernel
theorem d21_18 : decode jdk_43_method_25_code 18 = .ok (.if_icmp .gt 101, 3) := by decide +kernel
theorem d21_119 : decode jdk_43_method_25_code 119 = .ok (.iconst (-1), 1) := by decide +kernel
set_option maxRecDepth 65536 in
set_option maxHeartbeats 40000000 in
theorem ouE {p : Program} {l : Launch} {e : Env} {s : State} {m : MethodId} {args : Array Value} {below : List Frame} {meth : Method} {c : Code} {T0 : State} {locs : List Loc} {cells slots : Nat} {Z : State} {h0 : Heap} {b t : Addr} {kb kt : ClassId} {bs ts : List Int32} {z mx : Nat} {f : Int32} {s8 s9 s10 : Slot} {i : Nat}
    (X0 : Stand p l e ({ frames := 0, cells := 0, slots := 0, locals := 0 } : Room) s m args below meth c T0 locs cells slots) (hx : p.tables.exec = Jvm.exec) (hZ : Z.Warmed39 s.vm) (hby : c.code = jdk_43_method_25_code) (e0 : T0.heap = h0) (A1 : Arv Z h0 b kb .byte (38 : Int32) (bs.map Value.int) (.int (0 : Int32))) (A2 : Arv Z h0 t kt .byte (Int32.ofNat z) (ts.map Value.int) (.int (0 : Int32))) (hz1 : 1 ≤ z) (hzm : mx + z = 38) (hts : ts.length = z) (hf : f = ts.getD 0 0) (hi : mx < i) (hi2 : i ≤ mx + 2) :
    Rch p.tables e below (T0.setTop (mkF m 14 #[.val (.ref b), .val (.int (38 : Int32)), .val (.ref t), .val (.int (Int32.ofNat z)), .val (.int (0 : Int32)), .val (.int f), .val (.int (Int32.ofNat mx)), .val (.int (Int32.ofNat i)), s8, s9, s10] [])) (T0.setTop (mkF m 120 #[.val (.ref b), .val (.int (38 : Int32)), .val (.ref t), .val (.int (Int32.ofNat z)), .val (.int (0 : Int32)), .val (.int f), .val (.int (Int32.ofNat mx)), .val (.int (Int32.ofNat i)), s8, s9, s10] [(.int (-1 : Int32))])) := by
  have pre0 : Rch p.tables e below (T0.setTop (mkF m 14 #[.val (.ref b), .val (.int (38 : Int32)), .val (.ref t), .val (.int (Int32.ofNat z)), .val (.int (0 : Int32)), .val (.int f), .val (.int (Int32.ofNat mx)), .val (.int (Int32.ofNat i)), s8, s9, s10] [])) (T0.setTop (mkF m 14 #[.val (.ref b), .val (.int (38 : Int32)), .val (.ref t), .val (.int (Int32.ofNat z)), .val (.int (0 : Int32)), .val (.int f), .val (.int (Int32.ofNat mx)), .val (.int (Int32.ofNat i)), s8, s9, s10] [])) := fun tgt ktg => ktg
  have pre_1 : Rch p.tables e below (T0.setTop (mkF m 14 #[.val (.ref b), .val (.int (38 : Int32)), .val (.ref t), .val (.int (Int32.ofNat z)), .val (.int (0 : Int32)), .val (.int f), .val (.int (Int32.ofNat mx)), .val (.int (Int32.ofNat i)), s8, s9, s10] [])) (T0.setTop (mkF m 120 #[.val (.ref b), .val (.int (38 : Int32)), .val (.ref t), .val (.int (Int32.ofNat z)), .val (.int (0 : Int32)), .val (.int f), .val (.int (Int32.ofNat mx)), .val (.int (Int32.ofNat i)), s8, s9, s10] [(.int (-1 : Int32))])) := fun tgt ktg => pre0 tgt (by
    show Steps p.tables e below (T0.setTop (mkF m 14 #[.val (.ref b), .val (.int (38 : Int32)), .val (.ref t), .val (.int (Int32.ofNat z)), .val (.int (0 : Int32)), .val (.int f), .val (.int (Int32.ofNat mx)), .val (.int (Int32.ofNat i)), s8, s9, s10] [])) _
    refine XS.iload X0.here hx rfl (hb hby d21_14) rfl ?_
    show Steps p.tables e below (T0.setTop (mkF m 16 #[.val (.ref b), .val (.int (38 : Int32)), .val (.ref t), .val (.int (Int32.ofNat z)), .val (.int (0 : Int32)), .val (.int f), .val (.int (Int32.ofNat mx)), .val (.int (Int32.ofNat i)), s8, s9, s10] [(.int (Int32.ofNat i))])) _
    refine XS.iload X0.here hx rfl (hb hby d21_16) rfl ?_
    show Steps p.tables e below (T0.setTop (mkF m 18 #[.val (.ref b), .val (.int (38 : Int32)), .val (.ref t), .val (.int (Int32.ofNat z)), .val (.int (0 : Int32)), .val (.int f), .val (.int (Int32.ofNat mx)), .val (.int (Int32.ofNat i)), s8, s9, s10] [(.int (Int32.ofNat mx)), (.int (Int32.ofNat i))])) _
    refine XS.icmpYes X0.here hx rfl (pc0 := 18) (pc' := 119) rfl (hb hby d21_18) rfl (tlt ((own_ltn (by omega) (by omega)).mpr hi)).2.2.1 (by decide) (by decide) ?_
    show Steps p.tables e below (T0.setTop (mkF m 119 #[.val (.ref b), .val (.int (38 : Int32)), .val (.ref t), .val (.int (Int32.ofNat z)), .val (.int (0 : Int32)), .val (.int f), .val (.int (Int32.ofNat mx)), .val (.int (Int32.ofNat i)), s8, s9, s10] [])) _
    refine XS.iconst X0.here hx rfl (hb hby d21_119) ?_
    exact ktg)
  exact pre_1
theorem d21_21 : decode jdk_43_method_25_code 21 = .ok (.aload_n 0, 1) := by decide +kernel
theorem d21_22 : decode jdk_43_method_25_code 22 = .ok (.iload 7, 2) := by decide +kernel
theorem d21_24 : decode jdk_43_method_25_code 24 = .ok (.baload, 1) := by decide +kernel
theorem d21_25 : decode jdk_43_method_25_code 25 = .ok (.iload 5, 2) := by decide +kernel
theorem d21_27 : decode jdk_43_method_25_code 27 = .ok (.if_icmp .eq 25, 3) := by decide +kernel
set_option maxRecDepth 65536 in
set_option maxHeartbeats 40000000 in
theorem ouT {p : Program} {l : Launch} {e : Env} {s : State} {m : MethodId} {args : Array Value} {below : List Frame} {meth : Method} {c : Code} {T0 : State} {locs : List Loc} {cells slots : Nat} {Z : State} {h0 : Heap} {b t : Addr} {kb kt : ClassId} {bs ts : List Int32} {z mx : Nat} {f : Int32} {s8 s9 s10 : Slot} {i : Nat}
    (X0 : Stand p l e ({ frames := 0, cells := 0, slots := 0, locals := 0 } : Room) s m args below meth c T0 locs cells slots) (hx : p.tables.exec = Jvm.exec) (hZ : Z.Warmed39 s.vm) (hby : c.code = jdk_43_method_25_code) (e0 : T0.heap = h0) (A1 : Arv Z h0 b kb .byte (38 : Int32) (bs.map Value.int) (.int (0 : Int32))) (A2 : Arv Z h0 t kt .byte (Int32.ofNat z) (ts.map Value.int) (.int (0 : Int32))) (hz1 : 1 ≤ z) (hzm : mx + z = 38) (hts : ts.length = z) (hf : f = ts.getD 0 0) (hi : i ≤ mx) :
    ∃ i', i ≤ i' ∧ i' ≤ mx + 1 ∧ (∀ q, i ≤ q → q < i' → ¬ Occ bs ts q) ∧ (i' ≤ mx → bs.getD i' 0 = f) ∧ Rch p.tables e below (T0.setTop (mkF m 14 #[.val (.ref b), .val (.int (38 : Int32)), .val (.ref t), .val (.int (Int32.ofNat z)), .val (.int (0 : Int32)), .val (.int f), .val (.int (Int32.ofNat mx)), .val (.int (Int32.ofNat i)), s8, s9, s10] [])) (T0.setTop (mkF m 52 #[.val (.ref b), .val (.int (38 : Int32)), .val (.ref t), .val (.int (Int32.ofNat z)), .val (.int (0 : Int32)), .val (.int f), .val (.int (Int32.ofNat mx)), .val (.int (Int32.ofNat i')), s8, s9, s10] [])) := by
  have pre0 : Rch p.tables e below (T0.setTop (mkF m 14 #[.val (.ref b), .val (.int (38 : Int32)), .val (.ref t), .val (.int (Int32.ofNat z)), .val (.int (0 : Int32)), .val (.int f), .val (.int (Int32.ofNat mx)), .val (.int (Int32.ofNat i)), s8, s9, s10] [])) (T0.setTop (mkF m 14 #[.val (.ref b), .val (.int (38 : Int32)), .val (.ref t), .val (.int (Int32.ofNat z)), .val (.int (0 : Int32)), .val (.int f), .val (.int (Int32.ofNat mx)), .val (.int (Int32.ofNat i)), s8, s9, s10] [])) := fun tgt ktg => ktg
  have pre_1 : Rch p.tables e below (T0.setTop (mkF m 14 #[.val (.ref b), .val (.int (38 : Int32)), .val (.ref t), .val (.int (Int32.ofNat z)), .val (.int (0 : Int32)), .val (.int f), .val (.int (Int32.ofNat mx)), .val (.int (Int32.ofNat i)), s8, s9, s10] [])) (T0.setTop (mkF m 24 #[.val (.ref b), .val (.int (38 : Int32)), .val (.ref t), .val (.int (Int32.ofNat z)), .val (.int (0 : Int32)), .val (.int f), .val (.int (Int32.ofNat mx)), .val (.int (Int32.ofNat i)), s8, s9, s10] [(.int (Int32.ofNat i)), (.ref b)])) := fun tgt ktg => pre0 tgt (by
    show Steps p.tables e below (T0.setTop (mkF m 14 #[.val (.ref b), .val (.int (38 : Int32)), .val (.ref t), .val (.int (Int32.ofNat z)), .val (.int (0 : Int32)), .val (.int f), .val (.int (Int32.ofNat mx)), .val (.int (Int32.ofNat i)), s8, s9, s10] [])) _
    refine XS.iload X0.here hx rfl (hb hby d21_14) rfl ?_
    show Steps p.tables e below (T0.setTop (mkF m 16 #[.val (.ref b), .val (.int (38 : Int32)), .val (.ref t), .val (.int (Int32.ofNat z)), .val (.int (0 : Int32)), .val (.int f), .val (.int (Int32.ofNat mx)), .val (.int (Int32.ofNat i)), s8, s9, s10] [(.int (Int32.ofNat i))])) _
    refine XS.iload X0.here hx rfl (hb hby d21_16) rfl ?_
    show Steps p.tables e below (T0.setTop (mkF m 18 #[.val (.ref b), .val (.int (38 : Int32)), .val (.ref t), .val (.int (Int32.ofNat z)), .val (.int (0 : Int32)), .val (.int f), .val (.int (Int32.ofNat mx)), .val (.int (Int32.ofNat i)), s8, s9, s10] [(.int (Int32.ofNat mx)), (.int (Int32.ofNat i))])) _
    refine XS.icmpNo X0.here hx rfl (hb hby d21_18) rfl (flt (fun q => absurd ((own_ltn (by omega) (by omega)).mp q) (by omega))).2.2.1 ?_
    show Steps p.tables e below (T0.setTop (mkF m 21 #[.val (.ref b), .val (.int (38 : Int32)), .val (.ref t), .val (.int (Int32.ofNat z)), .val (.int (0 : Int32)), .val (.int f), .val (.int (Int32.ofNat mx)), .val (.int (Int32.ofNat i)), s8, s9, s10] [])) _
    refine XS.aloadN X0.here hx rfl (hb hby d21_21) rfl rfl ?_
    show Steps p.tables e below (T0.setTop (mkF m 22 #[.val (.ref b), .val (.int (38 : Int32)), .val (.ref t), .val (.int (Int32.ofNat z)), .val (.int (0 : Int32)), .val (.int f), .val (.int (Int32.ofNat mx)), .val (.int (Int32.ofNat i)), s8, s9, s10] [(.ref b)])) _
    refine XS.iload X0.here hx rfl (hb hby d21_22) rfl ?_
    exact ktg)
  obtain ⟨cl__2, Ar__2, q__2, S__2, N__2, H__2, G__2⟩ := id A1
  have hin__2 : ¬ ((Int32.ofNat i) < 0 ∨ cl__2.slots.size ≤ ((Int32.ofNat i)).toNatClampNeg) := inb_of S__2 (own_inb (z := 38) (by decide) (by omega))
  have hat__2 : cl__2.slots[((Int32.ofNat i)).toNatClampNeg]? = some (.int (bs.getD i 0)) := H__2.at hin__2 (own_at (by omega))
  have pre_3 : Rch p.tables e below (T0.setTop (mkF m 14 #[.val (.ref b), .val (.int (38 : Int32)), .val (.ref t), .val (.int (Int32.ofNat z)), .val (.int (0 : Int32)), .val (.int f), .val (.int (Int32.ofNat mx)), .val (.int (Int32.ofNat i)), s8, s9, s10] [])) (T0.setTop (mkF m 25 #[.val (.ref b), .val (.int (38 : Int32)), .val (.ref t), .val (.int (Int32.ofNat z)), .val (.int (0 : Int32)), .val (.int f), .val (.int (Int32.ofNat mx)), .val (.int (Int32.ofNat i)), s8, s9, s10] [(.int (bs.getD i 0))])) := fun tgt ktg => pre_1 tgt (X0.baloadBytes hx (j := (Int32.ofNat i)) (v := (.int (bs.getD i 0))) (by rw [e0]; exact Ar__2.1) (State.isArrayOf_alike hZ.alike Ar__2.2.1) Ar__2.2.2 hin__2 hat__2 (g := (mkF m 24 #[.val (.ref b), .val (.int (38 : Int32)), .val (.ref t), .val (.int (Int32.ofNat z)), .val (.int (0 : Int32)), .val (.int f), .val (.int (Int32.ofNat mx)), .val (.int (Int32.ofNat i)), s8, s9, s10] [(.int (Int32.ofNat i)), (.ref b)])) rfl rfl (hb hby d21_24) _ ktg)
  have pre_4 : Rch p.tables e below (T0.setTop (mkF m 14 #[.val (.ref b), .val (.int (38 : Int32)), .val (.ref t), .val (.int (Int32.ofNat z)), .val (.int (0 : Int32)), .val (.int f), .val (.int (Int32.ofNat mx)), .val (.int (Int32.ofNat i)), s8, s9, s10] [])) (T0.setTop (mkF m 27 #[.val (.ref b), .val (.int (38 : Int32)), .val (.ref t), .val (.int (Int32.ofNat z)), .val (.int (0 : Int32)), .val (.int f), .val (.int (Int32.ofNat mx)), .val (.int (Int32.ofNat i)), s8, s9, s10] [(.int f), (.int (bs.getD i 0))])) := fun tgt ktg => pre_3 tgt (by
    show Steps p.tables e below (T0.setTop (mkF m 25 #[.val (.ref b), .val (.int (38 : Int32)), .val (.ref t), .val (.int (Int32.ofNat z)), .val (.int (0 : Int32)), .val (.int f), .val (.int (Int32.ofNat mx)), .val (.int (Int32.ofNat i)), s8, s9, s10] [(.int (bs.getD i 0))])) _
    refine XS.iload X0.here hx rfl (hb hby d21_25) rfl ?_
    exact ktg)
  by_cases c_5 : (bs.getD i 0) = f
  · skip
    have pre_6 : Rch p.tables e below (T0.setTop (mkF m 14 #[.val (.ref b), .val (.int (38 : Int32)), .val (.ref t), .val (.int (Int32.ofNat z)), .val (.int (0 : Int32)), .val (.int f), .val (.int (Int32.ofNat mx)), .val (.int (Int32.ofNat i)), s8, s9, s10] [])) (T0.setTop (mkF m 52 #[.val (.ref b), .val (.int (38 : Int32)), .val (.ref t), .val (.int (Int32.ofNat z)), .val (.int (0 : Int32)), .val (.int f), .val (.int (Int32.ofNat mx)), .val (.int (Int32.ofNat i)), s8, s9, s10] [])) := fun tgt ktg => pre_4 tgt (by
      show Steps p.tables e below (T0.setTop (mkF m 27 #[.val (.ref b), .val (.int (38 : Int32)), .val (.ref t), .val (.int (Int32.ofNat z)), .val (.int (0 : Int32)), .val (.int f), .val (.int (Int32.ofNat mx)), .val (.int (Int32.ofNat i)), s8, s9, s10] [(.int f), (.int (bs.getD i 0))])) _
      refine XS.icmpYes X0.here hx rfl (pc0 := 27) (pc' := 52) rfl (hb hby d21_27) rfl (teq c_5).1 (by decide) (by decide) ?_
      exact ktg)
    exact ⟨i, Nat.le_refl _, by omega, fun q a b => by omega, fun _ => c_5, pre_6⟩
  · skip
    have pre_7 : Rch p.tables e below (T0.setTop (mkF m 14 #[.val (.ref b), .val (.int (38 : Int32)), .val (.ref t), .val (.int (Int32.ofNat z)), .val (.int (0 : Int32)), .val (.int f), .val (.int (Int32.ofNat mx)), .val (.int (Int32.ofNat i)), s8, s9, s10] [])) (T0.setTop (mkF m 30 #[.val (.ref b), .val (.int (38 : Int32)), .val (.ref t), .val (.int (Int32.ofNat z)), .val (.int (0 : Int32)), .val (.int f), .val (.int (Int32.ofNat mx)), .val (.int (Int32.ofNat i)), s8, s9, s10] [])) := fun tgt ktg => pre_4 tgt (by
      show Steps p.tables e below (T0.setTop (mkF m 27 #[.val (.ref b), .val (.int (38 : Int32)), .val (.ref t), .val (.int (Int32.ofNat z)), .val (.int (0 : Int32)), .val (.int f), .val (.int (Int32.ofNat mx)), .val (.int (Int32.ofNat i)), s8, s9, s10] [(.int f), (.int (bs.getD i 0))])) _
      refine XS.icmpNo X0.here hx rfl (hb hby d21_27) rfl (feq c_5).1 ?_
      exact ktg)
    obtain ⟨i', a1, a2, a3, a4, R⟩ := skL (s8 := s8) (s9 := s9) (s10 := s10) (f := f) X0 hx hZ hby e0 A1 A2 hz1 hzm (mx - i) i hi (by omega)
    have pre_8 : Rch p.tables e below (T0.setTop (mkF m 14 #[.val (.ref b), .val (.int (38 : Int32)), .val (.ref t), .val (.int (Int32.ofNat z)), .val (.int (0 : Int32)), .val (.int f), .val (.int (Int32.ofNat mx)), .val (.int (Int32.ofNat i)), s8, s9, s10] [])) (T0.setTop (mkF m 52 #[.val (.ref b), .val (.int (38 : Int32)), .val (.ref t), .val (.int (Int32.ofNat z)), .val (.int (0 : Int32)), .val (.int f), .val (.int (Int32.ofNat mx)), .val (.int (Int32.ofNat i')), s8, s9, s10] [])) := fun tgt ktg => pre_7 tgt (R tgt ktg)
    refine ⟨i', by omega, a2, fun q b1 b2 oc => ?_, a4, pre_8⟩
    have o0 := oc 0 (by omega)
    rw [Nat.add_zero, ← hf] at o0
    by_cases e : q = i
    · subst e; exact c_5 o0
    · exact a3 q (by omega) b2 o0
set_option maxRecDepth 65536 in
set_option maxHeartbeats 40000000 in
theorem ouL {p : Program} {l : Launch} {e : Env} {s : State} {m : MethodId} {args : Array Value} {below : List Frame} {meth : Method} {c : Code} {T0 : State} {locs : List Loc} {cells slots : Nat} {Z : State} {h0 : Heap} {b t : Addr} {kb kt : ClassId} {bs ts : List Int32} {z mx : Nat} {f : Int32}
    (X0 : Stand p l e ({ frames := 0, cells := 0, slots := 0, locals := 0 } : Room) s m args below meth c T0 locs cells slots) (hx : p.tables.exec = Jvm.exec) (hZ : Z.Warmed39 s.vm) (hby : c.code = jdk_43_method_25_code) (e0 : T0.heap = h0) (A1 : Arv Z h0 b kb .byte (38 : Int32) (bs.map Value.int) (.int (0 : Int32))) (A2 : Arv Z h0 t kt .byte (Int32.ofNat z) (ts.map Value.int) (.int (0 : Int32))) (hz1 : 1 ≤ z) (hzm : mx + z = 38) (hts : ts.length = z) (hf : f = ts.getD 0 0) (n : Nat) :
    ∀ (i : Nat) (s8 s9 s10 : Slot), Pl s8 → Pl s9 → Pl s10 → mx + 1 ≤ i + n → i ≤ mx + 2 → (∃ i', i ≤ i' ∧ i' ≤ mx ∧ Occ bs ts i' ∧ ∃ s8' s9' s10' : Slot, Rch p.tables e below (T0.setTop (mkF m 14 #[.val (.ref b), .val (.int (38 : Int32)), .val (.ref t), .val (.int (Int32.ofNat z)), .val (.int (0 : Int32)), .val (.int f), .val (.int (Int32.ofNat mx)), .val (.int (Int32.ofNat i)), s8, s9, s10] [])) (T0.setTop (mkF m 112 #[.val (.ref b), .val (.int (38 : Int32)), .val (.ref t), .val (.int (Int32.ofNat z)), .val (.int (0 : Int32)), .val (.int f), .val (.int (Int32.ofNat mx)), .val (.int (Int32.ofNat i')), s8', s9', s10'] [(.int (Int32.ofNat i'))]))) ∨ ((∀ q, i ≤ q → q ≤ mx → ¬ Occ bs ts q) ∧ ∃ (i' : Nat) (s8' s9' s10' : Slot), Rch p.tables e below (T0.setTop (mkF m 14 #[.val (.ref b), .val (.int (38 : Int32)), .val (.ref t), .val (.int (Int32.ofNat z)), .val (.int (0 : Int32)), .val (.int f), .val (.int (Int32.ofNat mx)), .val (.int (Int32.ofNat i)), s8, s9, s10] [])) (T0.setTop (mkF m 120 #[.val (.ref b), .val (.int (38 : Int32)), .val (.ref t), .val (.int (Int32.ofNat z)), .val (.int (0 : Int32)), .val (.int f), .val (.int (Int32.ofNat mx)), .val (.int (Int32.ofNat i')), s8', s9', s10'] [(.int (-1 : Int32))]))) := by
  induction n with
  | zero =>
    intro i s8 s9 s10 g8 g9 g10 hn hi
    exact Or.inr ⟨fun q a b => by omega, i, s8, s9, s10, ouE X0 hx hZ hby e0 A1 A2 hz1 hzm hts hf (by omega) hi⟩
  | succ n ih =>
    intro i s8 s9 s10 g8 g9 g10 hn hi
    by_cases hm : mx < i
    · exact Or.inr ⟨fun q a b => by omega, i, s8, s9, s10, ouE X0 hx hZ hby e0 A1 A2 hz1 hzm hts hf hm hi⟩
    · obtain ⟨i', a1, a2, a3, a4, R⟩ := ouT (s8 := s8) (s9 := s9) (s10 := s10) X0 hx hZ hby e0 A1 A2 hz1 hzm hts hf (i := i) (by omega)
      rcases cmT (s8 := s8) (s9 := s9) (s10 := s10) X0 hx hZ hby e0 A1 A2 hz1 hzm hts hf a2 a4 g8 g9 g10 with ⟨b1, b2, s8', s9', s10', R'⟩ | ⟨b1, s8', s9', s10', g8', g9', g10', R'⟩
      · exact Or.inl ⟨i', a1, b1, b2, s8', s9', s10', fun tgt ktg => R tgt (R' tgt ktg)⟩
      · rcases ih (i' + 1) s8' s9' s10' g8' g9' g10' (by omega) (by omega) with ⟨i2, c1, c2, c3, t8, t9, t10, R2⟩ | ⟨c1, i2, t8, t9, t10, R2⟩
        · exact Or.inl ⟨i2, by omega, c2, c3, t8, t9, t10, fun tgt ktg => R tgt (R' tgt (R2 tgt ktg))⟩
        · refine Or.inr ⟨fun q d1 d2 => ?_, i2, t8, t9, t10, fun tgt ktg => R tgt (R' tgt (R2 tgt ktg))⟩
          by_cases e1 : q < i'
          · exact a3 q d1 e1
          · by_cases e2 : q = i'
            · subst e2; exact b1 d2
            · exact c1 q (by omega) d2
theorem d21_0 : decode jdk_43_method_25_code 0 = .ok (.aload_n 2, 1) := by decide +kernel
theorem d21_1 : decode jdk_43_method_25_code 1 = .ok (.iconst 0, 1) := by decide +kernel
theorem d21_2 : decode jdk_43_method_25_code 2 = .ok (.baload, 1) := by decide +kernel
theorem d21_3 : decode jdk_43_method_25_code 3 = .ok (.istore 5, 2) := by decide +kernel
theorem d21_5 : decode jdk_43_method_25_code 5 = .ok (.iload_n 1, 1) := by decide +kernel
theorem d21_6 : decode jdk_43_method_25_code 6 = .ok (.iload_n 3, 1) := by decide +kernel
theorem d21_7 : decode jdk_43_method_25_code 7 = .ok (.isub, 1) := by decide +kernel
theorem d21_8 : decode jdk_43_method_25_code 8 = .ok (.istore 6, 2) := by decide +kernel
theorem d21_10 : decode jdk_43_method_25_code 10 = .ok (.iload 4, 2) := by decide +kernel
theorem d21_12 : decode jdk_43_method_25_code 12 = .ok (.istore 7, 2) := by decide +kernel
theorem d21_112 : decode jdk_43_method_25_code 112 = .ok (.ireturn, 1) := by decide +kernel
theorem d21_120 : decode jdk_43_method_25_code 120 = .ok (.ireturn, 1) := by decide +kernel
theorem pn_0 : plainName "java/lang/StringLatin1" = true := by first | (simp [plainName, overriddenIn]; done) | decide +kernel
theorem ef_ix (m : MethodId) (x0 : Addr) (x1 : Int32) (x2 : Addr) (x3 : Int32) (x4 : Int32) : entryFrame m #[(.ref x0), (.int x1), (.ref x2), (.int x3), (.int x4)] 11 = mkF m 0 #[.val (.ref x0), .val (.int x1), .val (.ref x2), .val (.int x3), .val (.int x4), .unset, .unset, .unset, .unset, .unset, .unset] [] := by first | (simp [entryFrame, mkF, argsToLocals, Value.category]; done) | rfl
def Qix (Z : State) (b : Addr) (t : Addr) (z mx : Nat) (bs ts : List Int32) (kb kt : ClassId) (h0 : Heap) (n0 : Nat) (v : Option Value) (h : Heap) (L : List Loc) : Prop := ∃ r : Int32, v = some (.int r) ∧ Fr n0 L ∧ h = h0 ∧ ((¬ r < 0 ∧ Has bs ts) ∨ (r < 0 ∧ ¬ Has bs ts))
set_option maxRecDepth 65536 in
set_option maxHeartbeats 40000000 in
theorem rmix (l : Launch) (Z : State) (a0 : Array Value) (hw : ∀ d ∈ tables_1, d.before a0 Z = true) (ws : List Jvm.Cond) (b : Addr) (t : Addr) (z mx : Nat) (bs ts : List Int32) (kb kt : ClassId) (h0 : Heap) (n0 : Nat) (Z0 : n0 ≤ h0.size) (A1 : Arv Z h0 b kb .byte (38 : Int32) (bs.map Value.int) (.int (0 : Int32))) (A2 : Arv Z h0 t kt .byte (Int32.ofNat z) (ts.map Value.int) (.int (0 : Int32))) (hz1 : 1 ≤ z) (hzm : mx + z = 38) (hz : z ≤ 38) (hts : ts.length = z) (hbl : bs.length = 38) :
    MetFree l (⟨"java/lang/StringLatin1", "indexOf", "([BI[BII)I"⟩ : MethodName) (head1 (Jvm.Cond.code (⟨"java/lang/StringLatin1", "indexOf", "([BI[BII)I"⟩ : MethodName) jdk_43_method_25_code 11 (some .int) :: ws) ({ frames := 0, cells := 0, slots := 0, locals := 0 } : Room)) (fun aA U => aA = #[(.ref b), (.int (38 : Int32)), (.ref t), (.int (Int32.ofNat z)), (.int (0 : Int32))] ∧ Z.Warmed39 U.vm ∧ U.heap = h0) (fun _ _ _ _ _ => True) (fun _ U oO U' => ∃ vV LL, oO = .returned vV ∧ Qix Z b t z mx bs ts kb kt h0 n0 vV U'.heap LL ∧ FrameEnd U oO U' LL ({ frames := 0, cells := 0, slots := 0, locals := 0 } : Room).cells ({ frames := 0, cells := 0, slots := 0, locals := 0 } : Room).slots) := by
  refine MetFree.of_bodySF (plainFor_of_name pn_0) hisR ?_
  intro p e s m args below meth c s₁ Bd hml0 hP hK
  obtain ⟨rfl, hZ, hh⟩ := hP
  have hx := Bd.exec
  have hby := Bd.bytes
  have hml : c.maxLocals = 11 := hml0
  have hown : s.vm.findClass "java/lang/StringLatin1" = some m.cls := findClass_of_methodNamed Bd.named
  have hnm := (name_of_methodNamed Bd.named Bd.method).1
  have X0 : Stand p l e ({ frames := 0, cells := 0, slots := 0, locals := 0 } : Room) s m #[(.ref b), (.int (38 : Int32)), (.ref t), (.int (Int32.ofNat z)), (.int (0 : Int32))] below meth c s₁ [] 0 0 := Stand.of_body Bd
  have e0 : s₁.heap = h0 := by rw [← hh, Bd.state]; rfl
  have N0 := Fr.nil n0
  have K0 : Keep h0 h0 [] := Keep.refl _ _
  have pre0 : Rch p.tables e below (s₁.setTop (entryFrame m #[(.ref b), (.int (38 : Int32)), (.ref t), (.int (Int32.ofNat z)), (.int (0 : Int32))] 11)) (s₁.setTop (mkF m 0 #[.val (.ref b), .val (.int (38 : Int32)), .val (.ref t), .val (.int (Int32.ofNat z)), .val (.int (0 : Int32)), .unset, .unset, .unset, .unset, .unset, .unset] [])) := fun tgt ktg => castTop (ef_ix m b (38 : Int32) t (Int32.ofNat z) (0 : Int32)) ktg
  have pre_1 : Rch p.tables e below (s₁.setTop (entryFrame m #[(.ref b), (.int (38 : Int32)), (.ref t), (.int (Int32.ofNat z)), (.int (0 : Int32))] 11)) (s₁.setTop (mkF m 2 #[.val (.ref b), .val (.int (38 : Int32)), .val (.ref t), .val (.int (Int32.ofNat z)), .val (.int (0 : Int32)), .unset, .unset, .unset, .unset, .unset, .unset] [(.int (0 : Int32)), (.ref t)])) := fun tgt ktg => pre0 tgt (by
    show Steps p.tables e below (s₁.setTop (mkF m 0 #[.val (.ref b), .val (.int (38 : Int32)), .val (.ref t), .val (.int (Int32.ofNat z)), .val (.int (0 : Int32)), .unset, .unset, .unset, .unset, .unset, .unset] [])) _
    refine XS.aloadN X0.here hx rfl (hb hby d21_0) rfl rfl ?_
    show Steps p.tables e below (s₁.setTop (mkF m 1 #[.val (.ref b), .val (.int (38 : Int32)), .val (.ref t), .val (.int (Int32.ofNat z)), .val (.int (0 : Int32)), .unset, .unset, .unset, .unset, .unset, .unset] [(.ref t)])) _
    refine XS.iconst X0.here hx rfl (hb hby d21_1) ?_
    exact ktg)
  obtain ⟨cl__2, Ar__2, q__2, S__2, N__2, H__2, G__2⟩ := id A2
  have hin__2 : ¬ ((0 : Int32) < 0 ∨ cl__2.slots.size ≤ ((0 : Int32)).toNatClampNeg) := inb_of S__2 (own_inb (i := 0) (by omega) (by omega))
  have hat__2 : cl__2.slots[((0 : Int32)).toNatClampNeg]? = some (.int (ts.getD 0 0)) := H__2.at hin__2 (own_gd ts 0)
  have pre_3 : Rch p.tables e below (s₁.setTop (entryFrame m #[(.ref b), (.int (38 : Int32)), (.ref t), (.int (Int32.ofNat z)), (.int (0 : Int32))] 11)) (s₁.setTop (mkF m 3 #[.val (.ref b), .val (.int (38 : Int32)), .val (.ref t), .val (.int (Int32.ofNat z)), .val (.int (0 : Int32)), .unset, .unset, .unset, .unset, .unset, .unset] [(.int (ts.getD 0 0))])) := fun tgt ktg => pre_1 tgt (X0.baloadBytes hx (j := (0 : Int32)) (v := (.int (ts.getD 0 0))) (by rw [e0]; exact Ar__2.1) (State.isArrayOf_alike hZ.alike Ar__2.2.1) Ar__2.2.2 hin__2 hat__2 (g := (mkF m 2 #[.val (.ref b), .val (.int (38 : Int32)), .val (.ref t), .val (.int (Int32.ofNat z)), .val (.int (0 : Int32)), .unset, .unset, .unset, .unset, .unset, .unset] [(.int (0 : Int32)), (.ref t)])) rfl rfl (hb hby d21_2) _ ktg)
  obtain ⟨f, hv_f⟩ : ∃ nm_ : Int32, nm_ = (ts.getD 0 0) := ⟨_, rfl⟩
  have pre_4 : Rch p.tables e below (s₁.setTop (entryFrame m #[(.ref b), (.int (38 : Int32)), (.ref t), (.int (Int32.ofNat z)), (.int (0 : Int32))] 11)) (s₁.setTop (mkF m 3 #[.val (.ref b), .val (.int (38 : Int32)), .val (.ref t), .val (.int (Int32.ofNat z)), .val (.int (0 : Int32)), .unset, .unset, .unset, .unset, .unset, .unset] [(.int f)])) := fun tgt ktg => pre_3 tgt (by rw [hv_f] at ktg; exact ktg)
  have pre_5 : Rch p.tables e below (s₁.setTop (entryFrame m #[(.ref b), (.int (38 : Int32)), (.ref t), (.int (Int32.ofNat z)), (.int (0 : Int32))] 11)) (s₁.setTop (mkF m 8 #[.val (.ref b), .val (.int (38 : Int32)), .val (.ref t), .val (.int (Int32.ofNat z)), .val (.int (0 : Int32)), .val (.int f), .unset, .unset, .unset, .unset, .unset] [(.int ((38 : Int32) - (Int32.ofNat z)))])) := fun tgt ktg => pre_4 tgt (by
    show Steps p.tables e below (s₁.setTop (mkF m 3 #[.val (.ref b), .val (.int (38 : Int32)), .val (.ref t), .val (.int (Int32.ofNat z)), .val (.int (0 : Int32)), .unset, .unset, .unset, .unset, .unset, .unset] [(.int f)])) _
    refine XS.istore X0.here hx rfl (hb hby d21_3) rfl (l' := #[.val (.ref b), .val (.int (38 : Int32)), .val (.ref t), .val (.int (Int32.ofNat z)), .val (.int (0 : Int32)), .val (.int f), .unset, .unset, .unset, .unset, .unset]) rfl ?_
    show Steps p.tables e below (s₁.setTop (mkF m 5 #[.val (.ref b), .val (.int (38 : Int32)), .val (.ref t), .val (.int (Int32.ofNat z)), .val (.int (0 : Int32)), .val (.int f), .unset, .unset, .unset, .unset, .unset] [])) _
    refine XS.iloadN X0.here hx rfl (hb hby d21_5) rfl ?_
    show Steps p.tables e below (s₁.setTop (mkF m 6 #[.val (.ref b), .val (.int (38 : Int32)), .val (.ref t), .val (.int (Int32.ofNat z)), .val (.int (0 : Int32)), .val (.int f), .unset, .unset, .unset, .unset, .unset] [(.int (38 : Int32))])) _
    refine XS.iloadN X0.here hx rfl (hb hby d21_6) rfl ?_
    show Steps p.tables e below (s₁.setTop (mkF m 7 #[.val (.ref b), .val (.int (38 : Int32)), .val (.ref t), .val (.int (Int32.ofNat z)), .val (.int (0 : Int32)), .val (.int f), .unset, .unset, .unset, .unset, .unset] [(.int (Int32.ofNat z)), (.int (38 : Int32))])) _
    refine XS.isub X0.here hx rfl (hb hby d21_7) rfl ?_
    exact ktg)
  have rc_6 : ((38 : Int32) - (Int32.ofNat z)) = (Int32.ofNat mx) := own_mx hzm
  have pre_6 : Rch p.tables e below (s₁.setTop (entryFrame m #[(.ref b), (.int (38 : Int32)), (.ref t), (.int (Int32.ofNat z)), (.int (0 : Int32))] 11)) (s₁.setTop (mkF m 8 #[.val (.ref b), .val (.int (38 : Int32)), .val (.ref t), .val (.int (Int32.ofNat z)), .val (.int (0 : Int32)), .val (.int f), .unset, .unset, .unset, .unset, .unset] [(.int (Int32.ofNat mx))])) := fun tgt ktg => pre_5 tgt (by rw [rc_6]; exact ktg)
  have pre_7 : Rch p.tables e below (s₁.setTop (entryFrame m #[(.ref b), (.int (38 : Int32)), (.ref t), (.int (Int32.ofNat z)), (.int (0 : Int32))] 11)) (s₁.setTop (mkF m 14 #[.val (.ref b), .val (.int (38 : Int32)), .val (.ref t), .val (.int (Int32.ofNat z)), .val (.int (0 : Int32)), .val (.int f), .val (.int (Int32.ofNat mx)), .val (.int (0 : Int32)), .unset, .unset, .unset] [])) := fun tgt ktg => pre_6 tgt (by
    show Steps p.tables e below (s₁.setTop (mkF m 8 #[.val (.ref b), .val (.int (38 : Int32)), .val (.ref t), .val (.int (Int32.ofNat z)), .val (.int (0 : Int32)), .val (.int f), .unset, .unset, .unset, .unset, .unset] [(.int (Int32.ofNat mx))])) _
    refine XS.istore X0.here hx rfl (hb hby d21_8) rfl (l' := #[.val (.ref b), .val (.int (38 : Int32)), .val (.ref t), .val (.int (Int32.ofNat z)), .val (.int (0 : Int32)), .val (.int f), .val (.int (Int32.ofNat mx)), .unset, .unset, .unset, .unset]) rfl ?_
    show Steps p.tables e below (s₁.setTop (mkF m 10 #[.val (.ref b), .val (.int (38 : Int32)), .val (.ref t), .val (.int (Int32.ofNat z)), .val (.int (0 : Int32)), .val (.int f), .val (.int (Int32.ofNat mx)), .unset, .unset, .unset, .unset] [])) _
    refine XS.iload X0.here hx rfl (hb hby d21_10) rfl ?_
    show Steps p.tables e below (s₁.setTop (mkF m 12 #[.val (.ref b), .val (.int (38 : Int32)), .val (.ref t), .val (.int (Int32.ofNat z)), .val (.int (0 : Int32)), .val (.int f), .val (.int (Int32.ofNat mx)), .unset, .unset, .unset, .unset] [(.int (0 : Int32))])) _
    refine XS.istore X0.here hx rfl (hb hby d21_12) rfl (l' := #[.val (.ref b), .val (.int (38 : Int32)), .val (.ref t), .val (.int (Int32.ofNat z)), .val (.int (0 : Int32)), .val (.int f), .val (.int (Int32.ofNat mx)), .val (.int (0 : Int32)), .unset, .unset, .unset]) rfl ?_
    exact ktg)
  rcases ouL X0 hx hZ hby e0 A1 A2 hz1 hzm hts hv_f 39 0 .unset .unset .unset (Or.inl rfl) (Or.inl rfl) (Or.inl rfl) (by omega) (by omega) with ⟨i', a1, a2, a3, s8', s9', s10', R⟩ | ⟨a1, i', s8', s9', s10', R⟩
  · skip
    have pre_8 : Rch p.tables e below (s₁.setTop (entryFrame m #[(.ref b), (.int (38 : Int32)), (.ref t), (.int (Int32.ofNat z)), (.int (0 : Int32))] 11)) (s₁.setTop (mkF m 112 #[.val (.ref b), .val (.int (38 : Int32)), .val (.ref t), .val (.int (Int32.ofNat z)), .val (.int (0 : Int32)), .val (.int f), .val (.int (Int32.ofNat mx)), .val (.int (Int32.ofNat i')), s8', s9', s10'] [(.int (Int32.ofNat i'))])) := fun tgt ktg => pre_7 tgt (R tgt ktg)
    obtain ⟨fs, hr, hrun, hended, hW, hsame⟩ := X0.leave (v := some (.int (Int32.ofNat i'))) (fun h => by rw [Bd.returns] at h; cases h)
    refine ⟨_, _, pre_8 _ ?_, hrun, hended, _, _, rfl, ?_, ⟨_, rfl⟩, hW, hsame.mono (by decide) (by decide)⟩
    · show Steps p.tables e below (s₁.setTop (mkF m 112 #[.val (.ref b), .val (.int (38 : Int32)), .val (.ref t), .val (.int (Int32.ofNat z)), .val (.int (0 : Int32)), .val (.int f), .val (.int (Int32.ofNat mx)), .val (.int (Int32.ofNat i')), s8', s9', s10'] [(.int (Int32.ofNat i'))])) _
      exact retI X0 hx Bd.returns (hb hby d21_112) hr
    · show Qix Z b t z mx bs ts kb kt h0 n0 _ s₁.heap _
      rw [e0]
      exact ⟨_, rfl, N0, rfl, Or.inl ⟨(own_inb (z := 99) (by decide) (by omega)).1, i', by omega, a3⟩⟩
  · skip
    have pre_9 : Rch p.tables e below (s₁.setTop (entryFrame m #[(.ref b), (.int (38 : Int32)), (.ref t), (.int (Int32.ofNat z)), (.int (0 : Int32))] 11)) (s₁.setTop (mkF m 120 #[.val (.ref b), .val (.int (38 : Int32)), .val (.ref t), .val (.int (Int32.ofNat z)), .val (.int (0 : Int32)), .val (.int f), .val (.int (Int32.ofNat mx)), .val (.int (Int32.ofNat i')), s8', s9', s10'] [(.int (-1 : Int32))])) := fun tgt ktg => pre_7 tgt (R tgt ktg)
    obtain ⟨fs, hr, hrun, hended, hW, hsame⟩ := X0.leave (v := some (.int (-1 : Int32))) (fun h => by rw [Bd.returns] at h; cases h)
    refine ⟨_, _, pre_9 _ ?_, hrun, hended, _, _, rfl, ?_, ⟨_, rfl⟩, hW, hsame.mono (by decide) (by decide)⟩
    · show Steps p.tables e below (s₁.setTop (mkF m 120 #[.val (.ref b), .val (.int (38 : Int32)), .val (.ref t), .val (.int (Int32.ofNat z)), .val (.int (0 : Int32)), .val (.int f), .val (.int (Int32.ofNat mx)), .val (.int (Int32.ofNat i')), s8', s9', s10'] [(.int (-1 : Int32))])) _
      exact retI X0 hx Bd.returns (hb hby d21_120) hr
    · show Qix Z b t z mx bs ts kb kt h0 n0 _ s₁.heap _
      rw [e0]
      exact ⟨_, rfl, N0, rfl, Or.inr ⟨by decide, fun ⟨q, q1, q2⟩ => a1 q (Nat.zero_le _) (by omega) q2⟩⟩
theorem d20_0 : decode jdk_43_method_24_code 0 = .ok (.aload_n 1, 1) := by decide +kernel
theorem d20_1 : decode jdk_43_method_24_code 1 = .ok (.arraylength, 1) := by decide +kernel
theorem d20_2 : decode jdk_43_method_24_code 2 = .ok (.ifCond .ne 5, 3) := by decide +kernel
theorem d20_5 : decode jdk_43_method_24_code 5 = .ok (.iconst 0, 1) := by decide +kernel
theorem d20_6 : decode jdk_43_method_24_code 6 = .ok (.ireturn, 1) := by decide +kernel
theorem d20_7 : decode jdk_43_method_24_code 7 = .ok (.aload_n 0, 1) := by decide +kernel
theorem d20_8 : decode jdk_43_method_24_code 8 = .ok (.arraylength, 1) := by decide +kernel
theorem d20_9 : decode jdk_43_method_24_code 9 = .ok (.ifCond .ne 5, 3) := by decide +kernel
theorem d20_14 : decode jdk_43_method_24_code 14 = .ok (.aload_n 0, 1) := by decide +kernel
theorem d20_15 : decode jdk_43_method_24_code 15 = .ok (.aload_n 0, 1) := by decide +kernel
theorem d20_16 : decode jdk_43_method_24_code 16 = .ok (.arraylength, 1) := by decide +kernel
theorem d20_17 : decode jdk_43_method_24_code 17 = .ok (.aload_n 1, 1) := by decide +kernel
theorem d20_18 : decode jdk_43_method_24_code 18 = .ok (.aload_n 1, 1) := by decide +kernel
theorem d20_19 : decode jdk_43_method_24_code 19 = .ok (.arraylength, 1) := by decide +kernel
theorem d20_20 : decode jdk_43_method_24_code 20 = .ok (.iconst 0, 1) := by decide +kernel
theorem d20_21 : decode jdk_43_method_24_code 21 = .ok (.invokestatic 99, 3) := by decide +kernel
theorem pd_0 : parseMethodDescriptor "([BI[BII)I" = some ⟨[(.array .byte), .int, (.array .byte), .int, .int], some .int⟩ := by decide +kernel
theorem d20_24 : decode jdk_43_method_24_code 24 = .ok (.ireturn, 1) := by decide +kernel
theorem ef_ib (m : MethodId) (x0 : Addr) (x1 : Addr) : entryFrame m #[(.ref x0), (.ref x1)] 2 = mkF m 0 #[.val (.ref x0), .val (.ref x1)] [] := by first | (simp [entryFrame, mkF, argsToLocals, Value.category]; done) | rfl
def Qib (Z : State) (b : Addr) (t : Addr) (z : Nat) (bs ts : List Int32) (kb kt : ClassId) (h0 : Heap) (n0 : Nat) (v : Option Value) (h : Heap) (L : List Loc) : Prop := ∃ r : Int32, v = some (.int r) ∧ Fr n0 L ∧ h = h0 ∧ ((¬ r < 0 ∧ Has bs ts) ∨ (r < 0 ∧ ¬ Has bs ts))
set_option maxRecDepth 65536 in
set_option maxHeartbeats 40000000 in
theorem rmib (l : Launch) (Z : State) (a0 : Array Value) (hw : ∀ d ∈ tables_1, d.before a0 Z = true) (ws : List Jvm.Cond) (b : Addr) (t : Addr) (z : Nat) (bs ts : List Int32) (kb kt : ClassId) (h0 : Heap) (n0 : Nat) (Z0 : n0 ≤ h0.size) (A1 : Arv Z h0 b kb .byte (38 : Int32) (bs.map Value.int) (.int (0 : Int32))) (A2 : Arv Z h0 t kt .byte (Int32.ofNat z) (ts.map Value.int) (.int (0 : Int32))) (hz : z ≤ 38) (hts : ts.length = z) (hbl : bs.length = 38) :
    MetFree l (⟨"java/lang/StringLatin1", "indexOf", "([B[B)I"⟩ : MethodName) (head1 (Jvm.Cond.code (⟨"java/lang/StringLatin1", "indexOf", "([B[B)I"⟩ : MethodName) jdk_43_method_24_code 2 (some .int) :: ws) ({ frames := 1, cells := 0, slots := 0, locals := 22 } : Room)) (fun aA U => aA = #[(.ref b), (.ref t)] ∧ Z.Warmed39 U.vm ∧ U.heap = h0) (fun _ _ _ _ _ => True) (fun _ U oO U' => ∃ vV LL, oO = .returned vV ∧ Qib Z b t z bs ts kb kt h0 n0 vV U'.heap LL ∧ FrameEnd U oO U' LL ({ frames := 1, cells := 0, slots := 0, locals := 22 } : Room).cells ({ frames := 1, cells := 0, slots := 0, locals := 22 } : Room).slots) := by
  refine MetFree.of_bodySF (plainFor_of_name pn_0) hisR ?_
  intro p e s m args below meth c s₁ Bd hml0 hP hK
  obtain ⟨rfl, hZ, hh⟩ := hP
  have hx := Bd.exec
  have hby := Bd.bytes
  have hml : c.maxLocals = 2 := hml0
  have hown : s.vm.findClass "java/lang/StringLatin1" = some m.cls := findClass_of_methodNamed Bd.named
  have hnm := (name_of_methodNamed Bd.named Bd.method).1
  have X0 : Stand p l e ({ frames := 1, cells := 0, slots := 0, locals := 22 } : Room) s m #[(.ref b), (.ref t)] below meth c s₁ [] 0 0 := Stand.of_body Bd
  have e0 : s₁.heap = h0 := by rw [← hh, Bd.state]; rfl
  have N0 := Fr.nil n0
  have K0 : Keep h0 h0 [] := Keep.refl _ _
  have pre0 : Rch p.tables e below (s₁.setTop (entryFrame m #[(.ref b), (.ref t)] 2)) (s₁.setTop (mkF m 0 #[.val (.ref b), .val (.ref t)] [])) := fun tgt ktg => castTop (ef_ib m b t) ktg
  have pre_1 : Rch p.tables e below (s₁.setTop (entryFrame m #[(.ref b), (.ref t)] 2)) (s₁.setTop (mkF m 1 #[.val (.ref b), .val (.ref t)] [(.ref t)])) := fun tgt ktg => pre0 tgt (by
    show Steps p.tables e below (s₁.setTop (mkF m 0 #[.val (.ref b), .val (.ref t)] [])) _
    refine XS.aloadN X0.here hx rfl (hb hby d20_0) rfl rfl ?_
    exact ktg)
  obtain ⟨cl__2, Ar__2, q__2, S__2, N__2, H__2, G__2⟩ := id A2
  have pre_3 : Rch p.tables e below (s₁.setTop (entryFrame m #[(.ref b), (.ref t)] 2)) (s₁.setTop (mkF m 2 #[.val (.ref b), .val (.ref t)] [(.int (Int32.ofNat z))])) := fun tgt ktg => pre_1 tgt (X0.arraylength hx (by rw [e0]; exact Ar__2.1) (State.isArrayOf_alike hZ.alike Ar__2.2.1) (g := (mkF m 1 #[.val (.ref b), .val (.ref t)] [(.ref t)])) rfl rfl (hb hby d20_1) _ (by rw [len_of S__2 N__2]; exact ktg))
  by_cases c_4 : (Int32.ofNat z) = (0 : Int32)
  · skip
    have pre_5 : Rch p.tables e below (s₁.setTop (entryFrame m #[(.ref b), (.ref t)] 2)) (s₁.setTop (mkF m 5 #[.val (.ref b), .val (.ref t)] [])) := fun tgt ktg => pre_3 tgt (by
      show Steps p.tables e below (s₁.setTop (mkF m 2 #[.val (.ref b), .val (.ref t)] [(.int (Int32.ofNat z))])) _
      refine XS.ifNo X0.here hx rfl (hb hby d20_2) rfl ((if0 _ _).trans (teq c_4).2) ?_
      exact ktg)
    have ez : z = 0 := (own_inj (by omega) (by decide : 0 < 100)).mp c_4
    have pre_6 : Rch p.tables e below (s₁.setTop (entryFrame m #[(.ref b), (.ref t)] 2)) (s₁.setTop (mkF m 6 #[.val (.ref b), .val (.ref t)] [(.int (0 : Int32))])) := fun tgt ktg => pre_5 tgt (by
      show Steps p.tables e below (s₁.setTop (mkF m 5 #[.val (.ref b), .val (.ref t)] [])) _
      refine XS.iconst X0.here hx rfl (hb hby d20_5) ?_
      exact ktg)
    obtain ⟨fs, hr, hrun, hended, hW, hsame⟩ := X0.leave (v := some (.int (0 : Int32))) (fun h => by rw [Bd.returns] at h; cases h)
    refine ⟨_, _, pre_6 _ ?_, hrun, hended, _, _, rfl, ?_, ⟨_, rfl⟩, hW, hsame.mono (by decide) (by decide)⟩
    · show Steps p.tables e below (s₁.setTop (mkF m 6 #[.val (.ref b), .val (.ref t)] [(.int (0 : Int32))])) _
      exact retI X0 hx Bd.returns (hb hby d20_6) hr
    · show Qib Z b t z bs ts kb kt h0 n0 _ s₁.heap _
      rw [e0]
      exact ⟨_, rfl, N0, rfl, Or.inl ⟨by decide, 0, by omega, fun k hk => by omega⟩⟩
  · skip
    have pre_7 : Rch p.tables e below (s₁.setTop (entryFrame m #[(.ref b), (.ref t)] 2)) (s₁.setTop (mkF m 7 #[.val (.ref b), .val (.ref t)] [])) := fun tgt ktg => pre_3 tgt (by
      show Steps p.tables e below (s₁.setTop (mkF m 2 #[.val (.ref b), .val (.ref t)] [(.int (Int32.ofNat z))])) _
      refine XS.ifYes X0.here hx rfl (pc0 := 2) (pc' := 7) rfl (hb hby d20_2) rfl ((if0 _ _).trans (feq c_4).2) (by decide) (by decide) ?_
      exact ktg)
    have ez : ¬ z = 0 := fun q => c_4 ((own_inj (by omega) (by decide : 0 < 100)).mpr q)
    have pre_8 : Rch p.tables e below (s₁.setTop (entryFrame m #[(.ref b), (.ref t)] 2)) (s₁.setTop (mkF m 8 #[.val (.ref b), .val (.ref t)] [(.ref b)])) := fun tgt ktg => pre_7 tgt (by
      show Steps p.tables e below (s₁.setTop (mkF m 7 #[.val (.ref b), .val (.ref t)] [])) _
      refine XS.aloadN X0.here hx rfl (hb hby d20_7) rfl rfl ?_
      exact ktg)
    obtain ⟨cl__9, Ar__9, q__9, S__9, N__9, H__9, G__9⟩ := id A1
    have pre_10 : Rch p.tables e below (s₁.setTop (entryFrame m #[(.ref b), (.ref t)] 2)) (s₁.setTop (mkF m 9 #[.val (.ref b), .val (.ref t)] [(.int (38 : Int32))])) := fun tgt ktg => pre_8 tgt (X0.arraylength hx (by rw [e0]; exact Ar__9.1) (State.isArrayOf_alike hZ.alike Ar__9.2.1) (g := (mkF m 8 #[.val (.ref b), .val (.ref t)] [(.ref b)])) rfl rfl (hb hby d20_8) _ (by rw [len_of S__9 N__9]; exact ktg))
    have pre_11 : Rch p.tables e below (s₁.setTop (entryFrame m #[(.ref b), (.ref t)] 2)) (s₁.setTop (mkF m 16 #[.val (.ref b), .val (.ref t)] [(.ref b), (.ref b)])) := fun tgt ktg => pre_10 tgt (by
      show Steps p.tables e below (s₁.setTop (mkF m 9 #[.val (.ref b), .val (.ref t)] [(.int (38 : Int32))])) _
      refine XS.ifYes X0.here hx rfl (pc0 := 9) (pc' := 14) rfl (hb hby d20_9) rfl ((if0 _ _).trans (feq (by decide : ¬ ((38 : Int32) = (0 : Int32)))).2) (by decide) (by decide) ?_
      show Steps p.tables e below (s₁.setTop (mkF m 14 #[.val (.ref b), .val (.ref t)] [])) _
      refine XS.aloadN X0.here hx rfl (hb hby d20_14) rfl rfl ?_
      show Steps p.tables e below (s₁.setTop (mkF m 15 #[.val (.ref b), .val (.ref t)] [(.ref b)])) _
      refine XS.aloadN X0.here hx rfl (hb hby d20_15) rfl rfl ?_
      exact ktg)
    obtain ⟨cl__12, Ar__12, q__12, S__12, N__12, H__12, G__12⟩ := id A1
    have pre_13 : Rch p.tables e below (s₁.setTop (entryFrame m #[(.ref b), (.ref t)] 2)) (s₁.setTop (mkF m 17 #[.val (.ref b), .val (.ref t)] [(.int (38 : Int32)), (.ref b)])) := fun tgt ktg => pre_11 tgt (X0.arraylength hx (by rw [e0]; exact Ar__12.1) (State.isArrayOf_alike hZ.alike Ar__12.2.1) (g := (mkF m 16 #[.val (.ref b), .val (.ref t)] [(.ref b), (.ref b)])) rfl rfl (hb hby d20_16) _ (by rw [len_of S__12 N__12]; exact ktg))
    have pre_14 : Rch p.tables e below (s₁.setTop (entryFrame m #[(.ref b), (.ref t)] 2)) (s₁.setTop (mkF m 19 #[.val (.ref b), .val (.ref t)] [(.ref t), (.ref t), (.int (38 : Int32)), (.ref b)])) := fun tgt ktg => pre_13 tgt (by
      show Steps p.tables e below (s₁.setTop (mkF m 17 #[.val (.ref b), .val (.ref t)] [(.int (38 : Int32)), (.ref b)])) _
      refine XS.aloadN X0.here hx rfl (hb hby d20_17) rfl rfl ?_
      show Steps p.tables e below (s₁.setTop (mkF m 18 #[.val (.ref b), .val (.ref t)] [(.ref t), (.int (38 : Int32)), (.ref b)])) _
      refine XS.aloadN X0.here hx rfl (hb hby d20_18) rfl rfl ?_
      exact ktg)
    obtain ⟨cl__15, Ar__15, q__15, S__15, N__15, H__15, G__15⟩ := id A2
    have pre_16 : Rch p.tables e below (s₁.setTop (entryFrame m #[(.ref b), (.ref t)] 2)) (s₁.setTop (mkF m 20 #[.val (.ref b), .val (.ref t)] [(.int (Int32.ofNat z)), (.ref t), (.int (38 : Int32)), (.ref b)])) := fun tgt ktg => pre_14 tgt (X0.arraylength hx (by rw [e0]; exact Ar__15.1) (State.isArrayOf_alike hZ.alike Ar__15.2.1) (g := (mkF m 19 #[.val (.ref b), .val (.ref t)] [(.ref t), (.ref t), (.int (38 : Int32)), (.ref b)])) rfl rfl (hb hby d20_19) _ (by rw [len_of S__15 N__15]; exact ktg))
    have pre_17 : Rch p.tables e below (s₁.setTop (entryFrame m #[(.ref b), (.ref t)] 2)) (s₁.setTop (mkF m 21 #[.val (.ref b), .val (.ref t)] [(.int (0 : Int32)), (.int (Int32.ofNat z)), (.ref t), (.int (38 : Int32)), (.ref b)])) := fun tgt ktg => pre_16 tgt (by
      show Steps p.tables e below (s₁.setTop (mkF m 20 #[.val (.ref b), .val (.ref t)] [(.int (Int32.ofNat z)), (.ref t), (.int (38 : Int32)), (.ref b)])) _
      refine XS.iconst X0.here hx rfl (hb hby d20_20) ?_
      exact ktg)
    obtain ⟨_, _, ⟨T_18, L_18, k_18, n_18⟩, -, X_18, ⟨Lc_18, hQ_18, l_18, y_18, z_18⟩, st_18⟩ := Jvm.LawKit.callS X0 hx (y := (⟨"java/lang/StringLatin1", "indexOf", "([BI[BII)I"⟩ : MethodName)) hown (mvT hZ (hw _ (List.mem_of_getElem? (i := 110) rfl))) (mvT hZ (hw _ (List.mem_of_getElem? (i := 111) rfl))) (mvT hZ (hw _ (List.mem_of_getElem? (i := 28) rfl))) (mvT hZ (hw _ (List.mem_of_getElem? (i := 112) rfl))) (by decide) (backOf (W := 0) (rmix l Z a0 hw [] b t z (38 - z) bs ts kb kt h0 n0 Z0 A1 A2 (by omega) (by omega) hz hts hbl) hZ (hw _ (List.mem_of_getElem? (i := 112) rfl)) (hw _ (List.mem_of_getElem? (i := 28) rfl)) (by decide) (by decide)) (g := (mkF m 21 #[.val (.ref b), .val (.ref t)] [(.int (0 : Int32)), (.int (Int32.ofNat z)), (.ref t), (.int (38 : Int32)), (.ref b)])) rfl (by rw [hml]; rfl) (argsL := [(.ref b), (.int (38 : Int32)), (.ref t), (.int (Int32.ofNat z)), (.int (0 : Int32))]) (rest := []) (lenOf pd_0 rfl) rfl (by show 2 * 0 + _ ≤ _; exact Nat.le_of_eq rfl) (hb hby d20_21) (fun _ _ => ⟨rfl, e0, (by decide : 0 + 0 ≤ _), (by decide : 0 + 0 ≤ _)⟩)
    dsimp only [Pt.U, Pt.locs, Pt.cells, Pt.slots] at X_18 l_18 y_18 z_18 st_18 hQ_18
    subst l_18 y_18 z_18
    obtain ⟨r, rfl, Nq_18, eh_18, hR⟩ := hQ_18
    have N_19 := Fr.app N0 Nq_18
    have pre_18 : Rch p.tables e below (s₁.setTop (entryFrame m #[(.ref b), (.ref t)] 2)) (T_18.setTop (mkF m 24 #[.val (.ref b), .val (.ref t)] [(.int r)])) := fun tgt ktg => pre_17 tgt (st_18 tgt ktg)
    obtain ⟨fs, hr, hrun, hended, hW, hsame⟩ := X_18.leave (v := some (.int r)) (fun h => by rw [Bd.returns] at h; cases h)
    refine ⟨_, _, pre_18 _ ?_, hrun, hended, _, _, rfl, ?_, ⟨_, rfl⟩, hW, hsame.mono (by decide) (by decide)⟩
    · show Steps p.tables e below (T_18.setTop (mkF m 24 #[.val (.ref b), .val (.ref t)] [(.int r)])) _
      exact retI X_18 hx Bd.returns (hb hby d20_24) hr
    · show Qib Z b t z bs ts kb kt h0 n0 _ T_18.heap _
      rw [eh_18]
      exact ⟨r, rfl, N_19, rfl, hR⟩
theorem d3_0 : decode jdk_42_method_154_code 0 = .ok (.getstatic 38, 3) := by decide +kernel
theorem d3_3 : decode jdk_42_method_154_code 3 = .ok (.ifCond .eq 14, 3) := by decide +kernel
theorem d3_6 : decode jdk_42_method_154_code 6 = .ok (.aload_n 0, 1) := by decide +kernel
theorem d3_7 : decode jdk_42_method_154_code 7 = .ok (.getfield 15, 3) := by decide +kernel
theorem d3_10 : decode jdk_42_method_154_code 10 = .ok (.ifCond .ne 7, 3) := by decide +kernel
theorem d3_13 : decode jdk_42_method_154_code 13 = .ok (.iconst 1, 1) := by decide +kernel
theorem d3_14 : decode jdk_42_method_154_code 14 = .ok (.goto 4, 3) := by decide +kernel
theorem d3_18 : decode jdk_42_method_154_code 18 = .ok (.ireturn, 1) := by decide +kernel
theorem pn_1 : plainName "java/lang/String" = true := by first | (simp [plainName, overriddenIn]; done) | decide +kernel
theorem ef_isL (m : MethodId) (x0 : Addr) : entryFrame m #[(.ref x0)] 1 = mkF m 0 #[.val (.ref x0)] [] := by first | (simp [entryFrame, mkF, argsToLocals, Value.category]; done) | rfl
def QisL (Z : State) (a : Addr) (h0 : Heap) (n0 : Nat) (v : Option Value) (h : Heap) (L : List Loc) : Prop := v = some (.int 1) ∧ Fr n0 L ∧ h = h0
set_option maxRecDepth 65536 in
set_option maxHeartbeats 40000000 in
theorem rmisL (l : Launch) (Z : State) (a0 : Array Value) (hw : ∀ d ∈ tables_1, d.before a0 Z = true) (ws : List Jvm.Cond) (a : Addr) (h0 : Heap) (n0 : Nat) (Z0 : n0 ≤ h0.size) (F1 : Fld Z h0 a "java/lang/String" "coder" "B" (.int (0 : Int32))) (cs : Int32) (hcs : ¬ cs = 0) (S1 : Sta Z h0 "java/lang/String" "COMPACT_STRINGS" "Z" (.int cs)) :
    MetFree l (⟨"java/lang/String", "isLatin1", "()Z"⟩ : MethodName) (head1 (Jvm.Cond.code (⟨"java/lang/String", "isLatin1", "()Z"⟩ : MethodName) jdk_42_method_154_code 1 (some .boolean) :: ws) ({ frames := 0, cells := 0, slots := 0, locals := 0 } : Room)) (fun aA U => aA = #[(.ref a)] ∧ Z.Warmed39 U.vm ∧ U.heap = h0) (fun _ _ _ _ _ => True) (fun _ U oO U' => ∃ vV LL, oO = .returned vV ∧ QisL Z a h0 n0 vV U'.heap LL ∧ FrameEnd U oO U' LL ({ frames := 0, cells := 0, slots := 0, locals := 0 } : Room).cells ({ frames := 0, cells := 0, slots := 0, locals := 0 } : Room).slots) := by
  refine MetFree.of_bodySF (plainFor_of_name pn_1) hisR ?_
  intro p e s m args below meth c s₁ Bd hml0 hP hK
  obtain ⟨rfl, hZ, hh⟩ := hP
  have hx := Bd.exec
  have hby := Bd.bytes
  have hml : c.maxLocals = 1 := hml0
  have hown : s.vm.findClass "java/lang/String" = some m.cls := findClass_of_methodNamed Bd.named
  have hnm := (name_of_methodNamed Bd.named Bd.method).1
  have X0 : Stand p l e ({ frames := 0, cells := 0, slots := 0, locals := 0 } : Room) s m #[(.ref a)] below meth c s₁ [] 0 0 := Stand.of_body Bd
  have e0 : s₁.heap = h0 := by rw [← hh, Bd.state]; rfl
  have N0 := Fr.nil n0
  have K0 : Keep h0 h0 [] := Keep.refl _ _
  have pre0 : Rch p.tables e below (s₁.setTop (entryFrame m #[(.ref a)] 1)) (s₁.setTop (mkF m 0 #[.val (.ref a)] [])) := fun tgt ktg => castTop (ef_isL m a) ktg
  obtain ⟨T_1, X_1, e_1, st_1⟩ := getS2 X0 hx hZ hown (host := "") (Or.inl (hw _ (List.mem_of_getElem? (i := 23) rfl))) Via.refl e0 S1 (g := (mkF m 0 #[.val (.ref a)] [])) rfl (hb hby d3_0)
  have pre_1 : Rch p.tables e below (s₁.setTop (entryFrame m #[(.ref a)] 1)) (T_1.setTop (mkF m 3 #[.val (.ref a)] [(.int cs)])) := fun tgt ktg => pre0 tgt (st_1 tgt ktg)
  have pre_2 : Rch p.tables e below (s₁.setTop (entryFrame m #[(.ref a)] 1)) (T_1.setTop (mkF m 7 #[.val (.ref a)] [(.ref a)])) := fun tgt ktg => pre_1 tgt (by
    show Steps p.tables e below (T_1.setTop (mkF m 3 #[.val (.ref a)] [(.int cs)])) _
    refine XS.ifNo X_1.here hx rfl (hb hby d3_3) rfl ((if0 _ _).trans (feq hcs).1) ?_
    show Steps p.tables e below (T_1.setTop (mkF m 6 #[.val (.ref a)] [])) _
    refine XS.aloadN X_1.here hx rfl (hb hby d3_6) rfl rfl ?_
    exact ktg)
  obtain ⟨T_3, X_3, e_3, st_3⟩ := getF X_1 hx hZ hown (host := "") (Or.inl (hw _ (List.mem_of_getElem? (i := 24) rfl))) Via.refl e_1 F1 (g := (mkF m 7 #[.val (.ref a)] [(.ref a)])) rfl rfl (hb hby d3_7)
  have pre_3 : Rch p.tables e below (s₁.setTop (entryFrame m #[(.ref a)] 1)) (T_3.setTop (mkF m 10 #[.val (.ref a)] [(.int (0 : Int32))])) := fun tgt ktg => pre_2 tgt (st_3 tgt ktg)
  have pre_4 : Rch p.tables e below (s₁.setTop (entryFrame m #[(.ref a)] 1)) (T_3.setTop (mkF m 18 #[.val (.ref a)] [(.int (1 : Int32))])) := fun tgt ktg => pre_3 tgt (by
    show Steps p.tables e below (T_3.setTop (mkF m 10 #[.val (.ref a)] [(.int (0 : Int32))])) _
    refine XS.ifNo X_3.here hx rfl (hb hby d3_10) rfl ((if0 _ _).trans (teq (rfl : (0 : Int32) = (0 : Int32))).2) ?_
    show Steps p.tables e below (T_3.setTop (mkF m 13 #[.val (.ref a)] [])) _
    refine XS.iconst X_3.here hx rfl (hb hby d3_13) ?_
    show Steps p.tables e below (T_3.setTop (mkF m 14 #[.val (.ref a)] [(.int (1 : Int32))])) _
    refine XS.goto X_3.here hx rfl (pc0 := 14) (pc' := 18) rfl (hb hby d3_14) (by decide) (by decide) ?_
    exact ktg)
  obtain ⟨fs, hr, hrun, hended, hW, hsame⟩ := X_3.leave (v := some (.int (1 : Int32))) (fun h => by rw [Bd.returns] at h; cases h)
  refine ⟨_, _, pre_4 _ ?_, hrun, hended, _, _, rfl, ?_, ⟨_, rfl⟩, hW, hsame.mono (by decide) (by decide)⟩
  · show Steps p.tables e below (T_3.setTop (mkF m 18 #[.val (.ref a)] [(.int (1 : Int32))])) _
    exact retN X_3 hx (t := .boolean) Bd.returns (by simp) (hb hby d3_18) hr
  · show QisL Z a h0 n0 _ T_3.heap _
    rw [e_3]
    exact ⟨rfl, N0, rfl⟩
theorem d19_0 : decode jdk_42_method_152_code 0 = .ok (.getstatic 38, 3) := by decide +kernel
theorem d19_3 : decode jdk_42_method_152_code 3 = .ok (.ifCond .eq 10, 3) := by decide +kernel
theorem d19_6 : decode jdk_42_method_152_code 6 = .ok (.aload_n 0, 1) := by decide +kernel
theorem d19_7 : decode jdk_42_method_152_code 7 = .ok (.getfield 15, 3) := by decide +kernel
theorem d19_10 : decode jdk_42_method_152_code 10 = .ok (.goto 4, 3) := by decide +kernel
theorem d19_14 : decode jdk_42_method_152_code 14 = .ok (.ireturn, 1) := by decide +kernel
theorem ef_cod (m : MethodId) (x0 : Addr) : entryFrame m #[(.ref x0)] 1 = mkF m 0 #[.val (.ref x0)] [] := by first | (simp [entryFrame, mkF, argsToLocals, Value.category]; done) | rfl
def Qcod (Z : State) (a : Addr) (h0 : Heap) (n0 : Nat) (v : Option Value) (h : Heap) (L : List Loc) : Prop := v = some (.int 0) ∧ Fr n0 L ∧ h = h0
set_option maxRecDepth 65536 in
set_option maxHeartbeats 40000000 in
theorem rmcod (l : Launch) (Z : State) (a0 : Array Value) (hw : ∀ d ∈ tables_1, d.before a0 Z = true) (ws : List Jvm.Cond) (a : Addr) (h0 : Heap) (n0 : Nat) (Z0 : n0 ≤ h0.size) (F1 : Fld Z h0 a "java/lang/String" "coder" "B" (.int (0 : Int32))) (cs : Int32) (hcs : ¬ cs = 0) (S1 : Sta Z h0 "java/lang/String" "COMPACT_STRINGS" "Z" (.int cs)) :
    MetFree l (⟨"java/lang/String", "coder", "()B"⟩ : MethodName) (head1 (Jvm.Cond.code (⟨"java/lang/String", "coder", "()B"⟩ : MethodName) jdk_42_method_152_code 1 (some .byte) :: ws) ({ frames := 0, cells := 0, slots := 0, locals := 0 } : Room)) (fun aA U => aA = #[(.ref a)] ∧ Z.Warmed39 U.vm ∧ U.heap = h0) (fun _ _ _ _ _ => True) (fun _ U oO U' => ∃ vV LL, oO = .returned vV ∧ Qcod Z a h0 n0 vV U'.heap LL ∧ FrameEnd U oO U' LL ({ frames := 0, cells := 0, slots := 0, locals := 0 } : Room).cells ({ frames := 0, cells := 0, slots := 0, locals := 0 } : Room).slots) := by
  refine MetFree.of_bodySF (plainFor_of_name pn_1) hisR ?_
  intro p e s m args below meth c s₁ Bd hml0 hP hK
  obtain ⟨rfl, hZ, hh⟩ := hP
  have hx := Bd.exec
  have hby := Bd.bytes
  have hml : c.maxLocals = 1 := hml0
  have hown : s.vm.findClass "java/lang/String" = some m.cls := findClass_of_methodNamed Bd.named
  have hnm := (name_of_methodNamed Bd.named Bd.method).1
  have X0 : Stand p l e ({ frames := 0, cells := 0, slots := 0, locals := 0 } : Room) s m #[(.ref a)] below meth c s₁ [] 0 0 := Stand.of_body Bd
  have e0 : s₁.heap = h0 := by rw [← hh, Bd.state]; rfl
  have N0 := Fr.nil n0
  have K0 : Keep h0 h0 [] := Keep.refl _ _
  have pre0 : Rch p.tables e below (s₁.setTop (entryFrame m #[(.ref a)] 1)) (s₁.setTop (mkF m 0 #[.val (.ref a)] [])) := fun tgt ktg => castTop (ef_cod m a) ktg
  obtain ⟨T_1, X_1, e_1, st_1⟩ := getS2 X0 hx hZ hown (host := "") (Or.inl (hw _ (List.mem_of_getElem? (i := 23) rfl))) Via.refl e0 S1 (g := (mkF m 0 #[.val (.ref a)] [])) rfl (hb hby d19_0)
  have pre_1 : Rch p.tables e below (s₁.setTop (entryFrame m #[(.ref a)] 1)) (T_1.setTop (mkF m 3 #[.val (.ref a)] [(.int cs)])) := fun tgt ktg => pre0 tgt (st_1 tgt ktg)
  have pre_2 : Rch p.tables e below (s₁.setTop (entryFrame m #[(.ref a)] 1)) (T_1.setTop (mkF m 7 #[.val (.ref a)] [(.ref a)])) := fun tgt ktg => pre_1 tgt (by
    show Steps p.tables e below (T_1.setTop (mkF m 3 #[.val (.ref a)] [(.int cs)])) _
    refine XS.ifNo X_1.here hx rfl (hb hby d19_3) rfl ((if0 _ _).trans (feq hcs).1) ?_
    show Steps p.tables e below (T_1.setTop (mkF m 6 #[.val (.ref a)] [])) _
    refine XS.aloadN X_1.here hx rfl (hb hby d19_6) rfl rfl ?_
    exact ktg)
  obtain ⟨T_3, X_3, e_3, st_3⟩ := getF X_1 hx hZ hown (host := "") (Or.inl (hw _ (List.mem_of_getElem? (i := 24) rfl))) Via.refl e_1 F1 (g := (mkF m 7 #[.val (.ref a)] [(.ref a)])) rfl rfl (hb hby d19_7)
  have pre_3 : Rch p.tables e below (s₁.setTop (entryFrame m #[(.ref a)] 1)) (T_3.setTop (mkF m 10 #[.val (.ref a)] [(.int (0 : Int32))])) := fun tgt ktg => pre_2 tgt (st_3 tgt ktg)
  have pre_4 : Rch p.tables e below (s₁.setTop (entryFrame m #[(.ref a)] 1)) (T_3.setTop (mkF m 14 #[.val (.ref a)] [(.int (0 : Int32))])) := fun tgt ktg => pre_3 tgt (by
    show Steps p.tables e below (T_3.setTop (mkF m 10 #[.val (.ref a)] [(.int (0 : Int32))])) _
    refine XS.goto X_3.here hx rfl (pc0 := 10) (pc' := 14) rfl (hb hby d19_10) (by decide) (by decide) ?_
    exact ktg)
  obtain ⟨fs, hr, hrun, hended, hW, hsame⟩ := X_3.leave (v := some (.int (0 : Int32))) (fun h => by rw [Bd.returns] at h; cases h)
  refine ⟨_, _, pre_4 _ ?_, hrun, hended, _, _, rfl, ?_, ⟨_, rfl⟩, hW, hsame.mono (by decide) (by decide)⟩
  · show Steps p.tables e below (T_3.setTop (mkF m 14 #[.val (.ref a)] [(.int (0 : Int32))])) _
    exact retN X_3 hx (t := .byte) Bd.returns (by simp) (hb hby d19_14) hr
  · show Qcod Z a h0 n0 _ T_3.heap _
    rw [e_3]
    exact ⟨rfl, N0, rfl⟩
theorem d6_0 : decode jdk_41_method_11_code 0 = .ok (.iload_n 0, 1) := by decide +kernel
theorem d6_1 : decode jdk_41_method_11_code 1 = .ok (.ifCond .lt 8, 3) := by decide +kernel
theorem d6_4 : decode jdk_41_method_11_code 4 = .ok (.iload_n 0, 1) := by decide +kernel
theorem d6_5 : decode jdk_41_method_11_code 5 = .ok (.iload_n 1, 1) := by decide +kernel
theorem d6_6 : decode jdk_41_method_11_code 6 = .ok (.if_icmp .lt 10, 3) := by decide +kernel
theorem d6_16 : decode jdk_41_method_11_code 16 = .ok (.iload_n 0, 1) := by decide +kernel
theorem d6_17 : decode jdk_41_method_11_code 17 = .ok (.ireturn, 1) := by decide +kernel
theorem pn_2 : plainName "jdk/internal/util/Preconditions" = true := by first | (simp [plainName, overriddenIn]; done) | decide +kernel
theorem ef_pci (m : MethodId) (x0 : Int32) (x1 : Int32) (x2 : Value) (hx2 : x2.isRef = true) : entryFrame m #[(.int x0), (.int x1), x2] 3 = mkF m 0 #[.val (.int x0), .val (.int x1), .val x2] [] := by cases x2 <;> first | (simp [Value.isRef] at hx2; done) | (first | (simp [entryFrame, mkF, argsToLocals, Value.category]; done) | rfl)
def Qpci (Z : State) (i : Int32) (z : Int32) (u : Value) (h0 : Heap) (n0 : Nat) (v : Option Value) (h : Heap) (L : List Loc) : Prop := v = some (.int i) ∧ Fr n0 L ∧ h = h0
set_option maxRecDepth 65536 in
set_option maxHeartbeats 40000000 in
theorem rmpci (l : Launch) (Z : State) (a0 : Array Value) (hw : ∀ d ∈ tables_1, d.before a0 Z = true) (ws : List Jvm.Cond) (i : Int32) (z : Int32) (u : Value) (h0 : Heap) (n0 : Nat) (Z0 : n0 ≤ h0.size) (hu : u.isRef = true) (hi : ¬ i < 0 ∧ i < z) :
    MetFree l (⟨"jdk/internal/util/Preconditions", "checkIndex", "(IILjava/util/function/BiFunction;)I"⟩ : MethodName) (head1 (Jvm.Cond.code (⟨"jdk/internal/util/Preconditions", "checkIndex", "(IILjava/util/function/BiFunction;)I"⟩ : MethodName) jdk_41_method_11_code 3 (some .int) :: ws) ({ frames := 0, cells := 0, slots := 0, locals := 0 } : Room)) (fun aA U => aA = #[(.int i), (.int z), u] ∧ Z.Warmed39 U.vm ∧ U.heap = h0) (fun _ _ _ _ _ => True) (fun _ U oO U' => ∃ vV LL, oO = .returned vV ∧ Qpci Z i z u h0 n0 vV U'.heap LL ∧ FrameEnd U oO U' LL ({ frames := 0, cells := 0, slots := 0, locals := 0 } : Room).cells ({ frames := 0, cells := 0, slots := 0, locals := 0 } : Room).slots) := by
  refine MetFree.of_bodySF (plainFor_of_name pn_2) hisR ?_
  intro p e s m args below meth c s₁ Bd hml0 hP hK
  obtain ⟨rfl, hZ, hh⟩ := hP
  have hx := Bd.exec
  have hby := Bd.bytes
  have hml : c.maxLocals = 3 := hml0
  have hown : s.vm.findClass "jdk/internal/util/Preconditions" = some m.cls := findClass_of_methodNamed Bd.named
  have hnm := (name_of_methodNamed Bd.named Bd.method).1
  have X0 : Stand p l e ({ frames := 0, cells := 0, slots := 0, locals := 0 } : Room) s m #[(.int i), (.int z), u] below meth c s₁ [] 0 0 := Stand.of_body Bd
  have e0 : s₁.heap = h0 := by rw [← hh, Bd.state]; rfl
  have N0 := Fr.nil n0
  have K0 : Keep h0 h0 [] := Keep.refl _ _
  have pre0 : Rch p.tables e below (s₁.setTop (entryFrame m #[(.int i), (.int z), u] 3)) (s₁.setTop (mkF m 0 #[.val (.int i), .val (.int z), .val u] [])) := fun tgt ktg => castTop (ef_pci m i z u hu) ktg
  have pre_1 : Rch p.tables e below (s₁.setTop (entryFrame m #[(.int i), (.int z), u] 3)) (s₁.setTop (mkF m 17 #[.val (.int i), .val (.int z), .val u] [(.int i)])) := fun tgt ktg => pre0 tgt (by
    show Steps p.tables e below (s₁.setTop (mkF m 0 #[.val (.int i), .val (.int z), .val u] [])) _
    refine XS.iloadN X0.here hx rfl (hb hby d6_0) rfl ?_
    show Steps p.tables e below (s₁.setTop (mkF m 1 #[.val (.int i), .val (.int z), .val u] [(.int i)])) _
    refine XS.ifNo X0.here hx rfl (hb hby d6_1) rfl ((if0 _ _).trans (flt hi.1).1) ?_
    show Steps p.tables e below (s₁.setTop (mkF m 4 #[.val (.int i), .val (.int z), .val u] [])) _
    refine XS.iloadN X0.here hx rfl (hb hby d6_4) rfl ?_
    show Steps p.tables e below (s₁.setTop (mkF m 5 #[.val (.int i), .val (.int z), .val u] [(.int i)])) _
    refine XS.iloadN X0.here hx rfl (hb hby d6_5) rfl ?_
    show Steps p.tables e below (s₁.setTop (mkF m 6 #[.val (.int i), .val (.int z), .val u] [(.int z), (.int i)])) _
    refine XS.icmpYes X0.here hx rfl (pc0 := 6) (pc' := 16) rfl (hb hby d6_6) rfl (tlt hi.2).1 (by decide) (by decide) ?_
    show Steps p.tables e below (s₁.setTop (mkF m 16 #[.val (.int i), .val (.int z), .val u] [])) _
    refine XS.iloadN X0.here hx rfl (hb hby d6_16) rfl ?_
    exact ktg)
  obtain ⟨fs, hr, hrun, hended, hW, hsame⟩ := X0.leave (v := some (.int i)) (fun h => by rw [Bd.returns] at h; cases h)
  refine ⟨_, _, pre_1 _ ?_, hrun, hended, _, _, rfl, ?_, ⟨_, rfl⟩, hW, hsame.mono (by decide) (by decide)⟩
  · show Steps p.tables e below (s₁.setTop (mkF m 17 #[.val (.int i), .val (.int z), .val u] [(.int i)])) _
    exact retI X0 hx Bd.returns (hb hby d6_17) hr
  · show Qpci Z i z u h0 n0 _ s₁.heap _
    rw [e0]
    exact ⟨rfl, N0, rfl⟩
theorem d5_0 : decode jdk_42_method_155_code 0 = .ok (.iload_n 0, 1) := by decide +kernel
theorem d5_1 : decode jdk_42_method_155_code 1 = .ok (.iload_n 1, 1) := by decide +kernel
theorem d5_2 : decode jdk_42_method_155_code 2 = .ok (.getstatic 1053, 3) := by decide +kernel
theorem d5_5 : decode jdk_42_method_155_code 5 = .ok (.invokestatic 1059, 3) := by decide +kernel
theorem pd_1 : parseMethodDescriptor "(IILjava/util/function/BiFunction;)I" = some ⟨[.int, .int, (.object "java/util/function/BiFunction")], some .int⟩ := by decide +kernel
theorem d5_8 : decode jdk_42_method_155_code 8 = .ok (.pop, 1) := by decide +kernel
theorem d5_9 : decode jdk_42_method_155_code 9 = .ok (.return_, 1) := by decide +kernel
theorem ef_sci (m : MethodId) (x0 : Int32) (x1 : Int32) : entryFrame m #[(.int x0), (.int x1)] 2 = mkF m 0 #[.val (.int x0), .val (.int x1)] [] := by first | (simp [entryFrame, mkF, argsToLocals, Value.category]; done) | rfl
def Qsci (Z : State) (i : Int32) (z : Int32) (u : Value) (h0 : Heap) (n0 : Nat) (v : Option Value) (h : Heap) (L : List Loc) : Prop := v = none ∧ Fr n0 L ∧ h = h0
set_option maxRecDepth 65536 in
set_option maxHeartbeats 40000000 in
theorem rmsci (l : Launch) (Z : State) (a0 : Array Value) (hw : ∀ d ∈ tables_1, d.before a0 Z = true) (ws : List Jvm.Cond) (i : Int32) (z : Int32) (u : Value) (h0 : Heap) (n0 : Nat) (Z0 : n0 ≤ h0.size) (hu : u.isRef = true) (S2 : Sta Z h0 "jdk/internal/util/Preconditions" "SIOOBE_FORMATTER" "Ljava/util/function/BiFunction;" u) (hi : ¬ i < 0 ∧ i < z) :
    MetFree l (⟨"java/lang/String", "checkIndex", "(II)V"⟩ : MethodName) (head1 (Jvm.Cond.code (⟨"java/lang/String", "checkIndex", "(II)V"⟩ : MethodName) jdk_42_method_155_code 2 none :: ws) ({ frames := 1, cells := 0, slots := 0, locals := 14 } : Room)) (fun aA U => aA = #[(.int i), (.int z)] ∧ Z.Warmed39 U.vm ∧ U.heap = h0) (fun _ _ _ _ _ => True) (fun _ U oO U' => ∃ vV LL, oO = .returned vV ∧ Qsci Z i z u h0 n0 vV U'.heap LL ∧ FrameEnd U oO U' LL ({ frames := 1, cells := 0, slots := 0, locals := 14 } : Room).cells ({ frames := 1, cells := 0, slots := 0, locals := 14 } : Room).slots) := by
  refine MetFree.of_bodySF (plainFor_of_name pn_1) hisR ?_
  intro p e s m args below meth c s₁ Bd hml0 hP hK
  obtain ⟨rfl, hZ, hh⟩ := hP
  have hx := Bd.exec
  have hby := Bd.bytes
  have hml : c.maxLocals = 2 := hml0
  have hown : s.vm.findClass "java/lang/String" = some m.cls := findClass_of_methodNamed Bd.named
  have hnm := (name_of_methodNamed Bd.named Bd.method).1
  have X0 : Stand p l e ({ frames := 1, cells := 0, slots := 0, locals := 14 } : Room) s m #[(.int i), (.int z)] below meth c s₁ [] 0 0 := Stand.of_body Bd
  have e0 : s₁.heap = h0 := by rw [← hh, Bd.state]; rfl
  have N0 := Fr.nil n0
  have K0 : Keep h0 h0 [] := Keep.refl _ _
  have pre0 : Rch p.tables e below (s₁.setTop (entryFrame m #[(.int i), (.int z)] 2)) (s₁.setTop (mkF m 0 #[.val (.int i), .val (.int z)] [])) := fun tgt ktg => castTop (ef_sci m i z) ktg
  have pre_1 : Rch p.tables e below (s₁.setTop (entryFrame m #[(.int i), (.int z)] 2)) (s₁.setTop (mkF m 2 #[.val (.int i), .val (.int z)] [(.int z), (.int i)])) := fun tgt ktg => pre0 tgt (by
    show Steps p.tables e below (s₁.setTop (mkF m 0 #[.val (.int i), .val (.int z)] [])) _
    refine XS.iloadN X0.here hx rfl (hb hby d5_0) rfl ?_
    show Steps p.tables e below (s₁.setTop (mkF m 1 #[.val (.int i), .val (.int z)] [(.int i)])) _
    refine XS.iloadN X0.here hx rfl (hb hby d5_1) rfl ?_
    exact ktg)
  obtain ⟨T_2, X_2, e_2, st_2⟩ := getS2 X0 hx hZ hown (host := "") (Or.inl (hw _ (List.mem_of_getElem? (i := 33) rfl))) Via.refl e0 S2 (g := (mkF m 2 #[.val (.int i), .val (.int z)] [(.int z), (.int i)])) rfl (hb hby d5_2)
  have pre_2 : Rch p.tables e below (s₁.setTop (entryFrame m #[(.int i), (.int z)] 2)) (T_2.setTop (mkF m 5 #[.val (.int i), .val (.int z)] [u, (.int z), (.int i)])) := fun tgt ktg => pre_1 tgt (st_2 tgt ktg)
  obtain ⟨_, _, ⟨T_3, L_3, k_3, n_3⟩, -, X_3, ⟨Lc_3, hQ_3, l_3, y_3, z_3⟩, st_3⟩ := Jvm.LawKit.callS X_2 hx (y := (⟨"jdk/internal/util/Preconditions", "checkIndex", "(IILjava/util/function/BiFunction;)I"⟩ : MethodName)) hown (mvT hZ (hw _ (List.mem_of_getElem? (i := 35) rfl))) (mvT hZ (hw _ (List.mem_of_getElem? (i := 36) rfl))) (mvT hZ (hw _ (List.mem_of_getElem? (i := 34) rfl))) (mvT hZ (hw _ (List.mem_of_getElem? (i := 37) rfl))) (by decide) (backOf (W := 0) (rmpci l Z a0 hw [] i z u h0 n0 Z0 hu hi) hZ (hw _ (List.mem_of_getElem? (i := 37) rfl)) (hw _ (List.mem_of_getElem? (i := 34) rfl)) (by decide) (by decide)) (g := (mkF m 5 #[.val (.int i), .val (.int z)] [u, (.int z), (.int i)])) rfl (by rw [hml]; rfl) (argsL := [(.int i), (.int z), u]) (rest := []) (lenOf pd_1 rfl) rfl (by show 2 * 0 + _ ≤ _; exact Nat.le_of_eq rfl) (hb hby d5_5) (fun _ _ => ⟨rfl, e_2, (by decide : 0 + 0 ≤ _), (by decide : 0 + 0 ≤ _)⟩)
  dsimp only [Pt.U, Pt.locs, Pt.cells, Pt.slots] at X_3 l_3 y_3 z_3 st_3 hQ_3
  subst l_3 y_3 z_3
  obtain ⟨rfl, Nq_3, eh_3⟩ := hQ_3
  have N_4 := Fr.app N0 Nq_3
  have pre_3 : Rch p.tables e below (s₁.setTop (entryFrame m #[(.int i), (.int z)] 2)) (T_3.setTop (mkF m 8 #[.val (.int i), .val (.int z)] [(.int i)])) := fun tgt ktg => pre_2 tgt (st_3 tgt ktg)
  have pre_5 : Rch p.tables e below (s₁.setTop (entryFrame m #[(.int i), (.int z)] 2)) (T_3.setTop (mkF m 9 #[.val (.int i), .val (.int z)] [])) := fun tgt ktg => pre_3 tgt (by
    show Steps p.tables e below (T_3.setTop (mkF m 8 #[.val (.int i), .val (.int z)] [(.int i)])) _
    refine XT.pop X_3.here hx rfl (hb hby d5_8) rfl rfl ?_
    exact ktg)
  obtain ⟨fs, hr, hrun, hended, hW, hsame⟩ := X_3.leave (v := none) (fun _ => rfl)
  refine ⟨_, _, pre_5 _ ?_, hrun, hended, _, _, rfl, ?_, ⟨_, rfl⟩, hW, hsame.mono (by decide) (by decide)⟩
  · show Steps p.tables e below (T_3.setTop (mkF m 9 #[.val (.int i), .val (.int z)] [])) _
    exact X_3.returnOut hx Bd.returns (hb hby d5_9) hr
  · show Qsci Z i z u h0 n0 _ T_3.heap _
    rw [eh_3]
    exact ⟨rfl, N_4, rfl⟩
theorem d4_0 : decode jdk_43_method_2_code 0 = .ok (.iload_n 1, 1) := by decide +kernel
theorem d4_1 : decode jdk_43_method_2_code 1 = .ok (.aload_n 0, 1) := by decide +kernel
theorem d4_2 : decode jdk_43_method_2_code 2 = .ok (.arraylength, 1) := by decide +kernel
theorem d4_3 : decode jdk_43_method_2_code 3 = .ok (.invokestatic 9, 3) := by decide +kernel
theorem pd_2 : parseMethodDescriptor "(II)V" = some ⟨[.int, .int], none⟩ := by decide +kernel
theorem d4_6 : decode jdk_43_method_2_code 6 = .ok (.aload_n 0, 1) := by decide +kernel
theorem d4_7 : decode jdk_43_method_2_code 7 = .ok (.iload_n 1, 1) := by decide +kernel
theorem d4_8 : decode jdk_43_method_2_code 8 = .ok (.baload, 1) := by decide +kernel
theorem d4_9 : decode jdk_43_method_2_code 9 = .ok (.sipush 255, 3) := by decide +kernel
theorem d4_12 : decode jdk_43_method_2_code 12 = .ok (.iand, 1) := by decide +kernel
theorem d4_13 : decode jdk_43_method_2_code 13 = .ok (.i2c, 1) := by decide +kernel
theorem d4_14 : decode jdk_43_method_2_code 14 = .ok (.ireturn, 1) := by decide +kernel
theorem ef_lch (m : MethodId) (x0 : Addr) (x1 : Int32) : entryFrame m #[(.ref x0), (.int x1)] 2 = mkF m 0 #[.val (.ref x0), .val (.int x1)] [] := by first | (simp [entryFrame, mkF, argsToLocals, Value.category]; done) | rfl
def Qlch (Z : State) (b : Addr) (i : Int32) (kb : ClassId) (z xv : Int32) (vs : List Value) (u : Value) (h0 : Heap) (n0 : Nat) (v : Option Value) (h : Heap) (L : List Loc) : Prop := v = some (.int (xv &&& 255)) ∧ Fr n0 L ∧ h = h0
set_option maxRecDepth 65536 in
set_option maxHeartbeats 40000000 in
theorem rmlch (l : Launch) (Z : State) (a0 : Array Value) (hw : ∀ d ∈ tables_1, d.before a0 Z = true) (ws : List Jvm.Cond) (b : Addr) (i : Int32) (kb : ClassId) (z xv : Int32) (vs : List Value) (u : Value) (h0 : Heap) (n0 : Nat) (Z0 : n0 ≤ h0.size) (hu : u.isRef = true) (S2 : Sta Z h0 "jdk/internal/util/Preconditions" "SIOOBE_FORMATTER" "Ljava/util/function/BiFunction;" u) (A1 : Arv Z h0 b kb .byte z vs (.int (0 : Int32))) (hi : ¬ i < 0 ∧ i < z) (hx1 : vs.getD i.toNatClampNeg (.int (0 : Int32)) = .int xv) :
    MetFree l (⟨"java/lang/StringLatin1", "charAt", "([BI)C"⟩ : MethodName) (head1 (Jvm.Cond.code (⟨"java/lang/StringLatin1", "charAt", "([BI)C"⟩ : MethodName) jdk_43_method_2_code 2 (some .char) :: ws) ({ frames := 2, cells := 0, slots := 0, locals := 28 } : Room)) (fun aA U => aA = #[(.ref b), (.int i)] ∧ Z.Warmed39 U.vm ∧ U.heap = h0) (fun _ _ _ _ _ => True) (fun _ U oO U' => ∃ vV LL, oO = .returned vV ∧ Qlch Z b i kb z xv vs u h0 n0 vV U'.heap LL ∧ FrameEnd U oO U' LL ({ frames := 2, cells := 0, slots := 0, locals := 28 } : Room).cells ({ frames := 2, cells := 0, slots := 0, locals := 28 } : Room).slots) := by
  refine MetFree.of_bodySF (plainFor_of_name pn_0) hisR ?_
  intro p e s m args below meth c s₁ Bd hml0 hP hK
  obtain ⟨rfl, hZ, hh⟩ := hP
  have hx := Bd.exec
  have hby := Bd.bytes
  have hml : c.maxLocals = 2 := hml0
  have hown : s.vm.findClass "java/lang/StringLatin1" = some m.cls := findClass_of_methodNamed Bd.named
  have hnm := (name_of_methodNamed Bd.named Bd.method).1
  have X0 : Stand p l e ({ frames := 2, cells := 0, slots := 0, locals := 28 } : Room) s m #[(.ref b), (.int i)] below meth c s₁ [] 0 0 := Stand.of_body Bd
  have e0 : s₁.heap = h0 := by rw [← hh, Bd.state]; rfl
  have N0 := Fr.nil n0
  have K0 : Keep h0 h0 [] := Keep.refl _ _
  have pre0 : Rch p.tables e below (s₁.setTop (entryFrame m #[(.ref b), (.int i)] 2)) (s₁.setTop (mkF m 0 #[.val (.ref b), .val (.int i)] [])) := fun tgt ktg => castTop (ef_lch m b i) ktg
  have pre_1 : Rch p.tables e below (s₁.setTop (entryFrame m #[(.ref b), (.int i)] 2)) (s₁.setTop (mkF m 2 #[.val (.ref b), .val (.int i)] [(.ref b), (.int i)])) := fun tgt ktg => pre0 tgt (by
    show Steps p.tables e below (s₁.setTop (mkF m 0 #[.val (.ref b), .val (.int i)] [])) _
    refine XS.iloadN X0.here hx rfl (hb hby d4_0) rfl ?_
    show Steps p.tables e below (s₁.setTop (mkF m 1 #[.val (.ref b), .val (.int i)] [(.int i)])) _
    refine XS.aloadN X0.here hx rfl (hb hby d4_1) rfl rfl ?_
    exact ktg)
  obtain ⟨cl__2, Ar__2, q__2, S__2, N__2, H__2, G__2⟩ := id A1
  have pre_3 : Rch p.tables e below (s₁.setTop (entryFrame m #[(.ref b), (.int i)] 2)) (s₁.setTop (mkF m 3 #[.val (.ref b), .val (.int i)] [(.int z), (.int i)])) := fun tgt ktg => pre_1 tgt (X0.arraylength hx (by rw [e0]; exact Ar__2.1) (State.isArrayOf_alike hZ.alike Ar__2.2.1) (g := (mkF m 2 #[.val (.ref b), .val (.int i)] [(.ref b), (.int i)])) rfl rfl (hb hby d4_2) _ (by rw [len_of S__2 N__2]; exact ktg))
  obtain ⟨_, _, ⟨T_4, L_4, k_4, n_4⟩, -, X_4, ⟨Lc_4, hQ_4, l_4, y_4, z_4⟩, st_4⟩ := Jvm.LawKit.callS X0 hx (y := (⟨"java/lang/String", "checkIndex", "(II)V"⟩ : MethodName)) hown (mvT hZ (hw _ (List.mem_of_getElem? (i := 30) rfl))) (mvT hZ (hw _ (List.mem_of_getElem? (i := 31) rfl))) (mvT hZ (hw _ (List.mem_of_getElem? (i := 5) rfl))) (mvT hZ (hw _ (List.mem_of_getElem? (i := 32) rfl))) (by decide) (backOf (W := 0) (rmsci l Z a0 hw [] i z u h0 n0 Z0 hu S2 hi) hZ (hw _ (List.mem_of_getElem? (i := 32) rfl)) (hw _ (List.mem_of_getElem? (i := 5) rfl)) (by decide) (by decide)) (g := (mkF m 3 #[.val (.ref b), .val (.int i)] [(.int z), (.int i)])) rfl (by rw [hml]; rfl) (argsL := [(.int i), (.int z)]) (rest := []) (lenOf pd_2 rfl) rfl (by show 2 * 0 + _ ≤ _; exact Nat.le_of_eq rfl) (hb hby d4_3) (fun _ _ => ⟨rfl, e0, (by decide : 0 + 0 ≤ _), (by decide : 0 + 0 ≤ _)⟩)
  dsimp only [Pt.U, Pt.locs, Pt.cells, Pt.slots] at X_4 l_4 y_4 z_4 st_4 hQ_4
  subst l_4 y_4 z_4
  obtain ⟨rfl, Nq_4, eh_4⟩ := hQ_4
  have N_5 := Fr.app N0 Nq_4
  have pre_4 : Rch p.tables e below (s₁.setTop (entryFrame m #[(.ref b), (.int i)] 2)) (T_4.setTop (mkF m 6 #[.val (.ref b), .val (.int i)] [])) := fun tgt ktg => pre_3 tgt (st_4 tgt ktg)
  have pre_6 : Rch p.tables e below (s₁.setTop (entryFrame m #[(.ref b), (.int i)] 2)) (T_4.setTop (mkF m 8 #[.val (.ref b), .val (.int i)] [(.int i), (.ref b)])) := fun tgt ktg => pre_4 tgt (by
    show Steps p.tables e below (T_4.setTop (mkF m 6 #[.val (.ref b), .val (.int i)] [])) _
    refine XS.aloadN X_4.here hx rfl (hb hby d4_6) rfl rfl ?_
    show Steps p.tables e below (T_4.setTop (mkF m 7 #[.val (.ref b), .val (.int i)] [(.ref b)])) _
    refine XS.iloadN X_4.here hx rfl (hb hby d4_7) rfl ?_
    exact ktg)
  obtain ⟨cl__7, Ar__7, q__7, S__7, N__7, H__7, G__7⟩ := id A1
  have hin__7 : ¬ (i < 0 ∨ cl__7.slots.size ≤ (i).toNatClampNeg) := inb_of S__7 hi
  have hat__7 : cl__7.slots[(i).toNatClampNeg]? = some (.int xv) := H__7.at hin__7 hx1
  have pre_8 : Rch p.tables e below (s₁.setTop (entryFrame m #[(.ref b), (.int i)] 2)) (T_4.setTop (mkF m 9 #[.val (.ref b), .val (.int i)] [(.int xv)])) := fun tgt ktg => pre_6 tgt (X_4.baloadBytes hx (j := i) (v := (.int xv)) (by rw [eh_4]; exact Ar__7.1) (State.isArrayOf_alike hZ.alike Ar__7.2.1) Ar__7.2.2 hin__7 hat__7 (g := (mkF m 8 #[.val (.ref b), .val (.int i)] [(.int i), (.ref b)])) rfl rfl (hb hby d4_8) _ ktg)
  have pre_9 : Rch p.tables e below (s₁.setTop (entryFrame m #[(.ref b), (.int i)] 2)) (T_4.setTop (mkF m 14 #[.val (.ref b), .val (.int i)] [(.int ((xv &&& (255 : Int32)).toUInt32.toUInt16.toUInt32.toInt32))])) := fun tgt ktg => pre_8 tgt (by
    show Steps p.tables e below (T_4.setTop (mkF m 9 #[.val (.ref b), .val (.int i)] [(.int xv)])) _
    refine XS.sipush X_4.here hx rfl (hb hby d4_9) ?_
    show Steps p.tables e below (T_4.setTop (mkF m 12 #[.val (.ref b), .val (.int i)] [(.int (255 : Int32)), (.int xv)])) _
    refine XS.iand X_4.here hx rfl (hb hby d4_12) rfl ?_
    show Steps p.tables e below (T_4.setTop (mkF m 13 #[.val (.ref b), .val (.int i)] [(.int (xv &&& (255 : Int32)))])) _
    refine XT.i2c X_4.here hx rfl (hb hby d4_13) rfl ?_
    exact ktg)
  obtain ⟨fs, hr, hrun, hended, hW, hsame⟩ := X_4.leave (v := some (.int (nar .char ((xv &&& (255 : Int32)).toUInt32.toUInt16.toUInt32.toInt32)))) (fun h => by rw [Bd.returns] at h; cases h)
  refine ⟨_, _, pre_9 _ ?_, hrun, hended, _, _, rfl, ?_, ⟨_, rfl⟩, hW, hsame.mono (by decide) (by decide)⟩
  · show Steps p.tables e below (T_4.setTop (mkF m 14 #[.val (.ref b), .val (.int i)] [(.int ((xv &&& (255 : Int32)).toUInt32.toUInt16.toUInt32.toInt32))])) _
    exact retN X_4 hx (t := .char) Bd.returns (by simp) (hb hby d4_14) hr
  · show Qlch Z b i kb z xv vs u h0 n0 _ T_4.heap _
    rw [eh_4]
    exact ⟨own_ch xv, N_5, rfl⟩
theorem d2_0 : decode jdk_42_method_56_code 0 = .ok (.aload_n 0, 1) := by decide +kernel
theorem d2_1 : decode jdk_42_method_56_code 1 = .ok (.invokevirtual 492, 3) := by decide +kernel
theorem pd_3 : parseMethodDescriptor "()Z" = some ⟨[], some .boolean⟩ := by decide +kernel
theorem d2_4 : decode jdk_42_method_56_code 4 = .ok (.ifCond .eq 12, 3) := by decide +kernel
theorem d2_7 : decode jdk_42_method_56_code 7 = .ok (.aload_n 0, 1) := by decide +kernel
theorem d2_8 : decode jdk_42_method_56_code 8 = .ok (.getfield 9, 3) := by decide +kernel
theorem d2_11 : decode jdk_42_method_56_code 11 = .ok (.iload_n 1, 1) := by decide +kernel
theorem d2_12 : decode jdk_42_method_56_code 12 = .ok (.invokestatic 495, 3) := by decide +kernel
theorem pd_4 : parseMethodDescriptor "([BI)C" = some ⟨[(.array .byte), .int], some .char⟩ := by decide +kernel
theorem d2_15 : decode jdk_42_method_56_code 15 = .ok (.ireturn, 1) := by decide +kernel
theorem ef_cha (m : MethodId) (x0 : Addr) (x1 : Int32) : entryFrame m #[(.ref x0), (.int x1)] 2 = mkF m 0 #[.val (.ref x0), .val (.int x1)] [] := by first | (simp [entryFrame, mkF, argsToLocals, Value.category]; done) | rfl
def Qcha (Z : State) (a : Addr) (i : Int32) (b : Addr) (kb : ClassId) (z xv : Int32) (vs : List Value) (u : Value) (h0 : Heap) (n0 : Nat) (v : Option Value) (h : Heap) (L : List Loc) : Prop := v = some (.int (xv &&& 255)) ∧ Fr n0 L ∧ h = h0
set_option maxRecDepth 65536 in
set_option maxHeartbeats 40000000 in
theorem rmcha (l : Launch) (Z : State) (a0 : Array Value) (hw : ∀ d ∈ tables_1, d.before a0 Z = true) (ws : List Jvm.Cond) (a : Addr) (i : Int32) (b : Addr) (kb : ClassId) (z xv : Int32) (vs : List Value) (u : Value) (h0 : Heap) (n0 : Nat) (Z0 : n0 ≤ h0.size) (E1 : Exa Z h0 a "java/lang/String") (F1 : Fld Z h0 a "java/lang/String" "coder" "B" (.int (0 : Int32))) (F2 : Fld Z h0 a "java/lang/String" "value" "[B" (.ref b)) (cs : Int32) (hcs : ¬ cs = 0) (S1 : Sta Z h0 "java/lang/String" "COMPACT_STRINGS" "Z" (.int cs)) (hu : u.isRef = true) (S2 : Sta Z h0 "jdk/internal/util/Preconditions" "SIOOBE_FORMATTER" "Ljava/util/function/BiFunction;" u) (A1 : Arv Z h0 b kb .byte z vs (.int (0 : Int32))) (hi : ¬ i < 0 ∧ i < z) (hx1 : vs.getD i.toNatClampNeg (.int (0 : Int32)) = .int xv) :
    MetFree l (⟨"java/lang/String", "charAt", "(I)C"⟩ : MethodName) (head1 (Jvm.Cond.code (⟨"java/lang/String", "charAt", "(I)C"⟩ : MethodName) jdk_42_method_56_code 2 (some .char) :: ws) ({ frames := 3, cells := 0, slots := 0, locals := 42 } : Room)) (fun aA U => aA = #[(.ref a), (.int i)] ∧ Z.Warmed39 U.vm ∧ U.heap = h0) (fun _ _ _ _ _ => True) (fun _ U oO U' => ∃ vV LL, oO = .returned vV ∧ Qcha Z a i b kb z xv vs u h0 n0 vV U'.heap LL ∧ FrameEnd U oO U' LL ({ frames := 3, cells := 0, slots := 0, locals := 42 } : Room).cells ({ frames := 3, cells := 0, slots := 0, locals := 42 } : Room).slots) := by
  refine MetFree.of_bodySF (plainFor_of_name pn_1) hisR ?_
  intro p e s m args below meth c s₁ Bd hml0 hP hK
  obtain ⟨rfl, hZ, hh⟩ := hP
  have hx := Bd.exec
  have hby := Bd.bytes
  have hml : c.maxLocals = 2 := hml0
  have hown : s.vm.findClass "java/lang/String" = some m.cls := findClass_of_methodNamed Bd.named
  have hnm := (name_of_methodNamed Bd.named Bd.method).1
  have X0 : Stand p l e ({ frames := 3, cells := 0, slots := 0, locals := 42 } : Room) s m #[(.ref a), (.int i)] below meth c s₁ [] 0 0 := Stand.of_body Bd
  have e0 : s₁.heap = h0 := by rw [← hh, Bd.state]; rfl
  have N0 := Fr.nil n0
  have K0 : Keep h0 h0 [] := Keep.refl _ _
  have pre0 : Rch p.tables e below (s₁.setTop (entryFrame m #[(.ref a), (.int i)] 2)) (s₁.setTop (mkF m 0 #[.val (.ref a), .val (.int i)] [])) := fun tgt ktg => castTop (ef_cha m a i) ktg
  have pre_1 : Rch p.tables e below (s₁.setTop (entryFrame m #[(.ref a), (.int i)] 2)) (s₁.setTop (mkF m 1 #[.val (.ref a), .val (.int i)] [(.ref a)])) := fun tgt ktg => pre0 tgt (by
    show Steps p.tables e below (s₁.setTop (mkF m 0 #[.val (.ref a), .val (.int i)] [])) _
    refine XS.aloadN X0.here hx rfl (hb hby d2_0) rfl rfl ?_
    exact ktg)
  obtain ⟨cq_2, kq_2, q_2a, q_2b, q_2c⟩ := isOf hZ e0 E1
  obtain ⟨_, _, ⟨T_2, L_2, k_2, n_2⟩, -, X_2, ⟨Lc_2, hQ_2, l_2, y_2, z_2⟩, st_2⟩ := X0.virtualBack hx (y := (⟨"java/lang/String", "isLatin1", "()Z"⟩ : MethodName)) (z := (⟨"java/lang/String", "isLatin1", "()Z"⟩ : MethodName)) hown (mvT hZ (hw _ (List.mem_of_getElem? (i := 18) rfl))) (mvT hZ (hw _ (List.mem_of_getElem? (i := 19) rfl))) (notFace_of_selects (args := #[]) (mvT hZ (hw _ (List.mem_of_getElem? (i := 21) rfl)))) (mvT hZ (hw _ (List.mem_of_getElem? (i := 21) rfl))) (mvT hZ (hw _ (List.mem_of_getElem? (i := 20) rfl))) (by decide) (backOf (W := 0) (rmisL l Z a0 hw [] a h0 n0 Z0 F1 cs hcs S1) hZ (hw _ (List.mem_of_getElem? (i := 22) rfl)) (hw _ (List.mem_of_getElem? (i := 5) rfl)) (by decide) (by decide)) q_2a q_2c (g := (mkF m 1 #[.val (.ref a), .val (.int i)] [(.ref a)])) rfl (by rw [hml]; rfl) (Steps.refl _) (argsL := []) (rest := []) (lenOf pd_3 rfl) rfl (by show 2 * 0 + _ ≤ _; exact Nat.le_of_eq rfl) (hb hby d2_1) (fun _ _ => ⟨rfl, e0, (by decide : 0 + 0 ≤ _), (by decide : 0 + 0 ≤ _)⟩)
  dsimp only [Pt.U, Pt.locs, Pt.cells, Pt.slots] at X_2 l_2 y_2 z_2 st_2 hQ_2
  subst l_2 y_2 z_2
  obtain ⟨rfl, Nq_2, eh_2⟩ := hQ_2
  have N_3 := Fr.app N0 Nq_2
  have pre_2 : Rch p.tables e below (s₁.setTop (entryFrame m #[(.ref a), (.int i)] 2)) (T_2.setTop (mkF m 4 #[.val (.ref a), .val (.int i)] [(.int (1 : Int32))])) := fun tgt ktg => pre_1 tgt (st_2.trans ktg)
  have pre_4 : Rch p.tables e below (s₁.setTop (entryFrame m #[(.ref a), (.int i)] 2)) (T_2.setTop (mkF m 8 #[.val (.ref a), .val (.int i)] [(.ref a)])) := fun tgt ktg => pre_2 tgt (by
    show Steps p.tables e below (T_2.setTop (mkF m 4 #[.val (.ref a), .val (.int i)] [(.int (1 : Int32))])) _
    refine XS.ifNo X_2.here hx rfl (hb hby d2_4) rfl ((if0 _ _).trans (feq (by decide : ¬ ((1 : Int32) = (0 : Int32)))).1) ?_
    show Steps p.tables e below (T_2.setTop (mkF m 7 #[.val (.ref a), .val (.int i)] [])) _
    refine XS.aloadN X_2.here hx rfl (hb hby d2_7) rfl rfl ?_
    exact ktg)
  obtain ⟨T_5, X_5, e_5, st_5⟩ := getF X_2 hx hZ hown (host := "") (Or.inl (hw _ (List.mem_of_getElem? (i := 25) rfl))) Via.refl eh_2 F2 (g := (mkF m 8 #[.val (.ref a), .val (.int i)] [(.ref a)])) rfl rfl (hb hby d2_8)
  have pre_5 : Rch p.tables e below (s₁.setTop (entryFrame m #[(.ref a), (.int i)] 2)) (T_5.setTop (mkF m 11 #[.val (.ref a), .val (.int i)] [(.ref b)])) := fun tgt ktg => pre_4 tgt (st_5 tgt ktg)
  have pre_6 : Rch p.tables e below (s₁.setTop (entryFrame m #[(.ref a), (.int i)] 2)) (T_5.setTop (mkF m 12 #[.val (.ref a), .val (.int i)] [(.int i), (.ref b)])) := fun tgt ktg => pre_5 tgt (by
    show Steps p.tables e below (T_5.setTop (mkF m 11 #[.val (.ref a), .val (.int i)] [(.ref b)])) _
    refine XS.iloadN X_5.here hx rfl (hb hby d2_11) rfl ?_
    exact ktg)
  obtain ⟨_, _, ⟨T_7, L_7, k_7, n_7⟩, -, X_7, ⟨Lc_7, hQ_7, l_7, y_7, z_7⟩, st_7⟩ := Jvm.LawKit.callS X_5 hx (y := (⟨"java/lang/StringLatin1", "charAt", "([BI)C"⟩ : MethodName)) hown (mvT hZ (hw _ (List.mem_of_getElem? (i := 26) rfl))) (mvT hZ (hw _ (List.mem_of_getElem? (i := 27) rfl))) (mvT hZ (hw _ (List.mem_of_getElem? (i := 28) rfl))) (mvT hZ (hw _ (List.mem_of_getElem? (i := 29) rfl))) (by decide) (backOf (W := 0) (rmlch l Z a0 hw [] b i kb z xv vs u h0 n0 Z0 hu S2 A1 hi hx1) hZ (hw _ (List.mem_of_getElem? (i := 29) rfl)) (hw _ (List.mem_of_getElem? (i := 28) rfl)) (by decide) (by decide)) (g := (mkF m 12 #[.val (.ref a), .val (.int i)] [(.int i), (.ref b)])) rfl (by rw [hml]; rfl) (argsL := [(.ref b), (.int i)]) (rest := []) (lenOf pd_4 rfl) rfl (by show 2 * 0 + _ ≤ _; exact Nat.le_of_eq rfl) (hb hby d2_12) (fun _ _ => ⟨rfl, e_5, (by decide : 0 + 0 ≤ _), (by decide : 0 + 0 ≤ _)⟩)
  dsimp only [Pt.U, Pt.locs, Pt.cells, Pt.slots] at X_7 l_7 y_7 z_7 st_7 hQ_7
  subst l_7 y_7 z_7
  obtain ⟨rfl, Nq_7, eh_7⟩ := hQ_7
  have N_8 := Fr.app N_3 Nq_7
  have pre_7 : Rch p.tables e below (s₁.setTop (entryFrame m #[(.ref a), (.int i)] 2)) (T_7.setTop (mkF m 15 #[.val (.ref a), .val (.int i)] [(.int (xv &&& 255))])) := fun tgt ktg => pre_6 tgt (st_7 tgt ktg)
  obtain ⟨fs, hr, hrun, hended, hW, hsame⟩ := X_7.leave (v := some (.int (nar .char (xv &&& 255)))) (fun h => by rw [Bd.returns] at h; cases h)
  refine ⟨_, _, pre_7 _ ?_, hrun, hended, _, _, rfl, ?_, ⟨_, rfl⟩, hW, hsame.mono (by decide) (by decide)⟩
  · show Steps p.tables e below (T_7.setTop (mkF m 15 #[.val (.ref a), .val (.int i)] [(.int (xv &&& 255))])) _
    exact retN X_7 hx (t := .char) Bd.returns (by simp) (hb hby d2_15) hr
  · show Qcha Z a i b kb z xv vs u h0 n0 _ T_7.heap _
    rw [eh_7]
    exact ⟨own_ch2 xv, N_8, rfl⟩
theorem d18_0 : decode jdk_42_method_84_code 0 = .ok (.aload_n 0, 1) := by decide +kernel
theorem d18_1 : decode jdk_42_method_84_code 1 = .ok (.invokevirtual 335, 3) := by decide +kernel
theorem pd_5 : parseMethodDescriptor "()B" = some ⟨[], some .byte⟩ := by decide +kernel
theorem d18_4 : decode jdk_42_method_84_code 4 = .ok (.istore_n 2, 1) := by decide +kernel
theorem d18_5 : decode jdk_42_method_84_code 5 = .ok (.iload_n 2, 1) := by decide +kernel
theorem d18_6 : decode jdk_42_method_84_code 6 = .ok (.aload_n 1, 1) := by decide +kernel
theorem d18_7 : decode jdk_42_method_84_code 7 = .ok (.invokevirtual 335, 3) := by decide +kernel
theorem d18_10 : decode jdk_42_method_84_code 10 = .ok (.if_icmp .ne 36, 3) := by decide +kernel
theorem d18_13 : decode jdk_42_method_84_code 13 = .ok (.aload_n 0, 1) := by decide +kernel
theorem d18_14 : decode jdk_42_method_84_code 14 = .ok (.invokevirtual 492, 3) := by decide +kernel
theorem d18_17 : decode jdk_42_method_84_code 17 = .ok (.ifCond .eq 17, 3) := by decide +kernel
theorem d18_20 : decode jdk_42_method_84_code 20 = .ok (.aload_n 0, 1) := by decide +kernel
theorem d18_21 : decode jdk_42_method_84_code 21 = .ok (.getfield 9, 3) := by decide +kernel
theorem d18_24 : decode jdk_42_method_84_code 24 = .ok (.aload_n 1, 1) := by decide +kernel
theorem d18_25 : decode jdk_42_method_84_code 25 = .ok (.getfield 9, 3) := by decide +kernel
theorem d18_28 : decode jdk_42_method_84_code 28 = .ok (.invokestatic 647, 3) := by decide +kernel
theorem pd_6 : parseMethodDescriptor "([B[B)I" = some ⟨[(.array .byte), (.array .byte)], some .int⟩ := by decide +kernel
theorem d18_31 : decode jdk_42_method_84_code 31 = .ok (.goto 14, 3) := by decide +kernel
theorem d18_45 : decode jdk_42_method_84_code 45 = .ok (.ireturn, 1) := by decide +kernel
theorem ef_is (m : MethodId) (x0 : Addr) (x1 : Addr) : entryFrame m #[(.ref x0), (.ref x1)] 3 = mkF m 0 #[.val (.ref x0), .val (.ref x1), .unset] [] := by first | (simp [entryFrame, mkF, argsToLocals, Value.category]; done) | rfl
def Qis (Z : State) (a : Addr) (y : Addr) (b t : Addr) (z : Nat) (bs ts : List Int32) (kb kt : ClassId) (h0 : Heap) (n0 : Nat) (v : Option Value) (h : Heap) (L : List Loc) : Prop := ∃ r : Int32, v = some (.int r) ∧ Fr n0 L ∧ h = h0 ∧ ((¬ r < 0 ∧ Has bs ts) ∨ (r < 0 ∧ ¬ Has bs ts))
set_option maxRecDepth 65536 in
set_option maxHeartbeats 40000000 in
theorem rmis (l : Launch) (Z : State) (a0 : Array Value) (hw : ∀ d ∈ tables_1, d.before a0 Z = true) (ws : List Jvm.Cond) (a : Addr) (y : Addr) (b t : Addr) (z : Nat) (bs ts : List Int32) (kb kt : ClassId) (h0 : Heap) (n0 : Nat) (Z0 : n0 ≤ h0.size) (E1 : Exa Z h0 a "java/lang/String") (F1a : Fld Z h0 a "java/lang/String" "coder" "B" (.int (0 : Int32))) (F1b : Fld Z h0 a "java/lang/String" "value" "[B" (.ref b)) (A1 : Arv Z h0 b kb .byte (38 : Int32) (bs.map Value.int) (.int (0 : Int32))) (E2 : Exa Z h0 y "java/lang/String") (F2a : Fld Z h0 y "java/lang/String" "coder" "B" (.int (0 : Int32))) (F2b : Fld Z h0 y "java/lang/String" "value" "[B" (.ref t)) (A2 : Arv Z h0 t kt .byte (Int32.ofNat z) (ts.map Value.int) (.int (0 : Int32))) (hz : z ≤ 38) (hts : ts.length = z) (hbl : bs.length = 38) (cs : Int32) (hcs : ¬ cs = 0) (S1 : Sta Z h0 "java/lang/String" "COMPACT_STRINGS" "Z" (.int cs)) :
    MetFree l (⟨"java/lang/String", "indexOf", "(Ljava/lang/String;)I"⟩ : MethodName) (head1 (Jvm.Cond.code (⟨"java/lang/String", "indexOf", "(Ljava/lang/String;)I"⟩ : MethodName) jdk_42_method_84_code 3 (some .int) :: ws) ({ frames := 2, cells := 0, slots := 0, locals := 35 } : Room)) (fun aA U => aA = #[(.ref a), (.ref y)] ∧ Z.Warmed39 U.vm ∧ U.heap = h0) (fun _ _ _ _ _ => True) (fun _ U oO U' => ∃ vV LL, oO = .returned vV ∧ Qis Z a y b t z bs ts kb kt h0 n0 vV U'.heap LL ∧ FrameEnd U oO U' LL ({ frames := 2, cells := 0, slots := 0, locals := 35 } : Room).cells ({ frames := 2, cells := 0, slots := 0, locals := 35 } : Room).slots) := by
  refine MetFree.of_bodySF (plainFor_of_name pn_1) hisR ?_
  intro p e s m args below meth c s₁ Bd hml0 hP hK
  obtain ⟨rfl, hZ, hh⟩ := hP
  have hx := Bd.exec
  have hby := Bd.bytes
  have hml : c.maxLocals = 3 := hml0
  have hown : s.vm.findClass "java/lang/String" = some m.cls := findClass_of_methodNamed Bd.named
  have hnm := (name_of_methodNamed Bd.named Bd.method).1
  have X0 : Stand p l e ({ frames := 2, cells := 0, slots := 0, locals := 35 } : Room) s m #[(.ref a), (.ref y)] below meth c s₁ [] 0 0 := Stand.of_body Bd
  have e0 : s₁.heap = h0 := by rw [← hh, Bd.state]; rfl
  have N0 := Fr.nil n0
  have K0 : Keep h0 h0 [] := Keep.refl _ _
  have pre0 : Rch p.tables e below (s₁.setTop (entryFrame m #[(.ref a), (.ref y)] 3)) (s₁.setTop (mkF m 0 #[.val (.ref a), .val (.ref y), .unset] [])) := fun tgt ktg => castTop (ef_is m a y) ktg
  have pre_1 : Rch p.tables e below (s₁.setTop (entryFrame m #[(.ref a), (.ref y)] 3)) (s₁.setTop (mkF m 1 #[.val (.ref a), .val (.ref y), .unset] [(.ref a)])) := fun tgt ktg => pre0 tgt (by
    show Steps p.tables e below (s₁.setTop (mkF m 0 #[.val (.ref a), .val (.ref y), .unset] [])) _
    refine XS.aloadN X0.here hx rfl (hb hby d18_0) rfl rfl ?_
    exact ktg)
  obtain ⟨cq_2, kq_2, q_2a, q_2b, q_2c⟩ := isOf hZ e0 E1
  obtain ⟨_, _, ⟨T_2, L_2, k_2, n_2⟩, -, X_2, ⟨Lc_2, hQ_2, l_2, y_2, z_2⟩, st_2⟩ := X0.virtualBack hx (y := (⟨"java/lang/String", "coder", "()B"⟩ : MethodName)) (z := (⟨"java/lang/String", "coder", "()B"⟩ : MethodName)) hown (mvT hZ (hw _ (List.mem_of_getElem? (i := 102) rfl))) (mvT hZ (hw _ (List.mem_of_getElem? (i := 103) rfl))) (notFace_of_selects (args := #[]) (mvT hZ (hw _ (List.mem_of_getElem? (i := 105) rfl)))) (mvT hZ (hw _ (List.mem_of_getElem? (i := 105) rfl))) (mvT hZ (hw _ (List.mem_of_getElem? (i := 104) rfl))) (by decide) (backOf (W := 0) (rmcod l Z a0 hw [] a h0 n0 Z0 F1a cs hcs S1) hZ (hw _ (List.mem_of_getElem? (i := 106) rfl)) (hw _ (List.mem_of_getElem? (i := 5) rfl)) (by decide) (by decide)) q_2a q_2c (g := (mkF m 1 #[.val (.ref a), .val (.ref y), .unset] [(.ref a)])) rfl (by rw [hml]; rfl) (Steps.refl _) (argsL := []) (rest := []) (lenOf pd_5 rfl) rfl (by show 2 * 0 + _ ≤ _; exact Nat.le_of_eq rfl) (hb hby d18_1) (fun _ _ => ⟨rfl, e0, (by decide : 0 + 0 ≤ _), (by decide : 0 + 0 ≤ _)⟩)
  dsimp only [Pt.U, Pt.locs, Pt.cells, Pt.slots] at X_2 l_2 y_2 z_2 st_2 hQ_2
  subst l_2 y_2 z_2
  obtain ⟨rfl, Nq_2, eh_2⟩ := hQ_2
  have N_3 := Fr.app N0 Nq_2
  have pre_2 : Rch p.tables e below (s₁.setTop (entryFrame m #[(.ref a), (.ref y)] 3)) (T_2.setTop (mkF m 4 #[.val (.ref a), .val (.ref y), .unset] [(.int (0 : Int32))])) := fun tgt ktg => pre_1 tgt (st_2.trans ktg)
  have pre_4 : Rch p.tables e below (s₁.setTop (entryFrame m #[(.ref a), (.ref y)] 3)) (T_2.setTop (mkF m 7 #[.val (.ref a), .val (.ref y), .val (.int (0 : Int32))] [(.ref y), (.int (0 : Int32))])) := fun tgt ktg => pre_2 tgt (by
    show Steps p.tables e below (T_2.setTop (mkF m 4 #[.val (.ref a), .val (.ref y), .unset] [(.int (0 : Int32))])) _
    refine XS.istoreN X_2.here hx rfl (hb hby d18_4) rfl (l' := #[.val (.ref a), .val (.ref y), .val (.int (0 : Int32))]) rfl ?_
    show Steps p.tables e below (T_2.setTop (mkF m 5 #[.val (.ref a), .val (.ref y), .val (.int (0 : Int32))] [])) _
    refine XS.iloadN X_2.here hx rfl (hb hby d18_5) rfl ?_
    show Steps p.tables e below (T_2.setTop (mkF m 6 #[.val (.ref a), .val (.ref y), .val (.int (0 : Int32))] [(.int (0 : Int32))])) _
    refine XS.aloadN X_2.here hx rfl (hb hby d18_6) rfl rfl ?_
    exact ktg)
  obtain ⟨cq_5, kq_5, q_5a, q_5b, q_5c⟩ := isOf hZ eh_2 E2
  obtain ⟨_, _, ⟨T_5, L_5, k_5, n_5⟩, -, X_5, ⟨Lc_5, hQ_5, l_5, y_5, z_5⟩, st_5⟩ := X_2.virtualBack hx (y := (⟨"java/lang/String", "coder", "()B"⟩ : MethodName)) (z := (⟨"java/lang/String", "coder", "()B"⟩ : MethodName)) hown (mvT hZ (hw _ (List.mem_of_getElem? (i := 102) rfl))) (mvT hZ (hw _ (List.mem_of_getElem? (i := 103) rfl))) (notFace_of_selects (args := #[]) (mvT hZ (hw _ (List.mem_of_getElem? (i := 105) rfl)))) (mvT hZ (hw _ (List.mem_of_getElem? (i := 105) rfl))) (mvT hZ (hw _ (List.mem_of_getElem? (i := 104) rfl))) (by decide) (backOf (W := 1) (rmcod l Z a0 hw [] y h0 n0 Z0 F2a cs hcs S1) hZ (hw _ (List.mem_of_getElem? (i := 106) rfl)) (hw _ (List.mem_of_getElem? (i := 5) rfl)) (by decide) (by decide)) q_5a q_5c (g := (mkF m 7 #[.val (.ref a), .val (.ref y), .val (.int (0 : Int32))] [(.ref y), (.int (0 : Int32))])) rfl (by rw [hml]; rfl) (Steps.refl _) (argsL := []) (rest := [(.int (0 : Int32))]) (lenOf pd_5 rfl) rfl (by show 2 * 0 + _ ≤ _; exact Nat.le_of_eq rfl) (hb hby d18_7) (fun _ _ => ⟨rfl, eh_2, (by decide : 0 + 0 ≤ _), (by decide : 0 + 0 ≤ _)⟩)
  dsimp only [Pt.U, Pt.locs, Pt.cells, Pt.slots] at X_5 l_5 y_5 z_5 st_5 hQ_5
  subst l_5 y_5 z_5
  obtain ⟨rfl, Nq_5, eh_5⟩ := hQ_5
  have N_6 := Fr.app N_3 Nq_5
  have pre_5 : Rch p.tables e below (s₁.setTop (entryFrame m #[(.ref a), (.ref y)] 3)) (T_5.setTop (mkF m 10 #[.val (.ref a), .val (.ref y), .val (.int (0 : Int32))] [(.int (0 : Int32)), (.int (0 : Int32))])) := fun tgt ktg => pre_4 tgt (st_5.trans ktg)
  have pre_7 : Rch p.tables e below (s₁.setTop (entryFrame m #[(.ref a), (.ref y)] 3)) (T_5.setTop (mkF m 14 #[.val (.ref a), .val (.ref y), .val (.int (0 : Int32))] [(.ref a)])) := fun tgt ktg => pre_5 tgt (by
    show Steps p.tables e below (T_5.setTop (mkF m 10 #[.val (.ref a), .val (.ref y), .val (.int (0 : Int32))] [(.int (0 : Int32)), (.int (0 : Int32))])) _
    refine XS.icmpNo X_5.here hx rfl (hb hby d18_10) rfl (teq (rfl : (0 : Int32) = (0 : Int32))).2 ?_
    show Steps p.tables e below (T_5.setTop (mkF m 13 #[.val (.ref a), .val (.ref y), .val (.int (0 : Int32))] [])) _
    refine XS.aloadN X_5.here hx rfl (hb hby d18_13) rfl rfl ?_
    exact ktg)
  obtain ⟨cq_8, kq_8, q_8a, q_8b, q_8c⟩ := isOf hZ eh_5 E1
  obtain ⟨_, _, ⟨T_8, L_8, k_8, n_8⟩, -, X_8, ⟨Lc_8, hQ_8, l_8, y_8, z_8⟩, st_8⟩ := X_5.virtualBack hx (y := (⟨"java/lang/String", "isLatin1", "()Z"⟩ : MethodName)) (z := (⟨"java/lang/String", "isLatin1", "()Z"⟩ : MethodName)) hown (mvT hZ (hw _ (List.mem_of_getElem? (i := 18) rfl))) (mvT hZ (hw _ (List.mem_of_getElem? (i := 19) rfl))) (notFace_of_selects (args := #[]) (mvT hZ (hw _ (List.mem_of_getElem? (i := 21) rfl)))) (mvT hZ (hw _ (List.mem_of_getElem? (i := 21) rfl))) (mvT hZ (hw _ (List.mem_of_getElem? (i := 20) rfl))) (by decide) (backOf (W := 0) (rmisL l Z a0 hw [] a h0 n0 Z0 F1a cs hcs S1) hZ (hw _ (List.mem_of_getElem? (i := 22) rfl)) (hw _ (List.mem_of_getElem? (i := 5) rfl)) (by decide) (by decide)) q_8a q_8c (g := (mkF m 14 #[.val (.ref a), .val (.ref y), .val (.int (0 : Int32))] [(.ref a)])) rfl (by rw [hml]; rfl) (Steps.refl _) (argsL := []) (rest := []) (lenOf pd_3 rfl) rfl (by show 2 * 0 + _ ≤ _; exact Nat.le_of_eq rfl) (hb hby d18_14) (fun _ _ => ⟨rfl, eh_5, (by decide : 0 + 0 ≤ _), (by decide : 0 + 0 ≤ _)⟩)
  dsimp only [Pt.U, Pt.locs, Pt.cells, Pt.slots] at X_8 l_8 y_8 z_8 st_8 hQ_8
  subst l_8 y_8 z_8
  obtain ⟨rfl, Nq_8, eh_8⟩ := hQ_8
  have N_9 := Fr.app N_6 Nq_8
  have pre_8 : Rch p.tables e below (s₁.setTop (entryFrame m #[(.ref a), (.ref y)] 3)) (T_8.setTop (mkF m 17 #[.val (.ref a), .val (.ref y), .val (.int (0 : Int32))] [(.int (1 : Int32))])) := fun tgt ktg => pre_7 tgt (st_8.trans ktg)
  have pre_10 : Rch p.tables e below (s₁.setTop (entryFrame m #[(.ref a), (.ref y)] 3)) (T_8.setTop (mkF m 21 #[.val (.ref a), .val (.ref y), .val (.int (0 : Int32))] [(.ref a)])) := fun tgt ktg => pre_8 tgt (by
    show Steps p.tables e below (T_8.setTop (mkF m 17 #[.val (.ref a), .val (.ref y), .val (.int (0 : Int32))] [(.int (1 : Int32))])) _
    refine XS.ifNo X_8.here hx rfl (hb hby d18_17) rfl ((if0 _ _).trans (feq (by decide : ¬ ((1 : Int32) = (0 : Int32)))).1) ?_
    show Steps p.tables e below (T_8.setTop (mkF m 20 #[.val (.ref a), .val (.ref y), .val (.int (0 : Int32))] [])) _
    refine XS.aloadN X_8.here hx rfl (hb hby d18_20) rfl rfl ?_
    exact ktg)
  obtain ⟨T_11, X_11, e_11, st_11⟩ := getF X_8 hx hZ hown (host := "") (Or.inl (hw _ (List.mem_of_getElem? (i := 25) rfl))) Via.refl eh_8 F1b (g := (mkF m 21 #[.val (.ref a), .val (.ref y), .val (.int (0 : Int32))] [(.ref a)])) rfl rfl (hb hby d18_21)
  have pre_11 : Rch p.tables e below (s₁.setTop (entryFrame m #[(.ref a), (.ref y)] 3)) (T_11.setTop (mkF m 24 #[.val (.ref a), .val (.ref y), .val (.int (0 : Int32))] [(.ref b)])) := fun tgt ktg => pre_10 tgt (st_11 tgt ktg)
  have pre_12 : Rch p.tables e below (s₁.setTop (entryFrame m #[(.ref a), (.ref y)] 3)) (T_11.setTop (mkF m 25 #[.val (.ref a), .val (.ref y), .val (.int (0 : Int32))] [(.ref y), (.ref b)])) := fun tgt ktg => pre_11 tgt (by
    show Steps p.tables e below (T_11.setTop (mkF m 24 #[.val (.ref a), .val (.ref y), .val (.int (0 : Int32))] [(.ref b)])) _
    refine XS.aloadN X_11.here hx rfl (hb hby d18_24) rfl rfl ?_
    exact ktg)
  obtain ⟨T_13, X_13, e_13, st_13⟩ := getF X_11 hx hZ hown (host := "") (Or.inl (hw _ (List.mem_of_getElem? (i := 25) rfl))) Via.refl e_11 F2b (g := (mkF m 25 #[.val (.ref a), .val (.ref y), .val (.int (0 : Int32))] [(.ref y), (.ref b)])) rfl rfl (hb hby d18_25)
  have pre_13 : Rch p.tables e below (s₁.setTop (entryFrame m #[(.ref a), (.ref y)] 3)) (T_13.setTop (mkF m 28 #[.val (.ref a), .val (.ref y), .val (.int (0 : Int32))] [(.ref t), (.ref b)])) := fun tgt ktg => pre_12 tgt (st_13 tgt ktg)
  obtain ⟨_, _, ⟨T_14, L_14, k_14, n_14⟩, -, X_14, ⟨Lc_14, hQ_14, l_14, y_14, z_14⟩, st_14⟩ := Jvm.LawKit.callS X_13 hx (y := (⟨"java/lang/StringLatin1", "indexOf", "([B[B)I"⟩ : MethodName)) hown (mvT hZ (hw _ (List.mem_of_getElem? (i := 107) rfl))) (mvT hZ (hw _ (List.mem_of_getElem? (i := 108) rfl))) (mvT hZ (hw _ (List.mem_of_getElem? (i := 28) rfl))) (mvT hZ (hw _ (List.mem_of_getElem? (i := 109) rfl))) (by decide) (backOf (W := 0) (rmib l Z a0 hw [] b t z bs ts kb kt h0 n0 Z0 A1 A2 hz hts hbl) hZ (hw _ (List.mem_of_getElem? (i := 109) rfl)) (hw _ (List.mem_of_getElem? (i := 28) rfl)) (by decide) (by decide)) (g := (mkF m 28 #[.val (.ref a), .val (.ref y), .val (.int (0 : Int32))] [(.ref t), (.ref b)])) rfl (by rw [hml]; rfl) (argsL := [(.ref b), (.ref t)]) (rest := []) (lenOf pd_6 rfl) rfl (by show 2 * 0 + _ ≤ _; exact Nat.le_of_eq rfl) (hb hby d18_28) (fun _ _ => ⟨rfl, e_13, (by decide : 0 + 0 ≤ _), (by decide : 0 + 0 ≤ _)⟩)
  dsimp only [Pt.U, Pt.locs, Pt.cells, Pt.slots] at X_14 l_14 y_14 z_14 st_14 hQ_14
  subst l_14 y_14 z_14
  obtain ⟨r, rfl, Nq_14, eh_14, hR⟩ := hQ_14
  have N_15 := Fr.app N_9 Nq_14
  have pre_14 : Rch p.tables e below (s₁.setTop (entryFrame m #[(.ref a), (.ref y)] 3)) (T_14.setTop (mkF m 31 #[.val (.ref a), .val (.ref y), .val (.int (0 : Int32))] [(.int r)])) := fun tgt ktg => pre_13 tgt (st_14 tgt ktg)
  have pre_16 : Rch p.tables e below (s₁.setTop (entryFrame m #[(.ref a), (.ref y)] 3)) (T_14.setTop (mkF m 45 #[.val (.ref a), .val (.ref y), .val (.int (0 : Int32))] [(.int r)])) := fun tgt ktg => pre_14 tgt (by
    show Steps p.tables e below (T_14.setTop (mkF m 31 #[.val (.ref a), .val (.ref y), .val (.int (0 : Int32))] [(.int r)])) _
    refine XS.goto X_14.here hx rfl (pc0 := 31) (pc' := 45) rfl (hb hby d18_31) (by decide) (by decide) ?_
    exact ktg)
  obtain ⟨fs, hr, hrun, hended, hW, hsame⟩ := X_14.leave (v := some (.int r)) (fun h => by rw [Bd.returns] at h; cases h)
  refine ⟨_, _, pre_16 _ ?_, hrun, hended, _, _, rfl, ?_, ⟨_, rfl⟩, hW, hsame.mono (by decide) (by decide)⟩
  · show Steps p.tables e below (T_14.setTop (mkF m 45 #[.val (.ref a), .val (.ref y), .val (.int (0 : Int32))] [(.int r)])) _
    exact retI X_14 hx Bd.returns (hb hby d18_45) hr
  · show Qis Z a y b t z bs ts kb kt h0 n0 _ T_14.heap _
    rw [eh_14]
    exact ⟨r, rfl, N_15, rfl, hR⟩
theorem d17_0 : decode jdk_42_method_126_code 0 = .ok (.aload_n 0, 1) := by decide +kernel
theorem d17_1 : decode jdk_42_method_126_code 1 = .ok (.areturn, 1) := by decide +kernel
theorem ef_ts (m : MethodId) (x0 : Addr) : entryFrame m #[(.ref x0)] 1 = mkF m 0 #[.val (.ref x0)] [] := by first | (simp [entryFrame, mkF, argsToLocals, Value.category]; done) | rfl
def Qts (Z : State) (a : Addr) (h0 : Heap) (n0 : Nat) (v : Option Value) (h : Heap) (L : List Loc) : Prop := v = some (.ref a) ∧ Fr n0 L ∧ h = h0
set_option maxRecDepth 65536 in
set_option maxHeartbeats 40000000 in
theorem rmts (l : Launch) (Z : State) (a0 : Array Value) (hw : ∀ d ∈ tables_1, d.before a0 Z = true) (ws : List Jvm.Cond) (a : Addr) (h0 : Heap) (n0 : Nat) (Z0 : n0 ≤ h0.size)  :
    MetFree l (⟨"java/lang/String", "toString", "()Ljava/lang/String;"⟩ : MethodName) (head1 (Jvm.Cond.code (⟨"java/lang/String", "toString", "()Ljava/lang/String;"⟩ : MethodName) jdk_42_method_126_code 1 (some (.object "java/lang/String")) :: ws) ({ frames := 0, cells := 0, slots := 0, locals := 0 } : Room)) (fun aA U => aA = #[(.ref a)] ∧ Z.Warmed39 U.vm ∧ U.heap = h0) (fun _ _ _ _ _ => True) (fun _ U oO U' => ∃ vV LL, oO = .returned vV ∧ Qts Z a h0 n0 vV U'.heap LL ∧ FrameEnd U oO U' LL ({ frames := 0, cells := 0, slots := 0, locals := 0 } : Room).cells ({ frames := 0, cells := 0, slots := 0, locals := 0 } : Room).slots) := by
  refine MetFree.of_bodySF (plainFor_of_name pn_1) hisR ?_
  intro p e s m args below meth c s₁ Bd hml0 hP hK
  obtain ⟨rfl, hZ, hh⟩ := hP
  have hx := Bd.exec
  have hby := Bd.bytes
  have hml : c.maxLocals = 1 := hml0
  have hown : s.vm.findClass "java/lang/String" = some m.cls := findClass_of_methodNamed Bd.named
  have hnm := (name_of_methodNamed Bd.named Bd.method).1
  have X0 : Stand p l e ({ frames := 0, cells := 0, slots := 0, locals := 0 } : Room) s m #[(.ref a)] below meth c s₁ [] 0 0 := Stand.of_body Bd
  have e0 : s₁.heap = h0 := by rw [← hh, Bd.state]; rfl
  have N0 := Fr.nil n0
  have K0 : Keep h0 h0 [] := Keep.refl _ _
  have pre0 : Rch p.tables e below (s₁.setTop (entryFrame m #[(.ref a)] 1)) (s₁.setTop (mkF m 0 #[.val (.ref a)] [])) := fun tgt ktg => castTop (ef_ts m a) ktg
  have pre_1 : Rch p.tables e below (s₁.setTop (entryFrame m #[(.ref a)] 1)) (s₁.setTop (mkF m 1 #[.val (.ref a)] [(.ref a)])) := fun tgt ktg => pre0 tgt (by
    show Steps p.tables e below (s₁.setTop (mkF m 0 #[.val (.ref a)] [])) _
    refine XS.aloadN X0.here hx rfl (hb hby d17_0) rfl rfl ?_
    exact ktg)
  obtain ⟨fs, hr, hrun, hended, hW, hsame⟩ := X0.leave (v := some (.ref a)) (fun h => by rw [Bd.returns] at h; cases h)
  refine ⟨_, _, pre_1 _ ?_, hrun, hended, _, _, rfl, ?_, ⟨_, rfl⟩, hW, hsame.mono (by decide) (by decide)⟩
  · show Steps p.tables e below (s₁.setTop (mkF m 1 #[.val (.ref a)] [(.ref a)])) _
    jvm_step X0.here [X0.here.top, hx, (hb hby d17_1), X0.method', Bd.returns, Value.isRef, FieldType.isReference]
    first | (intro acts; rw [hr _ acts rfl rfl rfl]) | rw [hr _ _ rfl rfl rfl]
    exact Steps.refl _
  · show Qts Z a h0 n0 _ s₁.heap _
    rw [e0]
    exact ⟨rfl, N0, rfl⟩
theorem d16_0 : decode jdk_42_method_97_code 0 = .ok (.aload_n 0, 1) := by decide +kernel
theorem d16_1 : decode jdk_42_method_97_code 1 = .ok (.aload_n 1, 1) := by decide +kernel
theorem d16_2 : decode jdk_42_method_97_code 2 = .ok (.invokeinterface 710 1, 5) := by decide +kernel
theorem pd_7 : parseMethodDescriptor "()Ljava/lang/String;" = some ⟨[], some (.object "java/lang/String")⟩ := by decide +kernel
theorem d16_7 : decode jdk_42_method_97_code 7 = .ok (.invokevirtual 711, 3) := by decide +kernel
theorem pd_8 : parseMethodDescriptor "(Ljava/lang/String;)I" = some ⟨[(.object "java/lang/String")], some .int⟩ := by decide +kernel
theorem d16_10 : decode jdk_42_method_97_code 10 = .ok (.ifCond .lt 7, 3) := by decide +kernel
theorem d16_17 : decode jdk_42_method_97_code 17 = .ok (.iconst 0, 1) := by decide +kernel
theorem d16_18 : decode jdk_42_method_97_code 18 = .ok (.ireturn, 1) := by decide +kernel
theorem d16_13 : decode jdk_42_method_97_code 13 = .ok (.iconst 1, 1) := by decide +kernel
theorem d16_14 : decode jdk_42_method_97_code 14 = .ok (.goto 4, 3) := by decide +kernel
theorem ef_ct (m : MethodId) (x0 : Addr) (x1 : Addr) : entryFrame m #[(.ref x0), (.ref x1)] 2 = mkF m 0 #[.val (.ref x0), .val (.ref x1)] [] := by first | (simp [entryFrame, mkF, argsToLocals, Value.category]; done) | rfl
def Qct (Z : State) (a : Addr) (y : Addr) (b t : Addr) (z : Nat) (bs ts : List Int32) (kb kt : ClassId) (h0 : Heap) (n0 : Nat) (v : Option Value) (h : Heap) (L : List Loc) : Prop := ∃ r : Int32, v = some (.int r) ∧ Fr n0 L ∧ h = h0 ∧ ((r = 1 ∧ Has bs ts) ∨ (r = 0 ∧ ¬ Has bs ts))
set_option maxRecDepth 65536 in
set_option maxHeartbeats 40000000 in
theorem rmct (l : Launch) (Z : State) (a0 : Array Value) (hw : ∀ d ∈ tables_1, d.before a0 Z = true) (ws : List Jvm.Cond) (a : Addr) (y : Addr) (b t : Addr) (z : Nat) (bs ts : List Int32) (kb kt : ClassId) (h0 : Heap) (n0 : Nat) (Z0 : n0 ≤ h0.size) (E1 : Exa Z h0 a "java/lang/String") (F1a : Fld Z h0 a "java/lang/String" "coder" "B" (.int (0 : Int32))) (F1b : Fld Z h0 a "java/lang/String" "value" "[B" (.ref b)) (A1 : Arv Z h0 b kb .byte (38 : Int32) (bs.map Value.int) (.int (0 : Int32))) (E2 : Exa Z h0 y "java/lang/String") (F2a : Fld Z h0 y "java/lang/String" "coder" "B" (.int (0 : Int32))) (F2b : Fld Z h0 y "java/lang/String" "value" "[B" (.ref t)) (A2 : Arv Z h0 t kt .byte (Int32.ofNat z) (ts.map Value.int) (.int (0 : Int32))) (hz : z ≤ 38) (hts : ts.length = z) (hbl : bs.length = 38) (cs : Int32) (hcs : ¬ cs = 0) (S1 : Sta Z h0 "java/lang/String" "COMPACT_STRINGS" "Z" (.int cs)) :
    MetFree l (⟨"java/lang/String", "contains", "(Ljava/lang/CharSequence;)Z"⟩ : MethodName) (head1 (Jvm.Cond.code (⟨"java/lang/String", "contains", "(Ljava/lang/CharSequence;)Z"⟩ : MethodName) jdk_42_method_97_code 2 (some .boolean) :: ws) ({ frames := 3, cells := 0, slots := 0, locals := 49 } : Room)) (fun aA U => aA = #[(.ref a), (.ref y)] ∧ Z.Warmed39 U.vm ∧ U.heap = h0) (fun _ _ _ _ _ => True) (fun _ U oO U' => ∃ vV LL, oO = .returned vV ∧ Qct Z a y b t z bs ts kb kt h0 n0 vV U'.heap LL ∧ FrameEnd U oO U' LL ({ frames := 3, cells := 0, slots := 0, locals := 49 } : Room).cells ({ frames := 3, cells := 0, slots := 0, locals := 49 } : Room).slots) := by
  refine MetFree.of_bodySF (plainFor_of_name pn_1) hisR ?_
  intro p e s m args below meth c s₁ Bd hml0 hP hK
  obtain ⟨rfl, hZ, hh⟩ := hP
  have hx := Bd.exec
  have hby := Bd.bytes
  have hml : c.maxLocals = 2 := hml0
  have hown : s.vm.findClass "java/lang/String" = some m.cls := findClass_of_methodNamed Bd.named
  have hnm := (name_of_methodNamed Bd.named Bd.method).1
  have X0 : Stand p l e ({ frames := 3, cells := 0, slots := 0, locals := 49 } : Room) s m #[(.ref a), (.ref y)] below meth c s₁ [] 0 0 := Stand.of_body Bd
  have e0 : s₁.heap = h0 := by rw [← hh, Bd.state]; rfl
  have N0 := Fr.nil n0
  have K0 : Keep h0 h0 [] := Keep.refl _ _
  have pre0 : Rch p.tables e below (s₁.setTop (entryFrame m #[(.ref a), (.ref y)] 2)) (s₁.setTop (mkF m 0 #[.val (.ref a), .val (.ref y)] [])) := fun tgt ktg => castTop (ef_ct m a y) ktg
  have pre_1 : Rch p.tables e below (s₁.setTop (entryFrame m #[(.ref a), (.ref y)] 2)) (s₁.setTop (mkF m 2 #[.val (.ref a), .val (.ref y)] [(.ref y), (.ref a)])) := fun tgt ktg => pre0 tgt (by
    show Steps p.tables e below (s₁.setTop (mkF m 0 #[.val (.ref a), .val (.ref y)] [])) _
    refine XS.aloadN X0.here hx rfl (hb hby d16_0) rfl rfl ?_
    show Steps p.tables e below (s₁.setTop (mkF m 1 #[.val (.ref a), .val (.ref y)] [(.ref a)])) _
    refine XS.aloadN X0.here hx rfl (hb hby d16_1) rfl rfl ?_
    exact ktg)
  obtain ⟨cq_2, kq_2, q_2a, q_2b, q_2c⟩ := isOf hZ e0 E2
  obtain ⟨_, _, ⟨T_2, L_2, k_2, n_2⟩, -, X_2, ⟨Lc_2, hQ_2, l_2, y_2, z_2⟩, st_2⟩ := X0.interfaceBack hx (xi := (⟨"java/lang/CharSequence", "toString", "()Ljava/lang/String;"⟩ : MethodName)) (y := (⟨"java/lang/String", "toString", "()Ljava/lang/String;"⟩ : MethodName)) hown (mvT hZ (hw _ (List.mem_of_getElem? (i := 88) rfl))) (mvT hZ (hw _ (List.mem_of_getElem? (i := 89) rfl))) (mvT hZ (hw _ (List.mem_of_getElem? (i := 90) rfl))) (mvT hZ (hw _ (List.mem_of_getElem? (i := 91) rfl))) (mvT hZ (hw _ (List.mem_of_getElem? (i := 92) rfl))) (mvT hZ (hw _ (List.mem_of_getElem? (i := 93) rfl))) (mvT hZ (hw _ (List.mem_of_getElem? (i := 94) rfl))) (mvT hZ (hw _ (List.mem_of_getElem? (i := 95) rfl))) (by decide) (backOf (W := 1) (rmts l Z a0 hw [] y h0 n0 Z0) hZ (hw _ (List.mem_of_getElem? (i := 96) rfl)) (hw _ (List.mem_of_getElem? (i := 5) rfl)) (by decide) (by decide)) q_2a q_2b q_2c (g := (mkF m 2 #[.val (.ref a), .val (.ref y)] [(.ref y), (.ref a)])) rfl (by rw [hml]; rfl) (Steps.refl _) (argsL := []) (rest := [(.ref a)]) (lenOf pd_7 rfl) rfl (by show 2 * 0 + _ ≤ _; exact Nat.le_of_eq rfl) (hb hby d16_2) (fun _ _ => ⟨rfl, e0, (by decide : 0 + 0 ≤ _), (by decide : 0 + 0 ≤ _)⟩)
  dsimp only [Pt.U, Pt.locs, Pt.cells, Pt.slots] at X_2 l_2 y_2 z_2 st_2 hQ_2
  subst l_2 y_2 z_2
  obtain ⟨rfl, Nq_2, eh_2⟩ := hQ_2
  have N_3 := Fr.app N0 Nq_2
  have pre_2 : Rch p.tables e below (s₁.setTop (entryFrame m #[(.ref a), (.ref y)] 2)) (T_2.setTop (mkF m 7 #[.val (.ref a), .val (.ref y)] [(.ref y), (.ref a)])) := fun tgt ktg => pre_1 tgt (st_2.trans ktg)
  obtain ⟨cq_4, kq_4, q_4a, q_4b, q_4c⟩ := isOf hZ eh_2 E1
  obtain ⟨_, _, ⟨T_4, L_4, k_4, n_4⟩, -, X_4, ⟨Lc_4, hQ_4, l_4, y_4, z_4⟩, st_4⟩ := X_2.virtualBack hx (y := (⟨"java/lang/String", "indexOf", "(Ljava/lang/String;)I"⟩ : MethodName)) (z := (⟨"java/lang/String", "indexOf", "(Ljava/lang/String;)I"⟩ : MethodName)) hown (mvT hZ (hw _ (List.mem_of_getElem? (i := 97) rfl))) (mvT hZ (hw _ (List.mem_of_getElem? (i := 98) rfl))) (notFace_of_selects (args := #[]) (mvT hZ (hw _ (List.mem_of_getElem? (i := 100) rfl)))) (mvT hZ (hw _ (List.mem_of_getElem? (i := 100) rfl))) (mvT hZ (hw _ (List.mem_of_getElem? (i := 99) rfl))) (by decide) (backOf (W := 0) (rmis l Z a0 hw [] a y b t z bs ts kb kt h0 n0 Z0 E1 F1a F1b A1 E2 F2a F2b A2 hz hts hbl cs hcs S1) hZ (hw _ (List.mem_of_getElem? (i := 101) rfl)) (hw _ (List.mem_of_getElem? (i := 5) rfl)) (by decide) (by decide)) q_4a q_4c (g := (mkF m 7 #[.val (.ref a), .val (.ref y)] [(.ref y), (.ref a)])) rfl (by rw [hml]; rfl) (Steps.refl _) (argsL := [(.ref y)]) (rest := []) (lenOf pd_8 rfl) rfl (by show 2 * 0 + _ ≤ _; exact Nat.le_of_eq rfl) (hb hby d16_7) (fun _ _ => ⟨rfl, eh_2, (by decide : 0 + 0 ≤ _), (by decide : 0 + 0 ≤ _)⟩)
  dsimp only [Pt.U, Pt.locs, Pt.cells, Pt.slots] at X_4 l_4 y_4 z_4 st_4 hQ_4
  subst l_4 y_4 z_4
  obtain ⟨r, rfl, Nq_4, eh_4, hR⟩ := hQ_4
  have N_5 := Fr.app N_3 Nq_4
  have pre_4 : Rch p.tables e below (s₁.setTop (entryFrame m #[(.ref a), (.ref y)] 2)) (T_4.setTop (mkF m 10 #[.val (.ref a), .val (.ref y)] [(.int r)])) := fun tgt ktg => pre_2 tgt (st_4.trans ktg)
  by_cases c_6 : r < (0 : Int32)
  · skip
    have pre_7 : Rch p.tables e below (s₁.setTop (entryFrame m #[(.ref a), (.ref y)] 2)) (T_4.setTop (mkF m 17 #[.val (.ref a), .val (.ref y)] [])) := fun tgt ktg => pre_4 tgt (by
      show Steps p.tables e below (T_4.setTop (mkF m 10 #[.val (.ref a), .val (.ref y)] [(.int r)])) _
      refine XS.ifYes X_4.here hx rfl (pc0 := 10) (pc' := 17) rfl (hb hby d16_10) rfl ((if0 _ _).trans (tlt c_6).1) (by decide) (by decide) ?_
      exact ktg)
    have pre_8 : Rch p.tables e below (s₁.setTop (entryFrame m #[(.ref a), (.ref y)] 2)) (T_4.setTop (mkF m 18 #[.val (.ref a), .val (.ref y)] [(.int (0 : Int32))])) := fun tgt ktg => pre_7 tgt (by
      show Steps p.tables e below (T_4.setTop (mkF m 17 #[.val (.ref a), .val (.ref y)] [])) _
      refine XS.iconst X_4.here hx rfl (hb hby d16_17) ?_
      exact ktg)
    obtain ⟨fs, hr, hrun, hended, hW, hsame⟩ := X_4.leave (v := some (.int (0 : Int32))) (fun h => by rw [Bd.returns] at h; cases h)
    refine ⟨_, _, pre_8 _ ?_, hrun, hended, _, _, rfl, ?_, ⟨_, rfl⟩, hW, hsame.mono (by decide) (by decide)⟩
    · show Steps p.tables e below (T_4.setTop (mkF m 18 #[.val (.ref a), .val (.ref y)] [(.int (0 : Int32))])) _
      exact retN X_4 hx (t := .boolean) Bd.returns (by simp) (hb hby d16_18) hr
    · show Qct Z a y b t z bs ts kb kt h0 n0 _ T_4.heap _
      rw [eh_4]
      exact ⟨_, rfl, N_5, rfl, Or.inr ⟨rfl, hR.elim (fun q => absurd c_6 q.1) (fun q => q.2)⟩⟩
  · skip
    have pre_9 : Rch p.tables e below (s₁.setTop (entryFrame m #[(.ref a), (.ref y)] 2)) (T_4.setTop (mkF m 13 #[.val (.ref a), .val (.ref y)] [])) := fun tgt ktg => pre_4 tgt (by
      show Steps p.tables e below (T_4.setTop (mkF m 10 #[.val (.ref a), .val (.ref y)] [(.int r)])) _
      refine XS.ifNo X_4.here hx rfl (hb hby d16_10) rfl ((if0 _ _).trans (flt c_6).1) ?_
      exact ktg)
    have pre_10 : Rch p.tables e below (s₁.setTop (entryFrame m #[(.ref a), (.ref y)] 2)) (T_4.setTop (mkF m 18 #[.val (.ref a), .val (.ref y)] [(.int (1 : Int32))])) := fun tgt ktg => pre_9 tgt (by
      show Steps p.tables e below (T_4.setTop (mkF m 13 #[.val (.ref a), .val (.ref y)] [])) _
      refine XS.iconst X_4.here hx rfl (hb hby d16_13) ?_
      show Steps p.tables e below (T_4.setTop (mkF m 14 #[.val (.ref a), .val (.ref y)] [(.int (1 : Int32))])) _
      refine XS.goto X_4.here hx rfl (pc0 := 14) (pc' := 18) rfl (hb hby d16_14) (by decide) (by decide) ?_
      exact ktg)
    obtain ⟨fs, hr, hrun, hended, hW, hsame⟩ := X_4.leave (v := some (.int (1 : Int32))) (fun h => by rw [Bd.returns] at h; cases h)
    refine ⟨_, _, pre_10 _ ?_, hrun, hended, _, _, rfl, ?_, ⟨_, rfl⟩, hW, hsame.mono (by decide) (by decide)⟩
    · show Steps p.tables e below (T_4.setTop (mkF m 18 #[.val (.ref a), .val (.ref y)] [(.int (1 : Int32))])) _
      exact retN X_4 hx (t := .boolean) Bd.returns (by simp) (hb hby d16_18) hr
    · show Qct Z a y b t z bs ts kb kt h0 n0 _ T_4.heap _
      rw [eh_4]
      exact ⟨_, rfl, N_5, rfl, Or.inl ⟨rfl, hR.elim (fun q => q.2) (fun q => absurd q.1 c_6)⟩⟩
theorem d14_0 : decode jdk_30_method_1_code 0 = .ok (.aload_n 0, 1) := by decide +kernel
theorem d14_1 : decode jdk_30_method_1_code 1 = .ok (.invokespecial 1, 3) := by decide +kernel
theorem d14_4 : decode jdk_30_method_1_code 4 = .ok (.return_, 1) := by decide +kernel
theorem pn_3 : plainName "java/lang/Record" = true := by first | (simp [plainName, overriddenIn]; done) | decide +kernel
theorem ef_rec (m : MethodId) (x0 : Addr) : entryFrame m #[(.ref x0)] 1 = mkF m 0 #[.val (.ref x0)] [] := by first | (simp [entryFrame, mkF, argsToLocals, Value.category]; done) | rfl
def Qrec (Z : State) (r : Addr) (h0 : Heap) (n0 : Nat) (v : Option Value) (h : Heap) (L : List Loc) : Prop := v = none ∧ Fr n0 L ∧ h = h0
set_option maxRecDepth 65536 in
set_option maxHeartbeats 40000000 in
theorem rmrec (l : Launch) (Z : State) (a0 : Array Value) (hw : ∀ d ∈ tables_1, d.before a0 Z = true) (ws : List Jvm.Cond) (r : Addr) (h0 : Heap) (n0 : Nat) (Z0 : n0 ≤ h0.size)  :
    MetFree l (⟨"java/lang/Record", "<init>", "()V"⟩ : MethodName) (head1 (Jvm.Cond.code (⟨"java/lang/Record", "<init>", "()V"⟩ : MethodName) jdk_30_method_1_code 1 none :: ws) ({ frames := 1, cells := 0, slots := 0, locals := 12 } : Room)) (fun aA U => aA = #[(.ref r)] ∧ Z.Warmed39 U.vm ∧ U.heap = h0) (fun _ _ _ _ _ => True) (fun _ U oO U' => ∃ vV LL, oO = .returned vV ∧ Qrec Z r h0 n0 vV U'.heap LL ∧ FrameEnd U oO U' LL ({ frames := 1, cells := 0, slots := 0, locals := 12 } : Room).cells ({ frames := 1, cells := 0, slots := 0, locals := 12 } : Room).slots) := by
  refine MetFree.of_bodySF (plainFor_of_name pn_3) hisR ?_
  intro p e s m args below meth c s₁ Bd hml0 hP hK
  obtain ⟨rfl, hZ, hh⟩ := hP
  have hx := Bd.exec
  have hby := Bd.bytes
  have hml : c.maxLocals = 1 := hml0
  have hown : s.vm.findClass "java/lang/Record" = some m.cls := findClass_of_methodNamed Bd.named
  have hnm := (name_of_methodNamed Bd.named Bd.method).1
  have X0 : Stand p l e ({ frames := 1, cells := 0, slots := 0, locals := 12 } : Room) s m #[(.ref r)] below meth c s₁ [] 0 0 := Stand.of_body Bd
  have e0 : s₁.heap = h0 := by rw [← hh, Bd.state]; rfl
  have N0 := Fr.nil n0
  have K0 : Keep h0 h0 [] := Keep.refl _ _
  have pre0 : Rch p.tables e below (s₁.setTop (entryFrame m #[(.ref r)] 1)) (s₁.setTop (mkF m 0 #[.val (.ref r)] [])) := fun tgt ktg => castTop (ef_rec m r) ktg
  have pre_1 : Rch p.tables e below (s₁.setTop (entryFrame m #[(.ref r)] 1)) (s₁.setTop (mkF m 1 #[.val (.ref r)] [(.ref r)])) := fun tgt ktg => pre0 tgt (by
    show Steps p.tables e below (s₁.setTop (mkF m 0 #[.val (.ref r)] [])) _
    refine XS.aloadN X0.here hx rfl (hb hby d14_0) rfl rfl ?_
    exact ktg)
  obtain ⟨T_2, X_2, e_2, st_2⟩ := initO X0 hx hZ hown (hw _ (List.mem_of_getElem? (i := 72) rfl)) (hw _ (List.mem_of_getElem? (i := 48) rfl)) (hw _ (List.mem_of_getElem? (i := 49) rfl)) e0 (g := (mkF m 1 #[.val (.ref r)] [(.ref r)])) rfl (by rw [hml]; rfl) rfl (hb hby d14_1) (by decide) (W := 0) (by show 2 * 0 + _ ≤ _; exact Nat.le_of_eq rfl) (by decide)
  have pre_2 : Rch p.tables e below (s₁.setTop (entryFrame m #[(.ref r)] 1)) (T_2.setTop (mkF m 4 #[.val (.ref r)] [])) := fun tgt ktg => pre_1 tgt (st_2 tgt ktg)
  obtain ⟨fs, hr, hrun, hended, hW, hsame⟩ := X_2.leave (v := none) (fun _ => rfl)
  refine ⟨_, _, pre_2 _ ?_, hrun, hended, _, _, rfl, ?_, ⟨_, rfl⟩, hW, hsame.mono (by decide) (by decide)⟩
  · show Steps p.tables e below (T_2.setTop (mkF m 4 #[.val (.ref r)] [])) _
    exact X_2.returnOut hx Bd.returns (hb hby d14_4) hr
  · show Qrec Z r h0 n0 _ T_2.heap _
    rw [e_2]
    exact ⟨rfl, N0, rfl⟩
theorem d13_0 : decode prog_20_method_1_code 0 = .ok (.aload_n 0, 1) := by decide +kernel
theorem d13_1 : decode prog_20_method_1_code 1 = .ok (.invokespecial 1, 3) := by decide +kernel
theorem pd_9 : parseMethodDescriptor "()V" = some ⟨[], none⟩ := by decide +kernel
theorem d13_4 : decode prog_20_method_1_code 4 = .ok (.aload_n 0, 1) := by decide +kernel
theorem d13_5 : decode prog_20_method_1_code 5 = .ok (.iload_n 1, 1) := by decide +kernel
theorem d13_6 : decode prog_20_method_1_code 6 = .ok (.putfield 7, 3) := by decide +kernel
theorem d13_9 : decode prog_20_method_1_code 9 = .ok (.aload_n 0, 1) := by decide +kernel
theorem d13_10 : decode prog_20_method_1_code 10 = .ok (.aload_n 2, 1) := by decide +kernel
theorem d13_11 : decode prog_20_method_1_code 11 = .ok (.putfield 13, 3) := by decide +kernel
theorem d13_14 : decode prog_20_method_1_code 14 = .ok (.return_, 1) := by decide +kernel
theorem pn_4 : plainName "Soap$Response" = true := by first | (simp [plainName, overriddenIn]; done) | decide +kernel
theorem ef_rsi (m : MethodId) (x0 : Addr) (x1 : Int32) (x2 : Addr) : entryFrame m #[(.ref x0), (.int x1), (.ref x2)] 3 = mkF m 0 #[.val (.ref x0), .val (.int x1), .val (.ref x2)] [] := by first | (simp [entryFrame, mkF, argsToLocals, Value.category]; done) | rfl
def Qrsi (Z : State) (r : Addr) (st : Int32) (a : Addr) (h0 : Heap) (n0 : Nat) (v : Option Value) (h : Heap) (L : List Loc) : Prop := v = none ∧ Fr n0 L ∧ Keep h0 h [r] ∧ Exa Z h r "Soap$Response" ∧ Fld Z h r "Soap$Response" "status" "I" (.int st) ∧ Fld Z h r "Soap$Response" "body" "Ljava/lang/String;" (.ref a)
set_option maxRecDepth 65536 in
set_option maxHeartbeats 40000000 in
theorem rmrsi (l : Launch) (Z : State) (a0 : Array Value) (hw : ∀ d ∈ tables_1, d.before a0 Z = true) (ws : List Jvm.Cond) (r : Addr) (st : Int32) (a : Addr) (h0 : Heap) (n0 : Nat) (Z0 : n0 ≤ h0.size) (E1 : Exa Z h0 r "Soap$Response") (F1 : Fld Z h0 r "Soap$Response" "status" "I" (.int (0 : Int32))) (F2 : Fld Z h0 r "Soap$Response" "body" "Ljava/lang/String;" .null) (gr : n0 ≤ r) :
    MetFree l (⟨"Soap$Response", "<init>", "(ILjava/lang/String;)V"⟩ : MethodName) (head1 (Jvm.Cond.code (⟨"Soap$Response", "<init>", "(ILjava/lang/String;)V"⟩ : MethodName) prog_20_method_1_code 3 none :: ws) ({ frames := 2, cells := 0, slots := 0, locals := 24 } : Room)) (fun aA U => aA = #[(.ref r), (.int st), (.ref a)] ∧ Z.Warmed39 U.vm ∧ U.heap = h0) (fun _ _ _ _ _ => True) (fun _ U oO U' => ∃ vV LL, oO = .returned vV ∧ Qrsi Z r st a h0 n0 vV U'.heap LL ∧ FrameEnd U oO U' LL ({ frames := 2, cells := 0, slots := 0, locals := 24 } : Room).cells ({ frames := 2, cells := 0, slots := 0, locals := 24 } : Room).slots) := by
  refine MetFree.of_bodySF (plainFor_of_name pn_4) hisR ?_
  intro p e s m args below meth c s₁ Bd hml0 hP hK
  obtain ⟨rfl, hZ, hh⟩ := hP
  have hx := Bd.exec
  have hby := Bd.bytes
  have hml : c.maxLocals = 3 := hml0
  have hown : s.vm.findClass "Soap$Response" = some m.cls := findClass_of_methodNamed Bd.named
  have hnm := (name_of_methodNamed Bd.named Bd.method).1
  have X0 : Stand p l e ({ frames := 2, cells := 0, slots := 0, locals := 24 } : Room) s m #[(.ref r), (.int st), (.ref a)] below meth c s₁ [] 0 0 := Stand.of_body Bd
  have e0 : s₁.heap = h0 := by rw [← hh, Bd.state]; rfl
  have N0 := Fr.nil n0
  have K0 : Keep h0 h0 [r] := Keep.refl _ _
  have pre0 : Rch p.tables e below (s₁.setTop (entryFrame m #[(.ref r), (.int st), (.ref a)] 3)) (s₁.setTop (mkF m 0 #[.val (.ref r), .val (.int st), .val (.ref a)] [])) := fun tgt ktg => castTop (ef_rsi m r st a) ktg
  have pre_1 : Rch p.tables e below (s₁.setTop (entryFrame m #[(.ref r), (.int st), (.ref a)] 3)) (s₁.setTop (mkF m 1 #[.val (.ref r), .val (.int st), .val (.ref a)] [(.ref r)])) := fun tgt ktg => pre0 tgt (by
    show Steps p.tables e below (s₁.setTop (mkF m 0 #[.val (.ref r), .val (.int st), .val (.ref a)] [])) _
    refine XS.aloadN X0.here hx rfl (hb hby d13_0) rfl rfl ?_
    exact ktg)
  obtain ⟨_, _, ⟨T_2, L_2, k_2, n_2⟩, -, X_2, ⟨Lc_2, hQ_2, l_2, y_2, z_2⟩, st_2⟩ := X0.specialBack hx (y := (⟨"java/lang/Record", "<init>", "()V"⟩ : MethodName)) rfl hown (mvT hZ (hw _ (List.mem_of_getElem? (i := 67) rfl))) (mvT hZ (hw _ (List.mem_of_getElem? (i := 68) rfl))) (mvT hZ (hw _ (List.mem_of_getElem? (i := 71) rfl))) (by decide) (backOf (W := 0) (rmrec l Z a0 hw [] r h0 n0 Z0) hZ (hw _ (List.mem_of_getElem? (i := 71) rfl)) (hw _ (List.mem_of_getElem? (i := 70) rfl)) (by decide) (by decide)) (g := (mkF m 1 #[.val (.ref r), .val (.int st), .val (.ref a)] [(.ref r)])) rfl (by rw [hml]; rfl) (Steps.refl _) (a := r) (argsL := []) (rest := []) (lenOf pd_9 rfl) rfl (by show 2 * 0 + _ ≤ _; exact Nat.le_of_eq rfl) (hb hby d13_1) (fun _ _ => ⟨rfl, e0, (by decide : 0 + 0 ≤ _), (by decide : 0 + 0 ≤ _)⟩)
  dsimp only [Pt.U, Pt.locs, Pt.cells, Pt.slots] at X_2 l_2 y_2 z_2 st_2 hQ_2
  subst l_2 y_2 z_2
  obtain ⟨rfl, Nq_2, eh_2⟩ := hQ_2
  have N_3 := Fr.app N0 Nq_2
  have pre_2 : Rch p.tables e below (s₁.setTop (entryFrame m #[(.ref r), (.int st), (.ref a)] 3)) (T_2.setTop (mkF m 4 #[.val (.ref r), .val (.int st), .val (.ref a)] [])) := fun tgt ktg => pre_1 tgt (st_2.trans ktg)
  have pre_4 : Rch p.tables e below (s₁.setTop (entryFrame m #[(.ref r), (.int st), (.ref a)] 3)) (T_2.setTop (mkF m 6 #[.val (.ref r), .val (.int st), .val (.ref a)] [(.int st), (.ref r)])) := fun tgt ktg => pre_2 tgt (by
    show Steps p.tables e below (T_2.setTop (mkF m 4 #[.val (.ref r), .val (.int st), .val (.ref a)] [])) _
    refine XS.aloadN X_2.here hx rfl (hb hby d13_4) rfl rfl ?_
    show Steps p.tables e below (T_2.setTop (mkF m 5 #[.val (.ref r), .val (.int st), .val (.ref a)] [(.ref r)])) _
    refine XS.iloadN X_2.here hx rfl (hb hby d13_5) rfl ?_
    exact ktg)
  obtain ⟨T_5, h_5, X_5, e_5, W_5, st_5⟩ := putF X_2 hx hZ hown (host := "") (Or.inl (hw _ (List.mem_of_getElem? (i := 73) rfl))) Via.refl eh_2 F1 E1 (Or.inr ⟨(hw _ (List.mem_of_getElem? (i := 74) rfl)), rfl, hnm⟩) (hw _ (List.mem_of_getElem? (i := 62) rfl)) (ty := .int) (by decide) rfl rfl (g := (mkF m 6 #[.val (.ref r), .val (.int st), .val (.ref a)] [(.int st), (.ref r)])) rfl rfl (hb hby d13_6)
  have pre_5 : Rch p.tables e below (s₁.setTop (entryFrame m #[(.ref r), (.int st), (.ref a)] 3)) (T_5.setTop (mkF m 9 #[.val (.ref r), .val (.int st), .val (.ref a)] [])) := fun tgt ktg => pre_4 tgt (st_5 tgt ktg)
  have f_6 : Exa Z h_5 r "Soap$Response" := E1.wr W_5
  have f_7 : Fld Z h_5 r "Soap$Response" "body" "Ljava/lang/String;" .null := F2.other W_5 (Or.inr (slot_ne (Or.inr (hw _ (List.mem_of_getElem? (i := 76) rfl))) (Or.inr (hw _ (List.mem_of_getElem? (i := 74) rfl))) (by decide) (t := (.object "java/lang/String")) (t' := .int) (by decide) (by decide)))
  have z_8 : n0 ≤ h_5.size := Nat.le_trans Z0 (Keep.of_wr W_5).1
  have K_9 : Keep h0 h_5 [r] := K0.wr W_5 (Or.inl (List.mem_of_getElem? (i := 0) rfl))
  have f_10 : Fld Z h_5 r "Soap$Response" "status" "I" (.int st) := F1.same W_5
  have N_11 := Fr.snoc X_5 N_3 gr
  have pre_12 : Rch p.tables e below (s₁.setTop (entryFrame m #[(.ref r), (.int st), (.ref a)] 3)) (T_5.setTop (mkF m 11 #[.val (.ref r), .val (.int st), .val (.ref a)] [(.ref a), (.ref r)])) := fun tgt ktg => pre_5 tgt (by
    show Steps p.tables e below (T_5.setTop (mkF m 9 #[.val (.ref r), .val (.int st), .val (.ref a)] [])) _
    refine XS.aloadN X_5.here hx rfl (hb hby d13_9) rfl rfl ?_
    show Steps p.tables e below (T_5.setTop (mkF m 10 #[.val (.ref r), .val (.int st), .val (.ref a)] [(.ref r)])) _
    refine XS.aloadN X_5.here hx rfl (hb hby d13_10) rfl rfl ?_
    exact ktg)
  obtain ⟨T_13, h_13, X_13, e_13, W_13, st_13⟩ := putF X_5 hx hZ hown (host := "") (Or.inl (hw _ (List.mem_of_getElem? (i := 75) rfl))) Via.refl e_5 f_7 f_6 (Or.inr ⟨(hw _ (List.mem_of_getElem? (i := 76) rfl)), rfl, hnm⟩) (hw _ (List.mem_of_getElem? (i := 62) rfl)) (ty := (.object "java/lang/String")) (by decide) rfl rfl (g := (mkF m 11 #[.val (.ref r), .val (.int st), .val (.ref a)] [(.ref a), (.ref r)])) rfl rfl (hb hby d13_11)
  have pre_13 : Rch p.tables e below (s₁.setTop (entryFrame m #[(.ref r), (.int st), (.ref a)] 3)) (T_13.setTop (mkF m 14 #[.val (.ref r), .val (.int st), .val (.ref a)] [])) := fun tgt ktg => pre_12 tgt (st_13 tgt ktg)
  have f_14 : Exa Z h_13 r "Soap$Response" := f_6.wr W_13
  have f_15 : Fld Z h_13 r "Soap$Response" "status" "I" (.int st) := f_10.other W_13 (Or.inr (slot_ne (Or.inr (hw _ (List.mem_of_getElem? (i := 74) rfl))) (Or.inr (hw _ (List.mem_of_getElem? (i := 76) rfl))) (by decide) (t := .int) (t' := (.object "java/lang/String")) (by decide) (by decide)))
  have z_16 : n0 ≤ h_13.size := Nat.le_trans z_8 (Keep.of_wr W_13).1
  have K_17 : Keep h0 h_13 [r] := K_9.wr W_13 (Or.inl (List.mem_of_getElem? (i := 0) rfl))
  have f_18 : Fld Z h_13 r "Soap$Response" "body" "Ljava/lang/String;" (.ref a) := f_7.same W_13
  have N_19 := Fr.snoc X_13 N_11 gr
  obtain ⟨fs, hr, hrun, hended, hW, hsame⟩ := X_13.leave (v := none) (fun _ => rfl)
  refine ⟨_, _, pre_13 _ ?_, hrun, hended, _, _, rfl, ?_, ⟨_, rfl⟩, hW, hsame.mono (by decide) (by decide)⟩
  · show Steps p.tables e below (T_13.setTop (mkF m 14 #[.val (.ref r), .val (.int st), .val (.ref a)] [])) _
    exact X_13.returnOut hx Bd.returns (hb hby d13_14) hr
  · show Qrsi Z r st a h0 n0 _ T_13.heap _
    rw [e_13]
    exact ⟨rfl, N_19, K_17, f_14, f_15, f_18⟩
def mkl : List Int32 := [60, 115, 111, 97, 112, 58, 86, 97, 108, 117, 101, 62, 115, 111, 97, 112, 58, 83, 101, 110, 100, 101, 114, 60, 47, 115, 111, 97, 112, 58, 86, 97, 108, 117, 101, 62]
def bl (l : List Int32) : List Int32 := l.map (fun q => q.toInt8.toInt32)
theorem d15_0 : decode prog_20_method_3_code 0 = .ok (.aload_n 0, 1) := by decide +kernel
theorem d15_1 : decode prog_20_method_3_code 1 = .ok (.getfield 7, 3) := by decide +kernel
theorem d15_4 : decode prog_20_method_3_code 4 = .ok (.sipush 400, 3) := by decide +kernel
theorem d15_7 : decode prog_20_method_3_code 7 = .ok (.if_icmp .ne 30, 3) := by decide +kernel
theorem d15_10 : decode prog_20_method_3_code 10 = .ok (.aload_n 0, 1) := by decide +kernel
theorem d15_11 : decode prog_20_method_3_code 11 = .ok (.getfield 13, 3) := by decide +kernel
theorem d15_14 : decode prog_20_method_3_code 14 = .ok (.ldc 25, 2) := by decide +kernel
theorem d15_16 : decode prog_20_method_3_code 16 = .ok (.invokevirtual 19, 3) := by decide +kernel
theorem pd_10 : parseMethodDescriptor "(Ljava/lang/CharSequence;)Z" = some ⟨[(.object "java/lang/CharSequence")], some .boolean⟩ := by decide +kernel
theorem d15_19 : decode prog_20_method_3_code 19 = .ok (.ifCond .eq 18, 3) := by decide +kernel
theorem d15_37 : decode prog_20_method_3_code 37 = .ok (.iconst 0, 1) := by decide +kernel
theorem d15_38 : decode prog_20_method_3_code 38 = .ok (.ireturn, 1) := by decide +kernel
theorem d15_22 : decode prog_20_method_3_code 22 = .ok (.aload_n 0, 1) := by decide +kernel
theorem d15_23 : decode prog_20_method_3_code 23 = .ok (.getfield 13, 3) := by decide +kernel
theorem d15_26 : decode prog_20_method_3_code 26 = .ok (.aload_n 1, 1) := by decide +kernel
theorem d15_27 : decode prog_20_method_3_code 27 = .ok (.invokevirtual 19, 3) := by decide +kernel
theorem d15_30 : decode prog_20_method_3_code 30 = .ok (.ifCond .eq 7, 3) := by decide +kernel
theorem d15_33 : decode prog_20_method_3_code 33 = .ok (.iconst 1, 1) := by decide +kernel
theorem d15_34 : decode prog_20_method_3_code 34 = .ok (.goto 4, 3) := by decide +kernel
theorem ef_sf (m : MethodId) (x0 : Addr) (x1 : Addr) : entryFrame m #[(.ref x0), (.ref x1)] 2 = mkF m 0 #[.val (.ref x0), .val (.ref x1)] [] := by first | (simp [entryFrame, mkF, argsToLocals, Value.category]; done) | rfl
def Qsf (Z : State) (r : Addr) (y : Addr) (a : Addr) (st : Int32) (b t : Addr) (z : Nat) (bs ts : List Int32) (kb kt : ClassId) (h0 : Heap) (n0 : Nat) (v : Option Value) (h : Heap) (L : List Loc) : Prop := ∃ rr : Int32, v = some (.int rr) ∧ Fr n0 L ∧ Keep h0 h [] ∧ ((rr = 1 ∧ st = 400 ∧ Has bs mkl ∧ Has bs ts) ∨ (rr = 0 ∧ ¬ (st = 400 ∧ Has bs mkl ∧ Has bs ts)))
set_option maxRecDepth 65536 in
set_option maxHeartbeats 40000000 in
theorem rmsf (l : Launch) (Z : State) (a0 : Array Value) (hw : ∀ d ∈ tables_1, d.before a0 Z = true) (ws : List Jvm.Cond) (r : Addr) (y : Addr) (a : Addr) (st : Int32) (b t : Addr) (z : Nat) (bs ts : List Int32) (kb kt : ClassId) (h0 : Heap) (n0 : Nat) (Z0 : n0 ≤ h0.size) (E0 : Exa Z h0 r "Soap$Response") (F1 : Fld Z h0 r "Soap$Response" "status" "I" (.int st)) (F2 : Fld Z h0 r "Soap$Response" "body" "Ljava/lang/String;" (.ref a)) (E1 : Exa Z h0 a "java/lang/String") (F1a : Fld Z h0 a "java/lang/String" "coder" "B" (.int (0 : Int32))) (F1b : Fld Z h0 a "java/lang/String" "value" "[B" (.ref b)) (A1 : Arv Z h0 b kb .byte (38 : Int32) (bs.map Value.int) (.int (0 : Int32))) (E2 : Exa Z h0 y "java/lang/String") (F2a : Fld Z h0 y "java/lang/String" "coder" "B" (.int (0 : Int32))) (F2b : Fld Z h0 y "java/lang/String" "value" "[B" (.ref t)) (A2 : Arv Z h0 t kt .byte (Int32.ofNat z) (ts.map Value.int) (.int (0 : Int32))) (hz : z ≤ 38) (hts : ts.length = z) (hbl : bs.length = 38) (cs : Int32) (hcs : ¬ cs = 0) (S1 : Sta Z h0 "java/lang/String" "COMPACT_STRINGS" "Z" (.int cs)) :
    MetFree l (⟨"Soap$Response", "isSenderFault", "(Ljava/lang/String;)Z"⟩ : MethodName) (head1 (Jvm.Cond.code (⟨"Soap$Response", "isSenderFault", "(Ljava/lang/String;)Z"⟩ : MethodName) prog_20_method_3_code 2 (some .boolean) :: ws) ({ frames := 4, cells := 2, slots := 148, locals := 62 } : Room)) (fun aA U => aA = #[(.ref r), (.ref y)] ∧ Z.Warmed39 U.vm ∧ U.heap = h0 ∧ CHv Z consts_1 U.vm h0) (fun _ _ _ _ _ => True) (fun _ U oO U' => ∃ vV LL, oO = .returned vV ∧ Qsf Z r y a st b t z bs ts kb kt h0 n0 vV U'.heap LL ∧ CHr Z consts_1 U.vm U.heap U'.vm U'.heap ∧ ReturnedEndW U oO U' LL ({ frames := 4, cells := 2, slots := 148, locals := 62 } : Room).cells ({ frames := 4, cells := 2, slots := 148, locals := 62 } : Room).slots) := by
  refine MetFree.of_bodySF (plainFor_of_name pn_4) hisR ?_
  intro p e s m args below meth c s₁ Bd hml0 hP hK
  obtain ⟨rfl, hZ, hh, hC⟩ := hP
  have hx := Bd.exec
  have hby := Bd.bytes
  have hml : c.maxLocals = 2 := hml0
  have hown : s.vm.findClass "Soap$Response" = some m.cls := findClass_of_methodNamed Bd.named
  have hnm := (name_of_methodNamed Bd.named Bd.method).1
  have X0 : Stand p l e ({ frames := 4, cells := 2, slots := 148, locals := 62 } : Room) (s.setVm s.vm) m #[(.ref r), (.ref y)] below meth c s₁ [] 0 0 := Stand.of_body Bd
  have e0 : s₁.heap = h0 := by rw [← hh, Bd.state]; rfl
  have N0 := Fr.nil n0
  have K0 : Keep h0 h0 [] := Keep.refl _ _
  have hS0 : s.Since s.vm 0 := (State.WarmedH.refl s).since _
  have hk0 : 0 ≤ h0.size := Nat.zero_le _
  have C0 : CHr Z consts_1 s.vm h0 s.vm h0 := CHr.refl hC
  have hEL := own_EW hw
  have wS := own_wS hw
  have pre0 : Rch p.tables e below (s₁.setTop (entryFrame m #[(.ref r), (.ref y)] 2)) (s₁.setTop (mkF m 0 #[.val (.ref r), .val (.ref y)] [])) := fun tgt ktg => castTop (ef_sf m r y) ktg
  have pre_1 : Rch p.tables e below (s₁.setTop (entryFrame m #[(.ref r), (.ref y)] 2)) (s₁.setTop (mkF m 1 #[.val (.ref r), .val (.ref y)] [(.ref r)])) := fun tgt ktg => pre0 tgt (by
    show Steps p.tables e below (s₁.setTop (mkF m 0 #[.val (.ref r), .val (.ref y)] [])) _
    refine XS.aloadN X0.here hx rfl (hb hby d15_0) rfl rfl ?_
    exact ktg)
  obtain ⟨T_2, X_2, e_2, st_2⟩ := getF X0 hx hZ hown (host := "") (Or.inl (hw _ (List.mem_of_getElem? (i := 73) rfl))) Via.refl e0 F1 (g := (mkF m 1 #[.val (.ref r), .val (.ref y)] [(.ref r)])) rfl rfl (hb hby d15_1)
  have pre_2 : Rch p.tables e below (s₁.setTop (entryFrame m #[(.ref r), (.ref y)] 2)) (T_2.setTop (mkF m 4 #[.val (.ref r), .val (.ref y)] [(.int st)])) := fun tgt ktg => pre_1 tgt (st_2 tgt ktg)
  have pre_3 : Rch p.tables e below (s₁.setTop (entryFrame m #[(.ref r), (.ref y)] 2)) (T_2.setTop (mkF m 7 #[.val (.ref r), .val (.ref y)] [(.int (400 : Int32)), (.int st)])) := fun tgt ktg => pre_2 tgt (by
    show Steps p.tables e below (T_2.setTop (mkF m 4 #[.val (.ref r), .val (.ref y)] [(.int st)])) _
    refine XS.sipush X_2.here hx rfl (hb hby d15_4) ?_
    exact ktg)
  by_cases c_4 : st = (400 : Int32)
  · skip
    have pre_5 : Rch p.tables e below (s₁.setTop (entryFrame m #[(.ref r), (.ref y)] 2)) (T_2.setTop (mkF m 10 #[.val (.ref r), .val (.ref y)] [])) := fun tgt ktg => pre_3 tgt (by
      show Steps p.tables e below (T_2.setTop (mkF m 7 #[.val (.ref r), .val (.ref y)] [(.int (400 : Int32)), (.int st)])) _
      refine XS.icmpNo X_2.here hx rfl (hb hby d15_7) rfl (teq c_4).2 ?_
      exact ktg)
    have pre_6 : Rch p.tables e below (s₁.setTop (entryFrame m #[(.ref r), (.ref y)] 2)) (T_2.setTop (mkF m 11 #[.val (.ref r), .val (.ref y)] [(.ref r)])) := fun tgt ktg => pre_5 tgt (by
      show Steps p.tables e below (T_2.setTop (mkF m 10 #[.val (.ref r), .val (.ref y)] [])) _
      refine XS.aloadN X_2.here hx rfl (hb hby d15_10) rfl rfl ?_
      exact ktg)
    obtain ⟨T_7, X_7, e_7, st_7⟩ := getF X_2 hx hZ hown (host := "") (Or.inl (hw _ (List.mem_of_getElem? (i := 75) rfl))) Via.refl e_2 F2 (g := (mkF m 11 #[.val (.ref r), .val (.ref y)] [(.ref r)])) rfl rfl (hb hby d15_11)
    have pre_7 : Rch p.tables e below (s₁.setTop (entryFrame m #[(.ref r), (.ref y)] 2)) (T_7.setTop (mkF m 14 #[.val (.ref r), .val (.ref y)] [(.ref a)])) := fun tgt ktg => pre_6 tgt (st_7 tgt ktg)
    obtain ⟨x, T_8, h_8, k1__8, xb, kl_8, X_8, e_8, E_8, hS_8, hk_8, hZ, hown, fE_8, fC_8, fV_8, fA_8, la_8, lb_8, hC_8, hL_8, hne_8, st_8⟩ := ldcCH X_7 hx hZ hown (hw _ (List.mem_of_getElem? (i := 82) rfl)) wS e_7 hS0 hk0 hEL (List.mem_of_getElem? (i := 4) rfl) C0.1 (vs := [(.int (60 : Int32)), (.int (115 : Int32)), (.int (111 : Int32)), (.int (97 : Int32)), (.int (112 : Int32)), (.int (58 : Int32)), (.int (86 : Int32)), (.int (97 : Int32)), (.int (108 : Int32)), (.int (117 : Int32)), (.int (101 : Int32)), (.int (62 : Int32)), (.int (115 : Int32)), (.int (111 : Int32)), (.int (97 : Int32)), (.int (112 : Int32)), (.int (58 : Int32)), (.int (83 : Int32)), (.int (101 : Int32)), (.int (110 : Int32)), (.int (100 : Int32)), (.int (101 : Int32)), (.int (114 : Int32)), (.int (60 : Int32)), (.int (47 : Int32)), (.int (115 : Int32)), (.int (111 : Int32)), (.int (97 : Int32)), (.int (112 : Int32)), (.int (58 : Int32)), (.int (86 : Int32)), (.int (97 : Int32)), (.int (108 : Int32)), (.int (117 : Int32)), (.int (101 : Int32)), (.int (62 : Int32))]) (z := (36 : Int32)) ⟨by decide, by rfl⟩ (by decide) rfl (g := (mkF m 14 #[.val (.ref r), .val (.ref y)] [(.ref a)])) rfl (hb hby d15_14) (n := 144) (by decide) (by decide) (by decide) (by decide)
    have pre_8 : Rch p.tables e below (s₁.setTop (entryFrame m #[(.ref r), (.ref y)] 2)) (T_8.setTop (mkF m 16 #[.val (.ref r), .val (.ref y)] [(.ref x), (.ref a)])) := fun tgt ktg => pre_7 tgt (st_8 tgt ktg)
    have C_9 : CHr Z consts_1 s.vm h0 T_8.vm h_8 := C0.trans hC_8
    have z_10 : n0 ≤ h_8.size := Nat.le_trans Z0 E_8.1
    have K_11 : Keep h0 h_8 [] := K0.ext E_8
    obtain ⟨cq_12, kq_12, q_12a, q_12b, q_12c⟩ := isOf hZ e_8 (E1.keep K_11)
    obtain ⟨_, _, ⟨T_12, L_12, k_12, n_12⟩, -, X_12, ⟨Lc_12, hQ_12, l_12, y_12, z_12⟩, st_12⟩ := X_8.virtualBack hx (y := (⟨"java/lang/String", "contains", "(Ljava/lang/CharSequence;)Z"⟩ : MethodName)) (z := (⟨"java/lang/String", "contains", "(Ljava/lang/CharSequence;)Z"⟩ : MethodName)) hown (mvT hZ (hw _ (List.mem_of_getElem? (i := 83) rfl))) (mvT hZ (hw _ (List.mem_of_getElem? (i := 84) rfl))) (notFace_of_selects (args := #[]) (mvT hZ (hw _ (List.mem_of_getElem? (i := 86) rfl)))) (mvT hZ (hw _ (List.mem_of_getElem? (i := 86) rfl))) (mvT hZ (hw _ (List.mem_of_getElem? (i := 85) rfl))) (by decide) (backOf (W := 0) (rmct l Z a0 hw [] a x b xb 36 bs mkl kb kl_8 h_8 n0 z_10 (E1.keep K_11) (F1a.keep K_11 nin0) (F1b.keep K_11 nin0) (A1.keep K_11 nin0) fE_8 fC_8 fV_8 fA_8 (by decide) rfl hbl cs hcs (own_sta_keep S1 K_11 ns0)) hZ (hw _ (List.mem_of_getElem? (i := 87) rfl)) (hw _ (List.mem_of_getElem? (i := 5) rfl)) (by decide) (by decide)) q_12a q_12c (g := (mkF m 16 #[.val (.ref r), .val (.ref y)] [(.ref x), (.ref a)])) rfl (by rw [hml]; rfl) (Steps.refl _) (argsL := [(.ref x)]) (rest := []) (lenOf pd_10 rfl) rfl (by show 2 * 0 + _ ≤ _; exact Nat.le_of_eq rfl) (hb hby d15_16) (fun _ _ => ⟨rfl, e_8, (by decide : 2 + 0 ≤ _), (by decide : 148 + 0 ≤ _)⟩)
    dsimp only [Pt.U, Pt.locs, Pt.cells, Pt.slots] at X_12 l_12 y_12 z_12 st_12 hQ_12
    subst l_12 y_12 z_12
    obtain ⟨r1, rfl, Nq_12, eh_12, h1⟩ := hQ_12
    have N_13 := Fr.app N0 Nq_12
    have pre_12 : Rch p.tables e below (s₁.setTop (entryFrame m #[(.ref r), (.ref y)] 2)) (T_12.setTop (mkF m 19 #[.val (.ref r), .val (.ref y)] [(.int r1)])) := fun tgt ktg => pre_8 tgt (st_12.trans ktg)
    by_cases c_14 : r1 = (0 : Int32)
    · skip
      have pre_15 : Rch p.tables e below (s₁.setTop (entryFrame m #[(.ref r), (.ref y)] 2)) (T_12.setTop (mkF m 37 #[.val (.ref r), .val (.ref y)] [])) := fun tgt ktg => pre_12 tgt (by
        show Steps p.tables e below (T_12.setTop (mkF m 19 #[.val (.ref r), .val (.ref y)] [(.int r1)])) _
        refine XS.ifYes X_12.here hx rfl (pc0 := 19) (pc' := 37) rfl (hb hby d15_19) rfl ((if0 _ _).trans (teq c_14).1) (by decide) (by decide) ?_
        exact ktg)
      have pre_16 : Rch p.tables e below (s₁.setTop (entryFrame m #[(.ref r), (.ref y)] 2)) (T_12.setTop (mkF m 38 #[.val (.ref r), .val (.ref y)] [(.int (0 : Int32))])) := fun tgt ktg => pre_15 tgt (by
        show Steps p.tables e below (T_12.setTop (mkF m 37 #[.val (.ref r), .val (.ref y)] [])) _
        refine XS.iconst X_12.here hx rfl (hb hby d15_37) ?_
        exact ktg)
      obtain ⟨fs, hr, hrun, hended, hW⟩ := X_12.leaveW hS_8 (by rw [eh_12]; exact hk_8) (v := some (.int (0 : Int32))) (fun h => by rw [Bd.returns] at h; cases h)
      refine ⟨_, _, pre_16 _ ?_, hrun, hended, _, _, rfl, ?_, ?_, hW.1, hW.2.1, hW.2.2.1, hW.2.2.2.mono (by decide) (by decide)⟩
      · show Steps p.tables e below (T_12.setTop (mkF m 38 #[.val (.ref r), .val (.ref y)] [(.int (0 : Int32))])) _
        exact retN X_12 hx (t := .boolean) Bd.returns (by simp) (hb hby d15_38) hr
      · show Qsf Z r y a st b t z bs ts kb kt h0 n0 _ T_12.heap _
        rw [eh_12]
        exact ⟨_, rfl, N_13, K_11, Or.inr ⟨rfl, fun q => h1.elim (fun k => absurd (k.1.symm.trans c_14) (by decide)) (fun k => k.2 q.2.1)⟩⟩
      · show CHr Z consts_1 s.vm s.heap T_12.vm T_12.heap
        rw [hh, eh_12]
        exact C_9.trans (CHv.at X_12 hZ hEL C_9.1)
    · skip
      have pre_17 : Rch p.tables e below (s₁.setTop (entryFrame m #[(.ref r), (.ref y)] 2)) (T_12.setTop (mkF m 22 #[.val (.ref r), .val (.ref y)] [])) := fun tgt ktg => pre_12 tgt (by
        show Steps p.tables e below (T_12.setTop (mkF m 19 #[.val (.ref r), .val (.ref y)] [(.int r1)])) _
        refine XS.ifNo X_12.here hx rfl (hb hby d15_19) rfl ((if0 _ _).trans (feq c_14).1) ?_
        exact ktg)
      have m1 : Has bs mkl := h1.elim (fun q => q.2) (fun q => absurd q.1 c_14)
      have pre_18 : Rch p.tables e below (s₁.setTop (entryFrame m #[(.ref r), (.ref y)] 2)) (T_12.setTop (mkF m 23 #[.val (.ref r), .val (.ref y)] [(.ref r)])) := fun tgt ktg => pre_17 tgt (by
        show Steps p.tables e below (T_12.setTop (mkF m 22 #[.val (.ref r), .val (.ref y)] [])) _
        refine XS.aloadN X_12.here hx rfl (hb hby d15_22) rfl rfl ?_
        exact ktg)
      obtain ⟨T_19, X_19, e_19, st_19⟩ := getF X_12 hx hZ hown (host := "") (Or.inl (hw _ (List.mem_of_getElem? (i := 75) rfl))) Via.refl eh_12 (F2.keep K_11 nin0) (g := (mkF m 23 #[.val (.ref r), .val (.ref y)] [(.ref r)])) rfl rfl (hb hby d15_23)
      have pre_19 : Rch p.tables e below (s₁.setTop (entryFrame m #[(.ref r), (.ref y)] 2)) (T_19.setTop (mkF m 26 #[.val (.ref r), .val (.ref y)] [(.ref a)])) := fun tgt ktg => pre_18 tgt (st_19 tgt ktg)
      have pre_20 : Rch p.tables e below (s₁.setTop (entryFrame m #[(.ref r), (.ref y)] 2)) (T_19.setTop (mkF m 27 #[.val (.ref r), .val (.ref y)] [(.ref y), (.ref a)])) := fun tgt ktg => pre_19 tgt (by
        show Steps p.tables e below (T_19.setTop (mkF m 26 #[.val (.ref r), .val (.ref y)] [(.ref a)])) _
        refine XS.aloadN X_19.here hx rfl (hb hby d15_26) rfl rfl ?_
        exact ktg)
      obtain ⟨cq_21, kq_21, q_21a, q_21b, q_21c⟩ := isOf hZ e_19 (E1.keep K_11)
      obtain ⟨_, _, ⟨T_21, L_21, k_21, n_21⟩, -, X_21, ⟨Lc_21, hQ_21, l_21, y_21, z_21⟩, st_21⟩ := X_19.virtualBack hx (y := (⟨"java/lang/String", "contains", "(Ljava/lang/CharSequence;)Z"⟩ : MethodName)) (z := (⟨"java/lang/String", "contains", "(Ljava/lang/CharSequence;)Z"⟩ : MethodName)) hown (mvT hZ (hw _ (List.mem_of_getElem? (i := 83) rfl))) (mvT hZ (hw _ (List.mem_of_getElem? (i := 84) rfl))) (notFace_of_selects (args := #[]) (mvT hZ (hw _ (List.mem_of_getElem? (i := 86) rfl)))) (mvT hZ (hw _ (List.mem_of_getElem? (i := 86) rfl))) (mvT hZ (hw _ (List.mem_of_getElem? (i := 85) rfl))) (by decide) (backOf (W := 0) (rmct l Z a0 hw [] a y b t z bs ts kb kt h_8 n0 z_10 (E1.keep K_11) (F1a.keep K_11 nin0) (F1b.keep K_11 nin0) (A1.keep K_11 nin0) (E2.keep K_11) (F2a.keep K_11 nin0) (F2b.keep K_11 nin0) (A2.keep K_11 nin0) hz hts hbl cs hcs (own_sta_keep S1 K_11 ns0)) hZ (hw _ (List.mem_of_getElem? (i := 87) rfl)) (hw _ (List.mem_of_getElem? (i := 5) rfl)) (by decide) (by decide)) q_21a q_21c (g := (mkF m 27 #[.val (.ref r), .val (.ref y)] [(.ref y), (.ref a)])) rfl (by rw [hml]; rfl) (Steps.refl _) (argsL := [(.ref y)]) (rest := []) (lenOf pd_10 rfl) rfl (by show 2 * 0 + _ ≤ _; exact Nat.le_of_eq rfl) (hb hby d15_27) (fun _ _ => ⟨rfl, e_19, (by decide : 2 + 0 ≤ _), (by decide : 148 + 0 ≤ _)⟩)
      dsimp only [Pt.U, Pt.locs, Pt.cells, Pt.slots] at X_21 l_21 y_21 z_21 st_21 hQ_21
      subst l_21 y_21 z_21
      obtain ⟨r2, rfl, Nq_21, eh_21, h2⟩ := hQ_21
      have N_22 := Fr.app N_13 Nq_21
      have pre_21 : Rch p.tables e below (s₁.setTop (entryFrame m #[(.ref r), (.ref y)] 2)) (T_21.setTop (mkF m 30 #[.val (.ref r), .val (.ref y)] [(.int r2)])) := fun tgt ktg => pre_20 tgt (st_21.trans ktg)
      by_cases c_23 : r2 = (0 : Int32)
      · skip
        have pre_24 : Rch p.tables e below (s₁.setTop (entryFrame m #[(.ref r), (.ref y)] 2)) (T_21.setTop (mkF m 37 #[.val (.ref r), .val (.ref y)] [])) := fun tgt ktg => pre_21 tgt (by
          show Steps p.tables e below (T_21.setTop (mkF m 30 #[.val (.ref r), .val (.ref y)] [(.int r2)])) _
          refine XS.ifYes X_21.here hx rfl (pc0 := 30) (pc' := 37) rfl (hb hby d15_30) rfl ((if0 _ _).trans (teq c_23).1) (by decide) (by decide) ?_
          exact ktg)
        have pre_25 : Rch p.tables e below (s₁.setTop (entryFrame m #[(.ref r), (.ref y)] 2)) (T_21.setTop (mkF m 38 #[.val (.ref r), .val (.ref y)] [(.int (0 : Int32))])) := fun tgt ktg => pre_24 tgt (by
          show Steps p.tables e below (T_21.setTop (mkF m 37 #[.val (.ref r), .val (.ref y)] [])) _
          refine XS.iconst X_21.here hx rfl (hb hby d15_37) ?_
          exact ktg)
        obtain ⟨fs, hr, hrun, hended, hW⟩ := X_21.leaveW hS_8 (by rw [eh_21]; exact hk_8) (v := some (.int (0 : Int32))) (fun h => by rw [Bd.returns] at h; cases h)
        refine ⟨_, _, pre_25 _ ?_, hrun, hended, _, _, rfl, ?_, ?_, hW.1, hW.2.1, hW.2.2.1, hW.2.2.2.mono (by decide) (by decide)⟩
        · show Steps p.tables e below (T_21.setTop (mkF m 38 #[.val (.ref r), .val (.ref y)] [(.int (0 : Int32))])) _
          exact retN X_21 hx (t := .boolean) Bd.returns (by simp) (hb hby d15_38) hr
        · show Qsf Z r y a st b t z bs ts kb kt h0 n0 _ T_21.heap _
          rw [eh_21]
          exact ⟨_, rfl, N_22, K_11, Or.inr ⟨rfl, fun q => h2.elim (fun k => absurd (k.1.symm.trans c_23) (by decide)) (fun k => k.2 q.2.2)⟩⟩
        · show CHr Z consts_1 s.vm s.heap T_21.vm T_21.heap
          rw [hh, eh_21]
          exact C_9.trans (CHv.at X_21 hZ hEL C_9.1)
      · skip
        have pre_26 : Rch p.tables e below (s₁.setTop (entryFrame m #[(.ref r), (.ref y)] 2)) (T_21.setTop (mkF m 33 #[.val (.ref r), .val (.ref y)] [])) := fun tgt ktg => pre_21 tgt (by
          show Steps p.tables e below (T_21.setTop (mkF m 30 #[.val (.ref r), .val (.ref y)] [(.int r2)])) _
          refine XS.ifNo X_21.here hx rfl (hb hby d15_30) rfl ((if0 _ _).trans (feq c_23).1) ?_
          exact ktg)
        have pre_27 : Rch p.tables e below (s₁.setTop (entryFrame m #[(.ref r), (.ref y)] 2)) (T_21.setTop (mkF m 38 #[.val (.ref r), .val (.ref y)] [(.int (1 : Int32))])) := fun tgt ktg => pre_26 tgt (by
          show Steps p.tables e below (T_21.setTop (mkF m 33 #[.val (.ref r), .val (.ref y)] [])) _
          refine XS.iconst X_21.here hx rfl (hb hby d15_33) ?_
          show Steps p.tables e below (T_21.setTop (mkF m 34 #[.val (.ref r), .val (.ref y)] [(.int (1 : Int32))])) _
          refine XS.goto X_21.here hx rfl (pc0 := 34) (pc' := 38) rfl (hb hby d15_34) (by decide) (by decide) ?_
          exact ktg)
        obtain ⟨fs, hr, hrun, hended, hW⟩ := X_21.leaveW hS_8 (by rw [eh_21]; exact hk_8) (v := some (.int (1 : Int32))) (fun h => by rw [Bd.returns] at h; cases h)
        refine ⟨_, _, pre_27 _ ?_, hrun, hended, _, _, rfl, ?_, ?_, hW.1, hW.2.1, hW.2.2.1, hW.2.2.2.mono (by decide) (by decide)⟩
        · show Steps p.tables e below (T_21.setTop (mkF m 38 #[.val (.ref r), .val (.ref y)] [(.int (1 : Int32))])) _
          exact retN X_21 hx (t := .boolean) Bd.returns (by simp) (hb hby d15_38) hr
        · show Qsf Z r y a st b t z bs ts kb kt h0 n0 _ T_21.heap _
          rw [eh_21]
          exact ⟨_, rfl, N_22, K_11, Or.inl ⟨rfl, c_4, m1, h2.elim (fun q => q.2) (fun q => absurd q.1 c_23)⟩⟩
        · show CHr Z consts_1 s.vm s.heap T_21.vm T_21.heap
          rw [hh, eh_21]
          exact C_9.trans (CHv.at X_21 hZ hEL C_9.1)
  · skip
    have pre_28 : Rch p.tables e below (s₁.setTop (entryFrame m #[(.ref r), (.ref y)] 2)) (T_2.setTop (mkF m 37 #[.val (.ref r), .val (.ref y)] [])) := fun tgt ktg => pre_3 tgt (by
      show Steps p.tables e below (T_2.setTop (mkF m 7 #[.val (.ref r), .val (.ref y)] [(.int (400 : Int32)), (.int st)])) _
      refine XS.icmpYes X_2.here hx rfl (pc0 := 7) (pc' := 37) rfl (hb hby d15_7) rfl (feq c_4).2 (by decide) (by decide) ?_
      exact ktg)
    have pre_29 : Rch p.tables e below (s₁.setTop (entryFrame m #[(.ref r), (.ref y)] 2)) (T_2.setTop (mkF m 38 #[.val (.ref r), .val (.ref y)] [(.int (0 : Int32))])) := fun tgt ktg => pre_28 tgt (by
      show Steps p.tables e below (T_2.setTop (mkF m 37 #[.val (.ref r), .val (.ref y)] [])) _
      refine XS.iconst X_2.here hx rfl (hb hby d15_37) ?_
      exact ktg)
    obtain ⟨fs, hr, hrun, hended, hW⟩ := X_2.leaveW hS0 (by rw [e_2]; exact hk0) (v := some (.int (0 : Int32))) (fun h => by rw [Bd.returns] at h; cases h)
    refine ⟨_, _, pre_29 _ ?_, hrun, hended, _, _, rfl, ?_, ?_, hW.1, hW.2.1, hW.2.2.1, hW.2.2.2.mono (by decide) (by decide)⟩
    · show Steps p.tables e below (T_2.setTop (mkF m 38 #[.val (.ref r), .val (.ref y)] [(.int (0 : Int32))])) _
      exact retN X_2 hx (t := .boolean) Bd.returns (by simp) (hb hby d15_38) hr
    · show Qsf Z r y a st b t z bs ts kb kt h0 n0 _ T_2.heap _
      rw [e_2]
      exact ⟨_, rfl, N0, K0, Or.inr ⟨rfl, fun q => c_4 q.1⟩⟩
    · show CHr Z consts_1 s.vm s.heap T_2.vm T_2.heap
      rw [hh, e_2]
      exact C0.trans (CHv.at X_2 hZ hEL C0.1)
theorem d23_0 : decode jdk_43_method_3_code 0 = .ok (.iload_n 0, 1) := by decide +kernel
theorem d23_1 : decode jdk_43_method_3_code 1 = .ok (.sipush 255, 3) := by decide +kernel
theorem d23_4 : decode jdk_43_method_3_code 4 = .ok (.if_icmp .gt 7, 3) := by decide +kernel
theorem d23_7 : decode jdk_43_method_3_code 7 = .ok (.iconst 1, 1) := by decide +kernel
theorem d23_8 : decode jdk_43_method_3_code 8 = .ok (.goto 4, 3) := by decide +kernel
theorem d23_12 : decode jdk_43_method_3_code 12 = .ok (.ireturn, 1) := by decide +kernel
theorem ef_ce (m : MethodId) (x0 : Int32) : entryFrame m #[(.int x0)] 1 = mkF m 0 #[.val (.int x0)] [] := by first | (simp [entryFrame, mkF, argsToLocals, Value.category]; done) | rfl
def Qce (Z : State) (q : Int32) (h0 : Heap) (n0 : Nat) (v : Option Value) (h : Heap) (L : List Loc) : Prop := v = some (.int 1) ∧ Fr n0 L ∧ h = h0
set_option maxRecDepth 65536 in
set_option maxHeartbeats 40000000 in
theorem rmce (l : Launch) (Z : State) (a0 : Array Value) (hw : ∀ d ∈ tables_1, d.before a0 Z = true) (ws : List Jvm.Cond) (q : Int32) (h0 : Heap) (n0 : Nat) (Z0 : n0 ≤ h0.size) (hq : ¬ (255 : Int32) < q) :
    MetFree l (⟨"java/lang/StringLatin1", "canEncode", "(C)Z"⟩ : MethodName) (head1 (Jvm.Cond.code (⟨"java/lang/StringLatin1", "canEncode", "(C)Z"⟩ : MethodName) jdk_43_method_3_code 1 (some .boolean) :: ws) ({ frames := 0, cells := 0, slots := 0, locals := 0 } : Room)) (fun aA U => aA = #[(.int q)] ∧ Z.Warmed39 U.vm ∧ U.heap = h0) (fun _ _ _ _ _ => True) (fun _ U oO U' => ∃ vV LL, oO = .returned vV ∧ Qce Z q h0 n0 vV U'.heap LL ∧ FrameEnd U oO U' LL ({ frames := 0, cells := 0, slots := 0, locals := 0 } : Room).cells ({ frames := 0, cells := 0, slots := 0, locals := 0 } : Room).slots) := by
  refine MetFree.of_bodySF (plainFor_of_name pn_0) hisR ?_
  intro p e s m args below meth c s₁ Bd hml0 hP hK
  obtain ⟨rfl, hZ, hh⟩ := hP
  have hx := Bd.exec
  have hby := Bd.bytes
  have hml : c.maxLocals = 1 := hml0
  have hown : s.vm.findClass "java/lang/StringLatin1" = some m.cls := findClass_of_methodNamed Bd.named
  have hnm := (name_of_methodNamed Bd.named Bd.method).1
  have X0 : Stand p l e ({ frames := 0, cells := 0, slots := 0, locals := 0 } : Room) s m #[(.int q)] below meth c s₁ [] 0 0 := Stand.of_body Bd
  have e0 : s₁.heap = h0 := by rw [← hh, Bd.state]; rfl
  have N0 := Fr.nil n0
  have K0 : Keep h0 h0 [] := Keep.refl _ _
  have pre0 : Rch p.tables e below (s₁.setTop (entryFrame m #[(.int q)] 1)) (s₁.setTop (mkF m 0 #[.val (.int q)] [])) := fun tgt ktg => castTop (ef_ce m q) ktg
  have pre_1 : Rch p.tables e below (s₁.setTop (entryFrame m #[(.int q)] 1)) (s₁.setTop (mkF m 12 #[.val (.int q)] [(.int (1 : Int32))])) := fun tgt ktg => pre0 tgt (by
    show Steps p.tables e below (s₁.setTop (mkF m 0 #[.val (.int q)] [])) _
    refine XS.iloadN X0.here hx rfl (hb hby d23_0) rfl ?_
    show Steps p.tables e below (s₁.setTop (mkF m 1 #[.val (.int q)] [(.int q)])) _
    refine XS.sipush X0.here hx rfl (hb hby d23_1) ?_
    show Steps p.tables e below (s₁.setTop (mkF m 4 #[.val (.int q)] [(.int (255 : Int32)), (.int q)])) _
    refine XS.icmpNo X0.here hx rfl (hb hby d23_4) rfl (flt hq).2.2.1 ?_
    show Steps p.tables e below (s₁.setTop (mkF m 7 #[.val (.int q)] [])) _
    refine XS.iconst X0.here hx rfl (hb hby d23_7) ?_
    show Steps p.tables e below (s₁.setTop (mkF m 8 #[.val (.int q)] [(.int (1 : Int32))])) _
    refine XS.goto X0.here hx rfl (pc0 := 8) (pc' := 12) rfl (hb hby d23_8) (by decide) (by decide) ?_
    exact ktg)
  obtain ⟨fs, hr, hrun, hended, hW, hsame⟩ := X0.leave (v := some (.int (1 : Int32))) (fun h => by rw [Bd.returns] at h; cases h)
  refine ⟨_, _, pre_1 _ ?_, hrun, hended, _, _, rfl, ?_, ⟨_, rfl⟩, hW, hsame.mono (by decide) (by decide)⟩
  · show Steps p.tables e below (s₁.setTop (mkF m 12 #[.val (.int q)] [(.int (1 : Int32))])) _
    exact retN X0 hx (t := .boolean) Bd.returns (by simp) (hb hby d23_12) hr
  · show Qce Z q h0 n0 _ s₁.heap _
    rw [e0]
    exact ⟨rfl, N0, rfl⟩
theorem d24_0 : decode jdk_43_method_46_code 0 = .ok (.iconst 1, 1) := by decide +kernel
theorem d24_1 : decode jdk_43_method_46_code 1 = .ok (.newarray .byte, 2) := by decide +kernel
theorem d24_3 : decode jdk_43_method_46_code 3 = .ok (.dup, 1) := by decide +kernel
theorem d24_4 : decode jdk_43_method_46_code 4 = .ok (.iconst 0, 1) := by decide +kernel
theorem d24_5 : decode jdk_43_method_46_code 5 = .ok (.iload_n 0, 1) := by decide +kernel
theorem d24_6 : decode jdk_43_method_46_code 6 = .ok (.i2b, 1) := by decide +kernel
theorem d24_7 : decode jdk_43_method_46_code 7 = .ok (.bastore, 1) := by decide +kernel
theorem d24_8 : decode jdk_43_method_46_code 8 = .ok (.areturn, 1) := by decide +kernel
theorem ef_tb (m : MethodId) (x0 : Int32) : entryFrame m #[(.int x0)] 1 = mkF m 0 #[.val (.int x0)] [] := by first | (simp [entryFrame, mkF, argsToLocals, Value.category]; done) | rfl
def Qtb (Z : State) (q : Int32) (h0 : Heap) (n0 : Nat) (v : Option Value) (h : Heap) (L : List Loc) : Prop := ∃ (ba : Addr) (kb : ClassId), v = some (.ref ba) ∧ Fr n0 L ∧ Keep h0 h [] ∧ h0.size ≤ ba ∧ n0 ≤ ba ∧ Arv Z h ba kb .byte (1 : Int32) [(.int (q.toInt8.toInt32))] (.int (0 : Int32))
set_option maxRecDepth 65536 in
set_option maxHeartbeats 40000000 in
theorem rmtb (l : Launch) (Z : State) (a0 : Array Value) (hw : ∀ d ∈ tables_1, d.before a0 Z = true) (ws : List Jvm.Cond) (q : Int32) (h0 : Heap) (n0 : Nat) (Z0 : n0 ≤ h0.size)  :
    MetFree l (⟨"java/lang/StringLatin1", "toBytes", "(C)[B"⟩ : MethodName) (head1 (Jvm.Cond.code (⟨"java/lang/StringLatin1", "toBytes", "(C)[B"⟩ : MethodName) jdk_43_method_46_code 1 (some (.array .byte)) :: ws) ({ frames := 0, cells := 1, slots := 1, locals := 0 } : Room)) (fun aA U => aA = #[(.int q)] ∧ Z.Warmed39 U.vm ∧ U.heap = h0) (fun _ _ _ _ _ => True) (fun _ U oO U' => ∃ vV LL, oO = .returned vV ∧ Qtb Z q h0 n0 vV U'.heap LL ∧ FrameEnd U oO U' LL ({ frames := 0, cells := 1, slots := 1, locals := 0 } : Room).cells ({ frames := 0, cells := 1, slots := 1, locals := 0 } : Room).slots) := by
  refine MetFree.of_bodySF (plainFor_of_name pn_0) hisR ?_
  intro p e s m args below meth c s₁ Bd hml0 hP hK
  obtain ⟨rfl, hZ, hh⟩ := hP
  have hx := Bd.exec
  have hby := Bd.bytes
  have hml : c.maxLocals = 1 := hml0
  have hown : s.vm.findClass "java/lang/StringLatin1" = some m.cls := findClass_of_methodNamed Bd.named
  have hnm := (name_of_methodNamed Bd.named Bd.method).1
  have X0 : Stand p l e ({ frames := 0, cells := 1, slots := 1, locals := 0 } : Room) s m #[(.int q)] below meth c s₁ [] 0 0 := Stand.of_body Bd
  have e0 : s₁.heap = h0 := by rw [← hh, Bd.state]; rfl
  have N0 := Fr.nil n0
  have K0 : Keep h0 h0 [] := Keep.refl _ _
  have pre0 : Rch p.tables e below (s₁.setTop (entryFrame m #[(.int q)] 1)) (s₁.setTop (mkF m 0 #[.val (.int q)] [])) := fun tgt ktg => castTop (ef_tb m q) ktg
  have pre_1 : Rch p.tables e below (s₁.setTop (entryFrame m #[(.int q)] 1)) (s₁.setTop (mkF m 1 #[.val (.int q)] [(.int (1 : Int32))])) := fun tgt ktg => pre0 tgt (by
    show Steps p.tables e below (s₁.setTop (mkF m 0 #[.val (.int q)] [])) _
    refine XS.iconst X0.here hx rfl (hb hby d24_0) ?_
    exact ktg)
  obtain ⟨T_2, h_2, k_2, X_2, e_2, E_2, A_2, st_2⟩ := newP X0 hx hZ (hw _ (List.mem_of_getElem? (i := 7) rfl)) e0 (g := (mkF m 1 #[.val (.int q)] [(.int (1 : Int32))])) rfl (hb hby d24_1) rfl (by decide) (cap := 1) (by decide) (by decide) (by decide) (by decide)
  obtain ⟨ba, g_2⟩ : ∃ nm_, nm_ = h0.size := ⟨_, rfl⟩
  rw [← g_2] at A_2 st_2
  have g_ba : n0 ≤ ba := Nat.le_trans Z0 (Nat.le_of_eq g_2.symm)
  have sz_ba : h0.size ≤ ba := Nat.le_trans K0.1 (Nat.le_of_eq g_2.symm)
  have pre_2 : Rch p.tables e below (s₁.setTop (entryFrame m #[(.int q)] 1)) (T_2.setTop (mkF m 3 #[.val (.int q)] [(.ref ba)])) := fun tgt ktg => pre_1 tgt (st_2 tgt ktg)
  have z_3 : n0 ≤ h_2.size := Nat.le_trans Z0 E_2.1
  have K_4 : Keep h0 h_2 [] := K0.ext E_2
  have f_5 : Arv Z h_2 ba k_2 .byte (1 : Int32) [(.int (0 : Int32))] (.int (0 : Int32)) := (Arv.new A_2 (by decide)).pad (pad_rep [] (.int (0 : Int32)) 1)
  have pre_6 : Rch p.tables e below (s₁.setTop (entryFrame m #[(.int q)] 1)) (T_2.setTop (mkF m 7 #[.val (.int q)] [(.int (q.toInt8.toInt32)), (.int (0 : Int32)), (.ref ba), (.ref ba)])) := fun tgt ktg => pre_2 tgt (by
    show Steps p.tables e below (T_2.setTop (mkF m 3 #[.val (.int q)] [(.ref ba)])) _
    refine XS.dup X_2.here hx rfl (hb hby d24_3) rfl rfl ?_
    show Steps p.tables e below (T_2.setTop (mkF m 4 #[.val (.int q)] [(.ref ba), (.ref ba)])) _
    refine XS.iconst X_2.here hx rfl (hb hby d24_4) ?_
    show Steps p.tables e below (T_2.setTop (mkF m 5 #[.val (.int q)] [(.int (0 : Int32)), (.ref ba), (.ref ba)])) _
    refine XS.iloadN X_2.here hx rfl (hb hby d24_5) rfl ?_
    show Steps p.tables e below (T_2.setTop (mkF m 6 #[.val (.int q)] [(.int q), (.int (0 : Int32)), (.ref ba), (.ref ba)])) _
    refine XT.i2b X_2.here hx rfl (hb hby d24_6) rfl ?_
    exact ktg)
  obtain ⟨cl__7, Ar__7, q__7, S__7, N__7, H__7, G__7⟩ := id f_5
  have hin__7 : ¬ ((0 : Int32) < 0 ∨ cl__7.slots.size ≤ ((0 : Int32)).toNatClampNeg) := inb_of S__7 ⟨by decide, by decide⟩
  obtain ⟨T_8, h_8, X_8, e_8, W_8, st_8⟩ := stB X_2 hx hZ e_2 Ar__7 (j := (0 : Int32)) hin__7 (g := (mkF m 7 #[.val (.int q)] [(.int (q.toInt8.toInt32)), (.int (0 : Int32)), (.ref ba), (.ref ba)])) rfl rfl (hb hby d24_7)
  have pre_8 : Rch p.tables e below (s₁.setTop (entryFrame m #[(.int q)] 1)) (T_8.setTop (mkF m 8 #[.val (.int q)] [(.ref ba)])) := fun tgt ktg => pre_6 tgt (st_8 tgt ktg)
  have z_9 : n0 ≤ h_8.size := Nat.le_trans z_3 (Keep.of_wr W_8).1
  have K_10 : Keep h0 h_8 [] := K_4.wr W_8 (Or.inr sz_ba)
  have f_11 : Arv Z h_8 ba k_2 .byte (1 : Int32) [(.int (nar .byte (q.toInt8.toInt32)))] (.int (0 : Int32)) := Arv.set Ar__7 q__7 S__7 N__7 H__7 G__7 (fits_nar_byte _) W_8 0 rfl (Nat.le_of_ble_eq_true rfl)
  have N_12 := Fr.snoc X_8 N0 g_ba
  rw [own_idem] at f_11
  obtain ⟨fs, hr, hrun, hended, hW, hsame⟩ := X_8.leave (v := some (.ref ba)) (fun h => by rw [Bd.returns] at h; cases h)
  refine ⟨_, _, pre_8 _ ?_, hrun, hended, _, _, rfl, ?_, ⟨_, rfl⟩, hW, hsame.mono (by decide) (by decide)⟩
  · show Steps p.tables e below (T_8.setTop (mkF m 8 #[.val (.int q)] [(.ref ba)])) _
    jvm_step X_8.here [X_8.here.top, hx, (hb hby d24_8), X_8.method', Bd.returns, Value.isRef, FieldType.isReference]
    first | (intro acts; rw [hr _ acts rfl rfl rfl]) | rw [hr _ _ rfl rfl rfl]
    exact Steps.refl _
  · show Qtb Z q h0 n0 _ T_8.heap _
    rw [e_8]
    exact ⟨ba, k_2, rfl, N_12, K_10, sz_ba, g_ba, f_11⟩
theorem d25_0 : decode jdk_42_method_151_code 0 = .ok (.aload_n 0, 1) := by decide +kernel
theorem d25_1 : decode jdk_42_method_151_code 1 = .ok (.invokespecial 1, 3) := by decide +kernel
theorem d25_4 : decode jdk_42_method_151_code 4 = .ok (.aload_n 0, 1) := by decide +kernel
theorem d25_5 : decode jdk_42_method_151_code 5 = .ok (.aload_n 1, 1) := by decide +kernel
theorem d25_6 : decode jdk_42_method_151_code 6 = .ok (.putfield 9, 3) := by decide +kernel
theorem d25_9 : decode jdk_42_method_151_code 9 = .ok (.aload_n 0, 1) := by decide +kernel
theorem d25_10 : decode jdk_42_method_151_code 10 = .ok (.iload_n 2, 1) := by decide +kernel
theorem d25_11 : decode jdk_42_method_151_code 11 = .ok (.putfield 15, 3) := by decide +kernel
theorem d25_14 : decode jdk_42_method_151_code 14 = .ok (.return_, 1) := by decide +kernel
theorem ef_bb (m : MethodId) (x0 : Addr) (x1 : Addr) (x2 : Int32) : entryFrame m #[(.ref x0), (.ref x1), (.int x2)] 3 = mkF m 0 #[.val (.ref x0), .val (.ref x1), .val (.int x2)] [] := by first | (simp [entryFrame, mkF, argsToLocals, Value.category]; done) | rfl
def Qbb (Z : State) (a : Addr) (ba : Addr) (h0 : Heap) (n0 : Nat) (v : Option Value) (h : Heap) (L : List Loc) : Prop := v = none ∧ Fr n0 L ∧ Keep h0 h [a] ∧ Exa Z h a "java/lang/String" ∧ Fld Z h a "java/lang/String" "coder" "B" (.int (0 : Int32)) ∧ Fld Z h a "java/lang/String" "value" "[B" (.ref ba)
set_option maxRecDepth 65536 in
set_option maxHeartbeats 40000000 in
theorem rmbb (l : Launch) (Z : State) (a0 : Array Value) (hw : ∀ d ∈ tables_1, d.before a0 Z = true) (ws : List Jvm.Cond) (a : Addr) (ba : Addr) (h0 : Heap) (n0 : Nat) (Z0 : n0 ≤ h0.size) (E1 : Exa Z h0 a "java/lang/String") (F1 : Fld Z h0 a "java/lang/String" "value" "[B" .null) (F2 : Fld Z h0 a "java/lang/String" "coder" "B" (.int (0 : Int32))) (ga : n0 ≤ a) :
    MetFree l (⟨"java/lang/String", "<init>", "([BB)V"⟩ : MethodName) (head1 (Jvm.Cond.code (⟨"java/lang/String", "<init>", "([BB)V"⟩ : MethodName) jdk_42_method_151_code 3 none :: ws) ({ frames := 1, cells := 0, slots := 0, locals := 12 } : Room)) (fun aA U => aA = #[(.ref a), (.ref ba), (.int (0 : Int32))] ∧ Z.Warmed39 U.vm ∧ U.heap = h0) (fun _ _ _ _ _ => True) (fun _ U oO U' => ∃ vV LL, oO = .returned vV ∧ Qbb Z a ba h0 n0 vV U'.heap LL ∧ FrameEnd U oO U' LL ({ frames := 1, cells := 0, slots := 0, locals := 12 } : Room).cells ({ frames := 1, cells := 0, slots := 0, locals := 12 } : Room).slots) := by
  refine MetFree.of_bodySF (plainFor_of_name pn_1) hisR ?_
  intro p e s m args below meth c s₁ Bd hml0 hP hK
  obtain ⟨rfl, hZ, hh⟩ := hP
  have hx := Bd.exec
  have hby := Bd.bytes
  have hml : c.maxLocals = 3 := hml0
  have hown : s.vm.findClass "java/lang/String" = some m.cls := findClass_of_methodNamed Bd.named
  have hnm := (name_of_methodNamed Bd.named Bd.method).1
  have X0 : Stand p l e ({ frames := 1, cells := 0, slots := 0, locals := 12 } : Room) s m #[(.ref a), (.ref ba), (.int (0 : Int32))] below meth c s₁ [] 0 0 := Stand.of_body Bd
  have e0 : s₁.heap = h0 := by rw [← hh, Bd.state]; rfl
  have N0 := Fr.nil n0
  have K0 : Keep h0 h0 [a] := Keep.refl _ _
  have pre0 : Rch p.tables e below (s₁.setTop (entryFrame m #[(.ref a), (.ref ba), (.int (0 : Int32))] 3)) (s₁.setTop (mkF m 0 #[.val (.ref a), .val (.ref ba), .val (.int (0 : Int32))] [])) := fun tgt ktg => castTop (ef_bb m a ba (0 : Int32)) ktg
  have pre_1 : Rch p.tables e below (s₁.setTop (entryFrame m #[(.ref a), (.ref ba), (.int (0 : Int32))] 3)) (s₁.setTop (mkF m 1 #[.val (.ref a), .val (.ref ba), .val (.int (0 : Int32))] [(.ref a)])) := fun tgt ktg => pre0 tgt (by
    show Steps p.tables e below (s₁.setTop (mkF m 0 #[.val (.ref a), .val (.ref ba), .val (.int (0 : Int32))] [])) _
    refine XS.aloadN X0.here hx rfl (hb hby d25_0) rfl rfl ?_
    exact ktg)
  obtain ⟨T_2, X_2, e_2, st_2⟩ := initO X0 hx hZ hown (hw _ (List.mem_of_getElem? (i := 47) rfl)) (hw _ (List.mem_of_getElem? (i := 48) rfl)) (hw _ (List.mem_of_getElem? (i := 49) rfl)) e0 (g := (mkF m 1 #[.val (.ref a), .val (.ref ba), .val (.int (0 : Int32))] [(.ref a)])) rfl (by rw [hml]; rfl) rfl (hb hby d25_1) (by decide) (W := 0) (by show 2 * 0 + _ ≤ _; exact Nat.le_of_eq rfl) (by decide)
  have pre_2 : Rch p.tables e below (s₁.setTop (entryFrame m #[(.ref a), (.ref ba), (.int (0 : Int32))] 3)) (T_2.setTop (mkF m 4 #[.val (.ref a), .val (.ref ba), .val (.int (0 : Int32))] [])) := fun tgt ktg => pre_1 tgt (st_2 tgt ktg)
  have pre_3 : Rch p.tables e below (s₁.setTop (entryFrame m #[(.ref a), (.ref ba), (.int (0 : Int32))] 3)) (T_2.setTop (mkF m 6 #[.val (.ref a), .val (.ref ba), .val (.int (0 : Int32))] [(.ref ba), (.ref a)])) := fun tgt ktg => pre_2 tgt (by
    show Steps p.tables e below (T_2.setTop (mkF m 4 #[.val (.ref a), .val (.ref ba), .val (.int (0 : Int32))] [])) _
    refine XS.aloadN X_2.here hx rfl (hb hby d25_4) rfl rfl ?_
    show Steps p.tables e below (T_2.setTop (mkF m 5 #[.val (.ref a), .val (.ref ba), .val (.int (0 : Int32))] [(.ref a)])) _
    refine XS.aloadN X_2.here hx rfl (hb hby d25_5) rfl rfl ?_
    exact ktg)
  obtain ⟨T_4, h_4, X_4, e_4, W_4, st_4⟩ := putF X_2 hx hZ hown (host := "") (Or.inl (hw _ (List.mem_of_getElem? (i := 25) rfl))) Via.refl e_2 F1 E1 (Or.inr ⟨(hw _ (List.mem_of_getElem? (i := 8) rfl)), rfl, hnm⟩) (hw _ (List.mem_of_getElem? (i := 6) rfl)) (ty := (.array .byte)) (by decide) rfl rfl (g := (mkF m 6 #[.val (.ref a), .val (.ref ba), .val (.int (0 : Int32))] [(.ref ba), (.ref a)])) rfl rfl (hb hby d25_6)
  have pre_4 : Rch p.tables e below (s₁.setTop (entryFrame m #[(.ref a), (.ref ba), (.int (0 : Int32))] 3)) (T_4.setTop (mkF m 9 #[.val (.ref a), .val (.ref ba), .val (.int (0 : Int32))] [])) := fun tgt ktg => pre_3 tgt (st_4 tgt ktg)
  have f_5 : Exa Z h_4 a "java/lang/String" := E1.wr W_4
  have f_6 : Fld Z h_4 a "java/lang/String" "coder" "B" (.int (0 : Int32)) := F2.other W_4 (Or.inr (slot_ne (Or.inr (hw _ (List.mem_of_getElem? (i := 9) rfl))) (Or.inr (hw _ (List.mem_of_getElem? (i := 8) rfl))) (by decide) (t := .byte) (t' := (.array .byte)) (by decide) (by decide)))
  have z_7 : n0 ≤ h_4.size := Nat.le_trans Z0 (Keep.of_wr W_4).1
  have K_8 : Keep h0 h_4 [a] := K0.wr W_4 (Or.inl (List.mem_of_getElem? (i := 0) rfl))
  have f_9 : Fld Z h_4 a "java/lang/String" "value" "[B" (.ref ba) := F1.same W_4
  have N_10 := Fr.snoc X_4 N0 ga
  have pre_11 : Rch p.tables e below (s₁.setTop (entryFrame m #[(.ref a), (.ref ba), (.int (0 : Int32))] 3)) (T_4.setTop (mkF m 11 #[.val (.ref a), .val (.ref ba), .val (.int (0 : Int32))] [(.int (0 : Int32)), (.ref a)])) := fun tgt ktg => pre_4 tgt (by
    show Steps p.tables e below (T_4.setTop (mkF m 9 #[.val (.ref a), .val (.ref ba), .val (.int (0 : Int32))] [])) _
    refine XS.aloadN X_4.here hx rfl (hb hby d25_9) rfl rfl ?_
    show Steps p.tables e below (T_4.setTop (mkF m 10 #[.val (.ref a), .val (.ref ba), .val (.int (0 : Int32))] [(.ref a)])) _
    refine XS.iloadN X_4.here hx rfl (hb hby d25_10) rfl ?_
    exact ktg)
  obtain ⟨T_12, h_12, X_12, e_12, W_12, st_12⟩ := putFN X_4 hx hZ hown (hw _ (List.mem_of_getElem? (i := 24) rfl)) Via.refl e_4 f_6 f_5 (Or.inr ⟨(hw _ (List.mem_of_getElem? (i := 9) rfl)), rfl, hnm⟩) (hw _ (List.mem_of_getElem? (i := 6) rfl)) (ty := .byte) (v' := (.int (0 : Int32))) (by decide) rfl (by decide) (g := (mkF m 11 #[.val (.ref a), .val (.ref ba), .val (.int (0 : Int32))] [(.int (0 : Int32)), (.ref a)])) rfl rfl (hb hby d25_11)
  have pre_12 : Rch p.tables e below (s₁.setTop (entryFrame m #[(.ref a), (.ref ba), (.int (0 : Int32))] 3)) (T_12.setTop (mkF m 14 #[.val (.ref a), .val (.ref ba), .val (.int (0 : Int32))] [])) := fun tgt ktg => pre_11 tgt (st_12 tgt ktg)
  have f_13 : Exa Z h_12 a "java/lang/String" := f_5.wr W_12
  have f_14 : Fld Z h_12 a "java/lang/String" "value" "[B" (.ref ba) := f_9.other W_12 (Or.inr (slot_ne (Or.inr (hw _ (List.mem_of_getElem? (i := 8) rfl))) (Or.inr (hw _ (List.mem_of_getElem? (i := 9) rfl))) (by decide) (t := (.array .byte)) (t' := .byte) (by decide) (by decide)))
  have z_15 : n0 ≤ h_12.size := Nat.le_trans z_7 (Keep.of_wr W_12).1
  have K_16 : Keep h0 h_12 [a] := K_8.wr W_12 (Or.inl (List.mem_of_getElem? (i := 0) rfl))
  have f_17 : Fld Z h_12 a "java/lang/String" "coder" "B" (.int (0 : Int32)) := f_6.same W_12
  have N_18 := Fr.snoc X_12 N_10 ga
  obtain ⟨fs, hr, hrun, hended, hW, hsame⟩ := X_12.leave (v := none) (fun _ => rfl)
  refine ⟨_, _, pre_12 _ ?_, hrun, hended, _, _, rfl, ?_, ⟨_, rfl⟩, hW, hsame.mono (by decide) (by decide)⟩
  · show Steps p.tables e below (T_12.setTop (mkF m 14 #[.val (.ref a), .val (.ref ba), .val (.int (0 : Int32))] [])) _
    exact X_12.returnOut hx Bd.returns (hb hby d25_14) hr
  · show Qbb Z a ba h0 n0 _ T_12.heap _
    rw [e_12]
    exact ⟨rfl, N_18, K_16, f_13, f_17, f_14⟩
theorem d22_0 : decode jdk_42_method_139_code 0 = .ok (.getstatic 38, 3) := by decide +kernel
theorem d22_3 : decode jdk_42_method_139_code 3 = .ok (.ifCond .eq 23, 3) := by decide +kernel
theorem d22_6 : decode jdk_42_method_139_code 6 = .ok (.iload_n 0, 1) := by decide +kernel
theorem d22_7 : decode jdk_42_method_139_code 7 = .ok (.invokestatic 1015, 3) := by decide +kernel
theorem pd_11 : parseMethodDescriptor "(C)Z" = some ⟨[.char], some .boolean⟩ := by decide +kernel
theorem d22_10 : decode jdk_42_method_139_code 10 = .ok (.ifCond .eq 16, 3) := by decide +kernel
theorem d22_13 : decode jdk_42_method_139_code 13 = .ok (.new 10, 3) := by decide +kernel
theorem d22_16 : decode jdk_42_method_139_code 16 = .ok (.dup, 1) := by decide +kernel
theorem d22_17 : decode jdk_42_method_139_code 17 = .ok (.iload_n 0, 1) := by decide +kernel
theorem d22_18 : decode jdk_42_method_139_code 18 = .ok (.invokestatic 1018, 3) := by decide +kernel
theorem pd_12 : parseMethodDescriptor "(C)[B" = some ⟨[.char], some (.array .byte)⟩ := by decide +kernel
theorem d22_21 : decode jdk_42_method_139_code 21 = .ok (.iconst 0, 1) := by decide +kernel
theorem d22_22 : decode jdk_42_method_139_code 22 = .ok (.invokespecial 209, 3) := by decide +kernel
theorem pd_13 : parseMethodDescriptor "([BB)V" = some ⟨[(.array .byte), .byte], none⟩ := by decide +kernel
theorem d22_25 : decode jdk_42_method_139_code 25 = .ok (.areturn, 1) := by decide +kernel
theorem ef_vo (m : MethodId) (x0 : Int32) : entryFrame m #[(.int x0)] 1 = mkF m 0 #[.val (.int x0)] [] := by first | (simp [entryFrame, mkF, argsToLocals, Value.category]; done) | rfl
def Qvo (Z : State) (q : Int32) (h0 : Heap) (n0 : Nat) (v : Option Value) (h : Heap) (L : List Loc) : Prop := ∃ (a b : Addr) (kb : ClassId), v = some (.ref a) ∧ Fr n0 L ∧ Keep h0 h [] ∧ Exa Z h a "java/lang/String" ∧ Fld Z h a "java/lang/String" "coder" "B" (.int (0 : Int32)) ∧ Fld Z h a "java/lang/String" "value" "[B" (.ref b) ∧ Arv Z h b kb .byte (1 : Int32) [(.int (q.toInt8.toInt32))] (.int (0 : Int32))
set_option maxRecDepth 65536 in
set_option maxHeartbeats 40000000 in
theorem rmvo (l : Launch) (Z : State) (a0 : Array Value) (hw : ∀ d ∈ tables_1, d.before a0 Z = true) (ws : List Jvm.Cond) (q : Int32) (h0 : Heap) (n0 : Nat) (Z0 : n0 ≤ h0.size) (hq : ¬ (255 : Int32) < q) (cs : Int32) (hcs : ¬ cs = 0) (S1 : Sta Z h0 "java/lang/String" "COMPACT_STRINGS" "Z" (.int cs)) :
    MetFree l (⟨"java/lang/String", "valueOf", "(C)Ljava/lang/String;"⟩ : MethodName) (head1 (Jvm.Cond.code (⟨"java/lang/String", "valueOf", "(C)Ljava/lang/String;"⟩ : MethodName) jdk_42_method_139_code 1 (some (.object "java/lang/String")) :: ws) ({ frames := 2, cells := 2, slots := 5, locals := 27 } : Room)) (fun aA U => aA = #[(.int q)] ∧ Z.Warmed39 U.vm ∧ U.heap = h0) (fun _ _ _ _ _ => True) (fun _ U oO U' => ∃ vV LL, oO = .returned vV ∧ Qvo Z q h0 n0 vV U'.heap LL ∧ FrameEnd U oO U' LL ({ frames := 2, cells := 2, slots := 5, locals := 27 } : Room).cells ({ frames := 2, cells := 2, slots := 5, locals := 27 } : Room).slots) := by
  refine MetFree.of_bodySF (plainFor_of_name pn_1) hisR ?_
  intro p e s m args below meth c s₁ Bd hml0 hP hK
  obtain ⟨rfl, hZ, hh⟩ := hP
  have hx := Bd.exec
  have hby := Bd.bytes
  have hml : c.maxLocals = 1 := hml0
  have hown : s.vm.findClass "java/lang/String" = some m.cls := findClass_of_methodNamed Bd.named
  have hnm := (name_of_methodNamed Bd.named Bd.method).1
  have X0 : Stand p l e ({ frames := 2, cells := 2, slots := 5, locals := 27 } : Room) s m #[(.int q)] below meth c s₁ [] 0 0 := Stand.of_body Bd
  have e0 : s₁.heap = h0 := by rw [← hh, Bd.state]; rfl
  have N0 := Fr.nil n0
  have K0 : Keep h0 h0 [] := Keep.refl _ _
  have pre0 : Rch p.tables e below (s₁.setTop (entryFrame m #[(.int q)] 1)) (s₁.setTop (mkF m 0 #[.val (.int q)] [])) := fun tgt ktg => castTop (ef_vo m q) ktg
  obtain ⟨T_1, X_1, e_1, st_1⟩ := getS2 X0 hx hZ hown (host := "") (Or.inl (hw _ (List.mem_of_getElem? (i := 23) rfl))) Via.refl e0 S1 (g := (mkF m 0 #[.val (.int q)] [])) rfl (hb hby d22_0)
  have pre_1 : Rch p.tables e below (s₁.setTop (entryFrame m #[(.int q)] 1)) (T_1.setTop (mkF m 3 #[.val (.int q)] [(.int cs)])) := fun tgt ktg => pre0 tgt (st_1 tgt ktg)
  have pre_2 : Rch p.tables e below (s₁.setTop (entryFrame m #[(.int q)] 1)) (T_1.setTop (mkF m 7 #[.val (.int q)] [(.int q)])) := fun tgt ktg => pre_1 tgt (by
    show Steps p.tables e below (T_1.setTop (mkF m 3 #[.val (.int q)] [(.int cs)])) _
    refine XS.ifNo X_1.here hx rfl (hb hby d22_3) rfl ((if0 _ _).trans (feq hcs).1) ?_
    show Steps p.tables e below (T_1.setTop (mkF m 6 #[.val (.int q)] [])) _
    refine XS.iloadN X_1.here hx rfl (hb hby d22_6) rfl ?_
    exact ktg)
  obtain ⟨_, _, ⟨T_3, L_3, k_3, n_3⟩, -, X_3, ⟨Lc_3, hQ_3, l_3, y_3, z_3⟩, st_3⟩ := Jvm.LawKit.callS X_1 hx (y := (⟨"java/lang/StringLatin1", "canEncode", "(C)Z"⟩ : MethodName)) hown (mvT hZ (hw _ (List.mem_of_getElem? (i := 116) rfl))) (mvT hZ (hw _ (List.mem_of_getElem? (i := 117) rfl))) (mvT hZ (hw _ (List.mem_of_getElem? (i := 28) rfl))) (mvT hZ (hw _ (List.mem_of_getElem? (i := 118) rfl))) (by decide) (backOf (W := 0) (rmce l Z a0 hw [] q h0 n0 Z0 hq) hZ (hw _ (List.mem_of_getElem? (i := 118) rfl)) (hw _ (List.mem_of_getElem? (i := 28) rfl)) (by decide) (by decide)) (g := (mkF m 7 #[.val (.int q)] [(.int q)])) rfl (by rw [hml]; rfl) (argsL := [(.int q)]) (rest := []) (lenOf pd_11 rfl) rfl (by show 2 * 0 + _ ≤ _; exact Nat.le_of_eq rfl) (hb hby d22_7) (fun _ _ => ⟨rfl, e_1, (by decide : 0 + 0 ≤ _), (by decide : 0 + 0 ≤ _)⟩)
  dsimp only [Pt.U, Pt.locs, Pt.cells, Pt.slots] at X_3 l_3 y_3 z_3 st_3 hQ_3
  subst l_3 y_3 z_3
  obtain ⟨rfl, Nq_3, eh_3⟩ := hQ_3
  have N_4 := Fr.app N0 Nq_3
  have pre_3 : Rch p.tables e below (s₁.setTop (entryFrame m #[(.int q)] 1)) (T_3.setTop (mkF m 10 #[.val (.int q)] [(.int (1 : Int32))])) := fun tgt ktg => pre_2 tgt (st_3 tgt ktg)
  have pre_5 : Rch p.tables e below (s₁.setTop (entryFrame m #[(.int q)] 1)) (T_3.setTop (mkF m 13 #[.val (.int q)] [])) := fun tgt ktg => pre_3 tgt (by
    show Steps p.tables e below (T_3.setTop (mkF m 10 #[.val (.int q)] [(.int (1 : Int32))])) _
    refine XS.ifNo X_3.here hx rfl (hb hby d22_10) rfl ((if0 _ _).trans (feq (by decide : ¬ ((1 : Int32) = (0 : Int32)))).1) ?_
    exact ktg)
  obtain ⟨T_6, h_6, X_6, e_6, E_6, A_6, D_6, U_6, st_6⟩ := newO X_3 hx hZ hown (hw _ (List.mem_of_getElem? (i := 119) rfl)) (hw _ (List.mem_of_getElem? (i := 6) rfl)) (hw _ (List.mem_of_getElem? (i := 5) rfl)) eh_3 (g := (mkF m 13 #[.val (.int q)] [])) rfl (hb hby d22_13) (by decide) (by decide)
  obtain ⟨a, g_6⟩ : ∃ nm_, nm_ = h0.size := ⟨_, rfl⟩
  rw [← g_6] at A_6 D_6 U_6 st_6
  have g_a : n0 ≤ a := Nat.le_trans Z0 (Nat.le_of_eq g_6.symm)
  have sz_a : h0.size ≤ a := Nat.le_trans K0.1 (Nat.le_of_eq g_6.symm)
  have pre_6 : Rch p.tables e below (s₁.setTop (entryFrame m #[(.int q)] 1)) (T_6.setTop (mkF m 16 #[.val (.int q)] [(.ref a)])) := fun tgt ktg => pre_5 tgt (st_6 tgt ktg)
  have f_7 : Sta Z h_6 "java/lang/String" "COMPACT_STRINGS" "Z" (.int cs) := S1.ext E_6
  have z_8 : n0 ≤ h_6.size := Nat.le_trans Z0 E_6.1
  have K_9 : Keep h0 h_6 [] := K0.ext E_6
  have f_10 : Exa Z h_6 a "java/lang/String" := A_6
  have f_11 : Fld Z h_6 a "java/lang/String" "value" "[B" .null := D_6 (Or.inr (hw _ (List.mem_of_getElem? (i := 8) rfl))) (ty := (.array .byte)) (by decide)
  have f_12 : Fld Z h_6 a "java/lang/String" "coder" "B" (.int (0 : Int32)) := D_6 (Or.inr (hw _ (List.mem_of_getElem? (i := 9) rfl))) (ty := .byte) (by decide)
  have pre_13 : Rch p.tables e below (s₁.setTop (entryFrame m #[(.int q)] 1)) (T_6.setTop (mkF m 18 #[.val (.int q)] [(.int q), (.ref a), (.ref a)])) := fun tgt ktg => pre_6 tgt (by
    show Steps p.tables e below (T_6.setTop (mkF m 16 #[.val (.int q)] [(.ref a)])) _
    refine XS.dup X_6.here hx rfl (hb hby d22_16) rfl rfl ?_
    show Steps p.tables e below (T_6.setTop (mkF m 17 #[.val (.int q)] [(.ref a), (.ref a)])) _
    refine XS.iloadN X_6.here hx rfl (hb hby d22_17) rfl ?_
    exact ktg)
  have alt := f_10.lt
  obtain ⟨_, _, ⟨T_14, L_14, k_14, n_14⟩, -, X_14, ⟨Lc_14, hQ_14, l_14, y_14, z_14⟩, st_14⟩ := Jvm.LawKit.callS X_6 hx (y := (⟨"java/lang/StringLatin1", "toBytes", "(C)[B"⟩ : MethodName)) hown (mvT hZ (hw _ (List.mem_of_getElem? (i := 120) rfl))) (mvT hZ (hw _ (List.mem_of_getElem? (i := 121) rfl))) (mvT hZ (hw _ (List.mem_of_getElem? (i := 28) rfl))) (mvT hZ (hw _ (List.mem_of_getElem? (i := 122) rfl))) (by decide) (backOf (W := 2) (rmtb l Z a0 hw [] q h_6 n0 z_8) hZ (hw _ (List.mem_of_getElem? (i := 122) rfl)) (hw _ (List.mem_of_getElem? (i := 28) rfl)) (by decide) (by decide)) (g := (mkF m 18 #[.val (.int q)] [(.int q), (.ref a), (.ref a)])) rfl (by rw [hml]; rfl) (argsL := [(.int q)]) (rest := [(.ref a), (.ref a)]) (lenOf pd_12 rfl) rfl (by show 2 * 0 + _ ≤ _; exact Nat.le_of_eq rfl) (hb hby d22_18) (fun _ _ => ⟨rfl, e_6, (by decide : 1 + 1 ≤ _), (by decide : 4 + 1 ≤ _)⟩)
  dsimp only [Pt.U, Pt.locs, Pt.cells, Pt.slots] at X_14 l_14 y_14 z_14 st_14 hQ_14
  subst l_14 y_14 z_14
  obtain ⟨ba, kb, rfl, Nq_14, Kq_14, sba, gba, b0⟩ := hQ_14
  have N_15 := Fr.app N_4 Nq_14
  have pre_14 : Rch p.tables e below (s₁.setTop (entryFrame m #[(.int q)] 1)) (T_14.setTop (mkF m 21 #[.val (.int q)] [(.ref ba), (.ref a), (.ref a)])) := fun tgt ktg => pre_13 tgt (st_14 tgt ktg)
  have f_16 : Exa Z T_14.heap a "java/lang/String" := f_10.keep Kq_14
  have f_17 : Fld Z T_14.heap a "java/lang/String" "value" "[B" .null := f_11.keep Kq_14 nin0
  have f_18 : Fld Z T_14.heap a "java/lang/String" "coder" "B" (.int (0 : Int32)) := f_12.keep Kq_14 nin0
  have z_19 : n0 ≤ T_14.heap.size := Nat.le_trans z_8 Kq_14.1
  have K_20 : Keep h0 T_14.heap [] := K_9.trans Kq_14 (all0 (P := fun x => x ∈ ([] : List Addr) ∨ h0.size ≤ x))
  have nab : a ≠ ba := Nat.ne_of_lt (Nat.lt_of_lt_of_le alt sba)
  have pre_21 : Rch p.tables e below (s₁.setTop (entryFrame m #[(.int q)] 1)) (T_14.setTop (mkF m 22 #[.val (.int q)] [(.int (0 : Int32)), (.ref ba), (.ref a), (.ref a)])) := fun tgt ktg => pre_14 tgt (by
    show Steps p.tables e below (T_14.setTop (mkF m 21 #[.val (.int q)] [(.ref ba), (.ref a), (.ref a)])) _
    refine XS.iconst X_14.here hx rfl (hb hby d22_21) ?_
    exact ktg)
  obtain ⟨_, _, ⟨T_22, L_22, k_22, n_22⟩, -, X_22, ⟨Lc_22, hQ_22, l_22, y_22, z_22⟩, st_22⟩ := X_14.specialBack hx (y := (⟨"java/lang/String", "<init>", "([BB)V"⟩ : MethodName)) rfl hown (mvT hZ (hw _ (List.mem_of_getElem? (i := 123) rfl))) (mvT hZ (hw _ (List.mem_of_getElem? (i := 124) rfl))) (mvT hZ (hw _ (List.mem_of_getElem? (i := 125) rfl))) (by decide) (backOf (W := 1) (rmbb l Z a0 hw [] a ba T_14.heap n0 z_19 f_16 f_17 f_18 g_a) hZ (hw _ (List.mem_of_getElem? (i := 125) rfl)) (hw _ (List.mem_of_getElem? (i := 5) rfl)) (by decide) (by decide)) (g := (mkF m 22 #[.val (.int q)] [(.int (0 : Int32)), (.ref ba), (.ref a), (.ref a)])) rfl (by rw [hml]; rfl) (Steps.refl _) (a := a) (argsL := [(.ref ba), (.int (0 : Int32))]) (rest := [(.ref a)]) (lenOf pd_13 rfl) rfl (by show 2 * 0 + _ ≤ _; exact Nat.le_of_eq rfl) (hb hby d22_22) (fun _ _ => ⟨rfl, rfl, (by decide : 2 + 0 ≤ _), (by decide : 5 + 0 ≤ _)⟩)
  dsimp only [Pt.U, Pt.locs, Pt.cells, Pt.slots] at X_22 l_22 y_22 z_22 st_22 hQ_22
  subst l_22 y_22 z_22
  obtain ⟨rfl, Nq_22, Kq_22, c1, c2, c3⟩ := hQ_22
  have N_23 := Fr.app N_15 Nq_22
  have pre_22 : Rch p.tables e below (s₁.setTop (entryFrame m #[(.int q)] 1)) (T_22.setTop (mkF m 25 #[.val (.int q)] [(.ref a)])) := fun tgt ktg => pre_21 tgt (st_22.trans ktg)
  have f_24 : Exa Z T_22.heap a "java/lang/String" := f_16.keep Kq_22
  have f_25 : Arv Z T_22.heap ba kb .byte (1 : Int32) [(.int (q.toInt8.toInt32))] (.int (0 : Int32)) := b0.keep Kq_22 (ninS (Ne.symm nab) nin0)
  have z_26 : n0 ≤ T_22.heap.size := Nat.le_trans z_19 Kq_22.1
  have K_27 : Keep h0 T_22.heap [] := K_20.trans Kq_22 (allS (P := fun x => x ∈ ([] : List Addr) ∨ h0.size ≤ x) (Or.inr sz_a) (all0 (P := fun x => x ∈ ([] : List Addr) ∨ h0.size ≤ x)))
  obtain ⟨fs, hr, hrun, hended, hW, hsame⟩ := X_22.leave (v := some (.ref a)) (fun h => by rw [Bd.returns] at h; cases h)
  refine ⟨_, _, pre_22 _ ?_, hrun, hended, _, _, rfl, ?_, ⟨_, rfl⟩, hW, hsame.mono (by decide) (by decide)⟩
  · show Steps p.tables e below (T_22.setTop (mkF m 25 #[.val (.int q)] [(.ref a)])) _
    jvm_step X_22.here [X_22.here.top, hx, (hb hby d22_25), X_22.method', Bd.returns, Value.isRef, FieldType.isReference]
    first | (intro acts; rw [hr _ acts rfl rfl rfl]) | rw [hr _ _ rfl rfl rfl]
    exact Steps.refl _
  · show Qvo Z q h0 n0 _ T_22.heap _
    exact ⟨a, ba, kb, rfl, N_23, K_27, c1, c2, c3, f_25⟩
def inm (q : Int32) : Int32 := (if q = (60 : Int32) then (1 : Int32) else (if q = (115 : Int32) then (1 : Int32) else (if q = (111 : Int32) then (1 : Int32) else (if q = (97 : Int32) then (1 : Int32) else (if q = (112 : Int32) then (1 : Int32) else (if q = (58 : Int32) then (1 : Int32) else (if q = (86 : Int32) then (1 : Int32) else (if q = (108 : Int32) then (1 : Int32) else (if q = (117 : Int32) then (1 : Int32) else (if q = (101 : Int32) then (1 : Int32) else (if q = (62 : Int32) then (1 : Int32) else (if q = (83 : Int32) then (1 : Int32) else (if q = (110 : Int32) then (1 : Int32) else (if q = (100 : Int32) then (1 : Int32) else (if q = (114 : Int32) then (1 : Int32) else (if q = (47 : Int32) then (1 : Int32) else (0 : Int32)))))))))))))))))
def onm (q : Int32) : Int32 := (if q = (83 : Int32) then (1 : Int32) else (if q = (110 : Int32) then (1 : Int32) else (if q = (100 : Int32) then (1 : Int32) else (if q = (114 : Int32) then (1 : Int32) else (if q = (47 : Int32) then (1 : Int32) else (0 : Int32))))))
theorem own_ifZ {c : Prop} [Decidable c] {b : Int32} (h : nar .boolean b = b) : nar .boolean (if c then (1 : Int32) else b) = (if c then (1 : Int32) else b) := by
  split
  · rfl
  · exact h
theorem own_inmZ (q : Int32) : nar .boolean (inm q) = inm q := by
  unfold inm
  exact (own_ifZ (own_ifZ (own_ifZ (own_ifZ (own_ifZ (own_ifZ (own_ifZ (own_ifZ (own_ifZ (own_ifZ (own_ifZ (own_ifZ (own_ifZ (own_ifZ (own_ifZ (own_ifZ rfl))))))))))))))))
theorem own_onmZ (q : Int32) : nar .boolean (onm q) = onm q := by
  unfold onm
  exact (own_ifZ (own_ifZ (own_ifZ (own_ifZ (own_ifZ rfl)))))
def hch (y c0 c1 x ap : Int32) : Int32 := if y = c0 then 1 else if y = c1 then 1 else if y = x then 1 else if inm y = 0 then 0 else if ap = y then (if onm y = 0 then 1 else 0) else 1
theorem d27_0 : decode method_3_code 0 = .ok (.iload_n 0, 1) := by decide +kernel
theorem d27_1 : decode method_3_code 1 = .ok (.bipush 60, 2) := by decide +kernel
theorem d27_3 : decode method_3_code 3 = .ok (.if_icmp .eq 93, 3) := by decide +kernel
theorem d27_96 : decode method_3_code 96 = .ok (.iconst 1, 1) := by decide +kernel
theorem d27_97 : decode method_3_code 97 = .ok (.goto 4, 3) := by decide +kernel
theorem d27_6 : decode method_3_code 6 = .ok (.iload_n 0, 1) := by decide +kernel
theorem d27_7 : decode method_3_code 7 = .ok (.bipush 115, 2) := by decide +kernel
theorem d27_9 : decode method_3_code 9 = .ok (.if_icmp .eq 87, 3) := by decide +kernel
theorem d27_12 : decode method_3_code 12 = .ok (.iload_n 0, 1) := by decide +kernel
theorem d27_13 : decode method_3_code 13 = .ok (.bipush 111, 2) := by decide +kernel
theorem d27_15 : decode method_3_code 15 = .ok (.if_icmp .eq 81, 3) := by decide +kernel
theorem d27_18 : decode method_3_code 18 = .ok (.iload_n 0, 1) := by decide +kernel
theorem d27_19 : decode method_3_code 19 = .ok (.bipush 97, 2) := by decide +kernel
theorem d27_21 : decode method_3_code 21 = .ok (.if_icmp .eq 75, 3) := by decide +kernel
theorem d27_24 : decode method_3_code 24 = .ok (.iload_n 0, 1) := by decide +kernel
theorem d27_25 : decode method_3_code 25 = .ok (.bipush 112, 2) := by decide +kernel
theorem d27_27 : decode method_3_code 27 = .ok (.if_icmp .eq 69, 3) := by decide +kernel
theorem d27_30 : decode method_3_code 30 = .ok (.iload_n 0, 1) := by decide +kernel
theorem d27_31 : decode method_3_code 31 = .ok (.bipush 58, 2) := by decide +kernel
theorem d27_33 : decode method_3_code 33 = .ok (.if_icmp .eq 63, 3) := by decide +kernel
theorem d27_36 : decode method_3_code 36 = .ok (.iload_n 0, 1) := by decide +kernel
theorem d27_37 : decode method_3_code 37 = .ok (.bipush 86, 2) := by decide +kernel
theorem d27_39 : decode method_3_code 39 = .ok (.if_icmp .eq 57, 3) := by decide +kernel
theorem d27_42 : decode method_3_code 42 = .ok (.iload_n 0, 1) := by decide +kernel
theorem d27_43 : decode method_3_code 43 = .ok (.bipush 108, 2) := by decide +kernel
theorem d27_45 : decode method_3_code 45 = .ok (.if_icmp .eq 51, 3) := by decide +kernel
theorem d27_48 : decode method_3_code 48 = .ok (.iload_n 0, 1) := by decide +kernel
theorem d27_49 : decode method_3_code 49 = .ok (.bipush 117, 2) := by decide +kernel
theorem d27_51 : decode method_3_code 51 = .ok (.if_icmp .eq 45, 3) := by decide +kernel
theorem d27_54 : decode method_3_code 54 = .ok (.iload_n 0, 1) := by decide +kernel
theorem d27_55 : decode method_3_code 55 = .ok (.bipush 101, 2) := by decide +kernel
theorem d27_57 : decode method_3_code 57 = .ok (.if_icmp .eq 39, 3) := by decide +kernel
theorem d27_60 : decode method_3_code 60 = .ok (.iload_n 0, 1) := by decide +kernel
theorem d27_61 : decode method_3_code 61 = .ok (.bipush 62, 2) := by decide +kernel
theorem d27_63 : decode method_3_code 63 = .ok (.if_icmp .eq 33, 3) := by decide +kernel
theorem d27_66 : decode method_3_code 66 = .ok (.iload_n 0, 1) := by decide +kernel
theorem d27_67 : decode method_3_code 67 = .ok (.bipush 83, 2) := by decide +kernel
theorem d27_69 : decode method_3_code 69 = .ok (.if_icmp .eq 27, 3) := by decide +kernel
theorem d27_72 : decode method_3_code 72 = .ok (.iload_n 0, 1) := by decide +kernel
theorem d27_73 : decode method_3_code 73 = .ok (.bipush 110, 2) := by decide +kernel
theorem d27_75 : decode method_3_code 75 = .ok (.if_icmp .eq 21, 3) := by decide +kernel
theorem d27_78 : decode method_3_code 78 = .ok (.iload_n 0, 1) := by decide +kernel
theorem d27_79 : decode method_3_code 79 = .ok (.bipush 100, 2) := by decide +kernel
theorem d27_81 : decode method_3_code 81 = .ok (.if_icmp .eq 15, 3) := by decide +kernel
theorem d27_84 : decode method_3_code 84 = .ok (.iload_n 0, 1) := by decide +kernel
theorem d27_85 : decode method_3_code 85 = .ok (.bipush 114, 2) := by decide +kernel
theorem d27_87 : decode method_3_code 87 = .ok (.if_icmp .eq 9, 3) := by decide +kernel
theorem d27_90 : decode method_3_code 90 = .ok (.iload_n 0, 1) := by decide +kernel
theorem d27_91 : decode method_3_code 91 = .ok (.bipush 47, 2) := by decide +kernel
theorem d27_93 : decode method_3_code 93 = .ok (.if_icmp .ne 7, 3) := by decide +kernel
theorem d27_100 : decode method_3_code 100 = .ok (.iconst 0, 1) := by decide +kernel
theorem d27_101 : decode method_3_code 101 = .ok (.ireturn, 1) := by decide +kernel
theorem pn_5 : plainName "ResponseIsSenderFaultPinLaw" = true := by first | (simp [plainName, overriddenIn]; done) | decide +kernel
theorem ef_inm (m : MethodId) (x0 : Int32) : entryFrame m #[(.int x0)] 1 = mkF m 0 #[.val (.int x0)] [] := by first | (simp [entryFrame, mkF, argsToLocals, Value.category]; done) | rfl
def Qinm (Z : State) (q : Int32) (h0 : Heap) (n0 : Nat) (v : Option Value) (h : Heap) (L : List Loc) : Prop := v = some (.int (inm q)) ∧ Fr n0 L ∧ h = h0
set_option maxRecDepth 65536 in
set_option maxHeartbeats 40000000 in
theorem rminm (l : Launch) (Z : State) (a0 : Array Value) (hw : ∀ d ∈ tables_1, d.before a0 Z = true) (ws : List Jvm.Cond) (q : Int32) (h0 : Heap) (n0 : Nat) (Z0 : n0 ≤ h0.size)  :
    MetFree l (⟨"ResponseIsSenderFaultPinLaw", "inMarker", "(C)Z"⟩ : MethodName) (head1 (Jvm.Cond.code (⟨"ResponseIsSenderFaultPinLaw", "inMarker", "(C)Z"⟩ : MethodName) method_3_code 1 (some .boolean) :: ws) ({ frames := 0, cells := 0, slots := 0, locals := 0 } : Room)) (fun aA U => aA = #[(.int q)] ∧ Z.Warmed39 U.vm ∧ U.heap = h0) (fun _ _ _ _ _ => True) (fun _ U oO U' => ∃ vV LL, oO = .returned vV ∧ Qinm Z q h0 n0 vV U'.heap LL ∧ FrameEnd U oO U' LL ({ frames := 0, cells := 0, slots := 0, locals := 0 } : Room).cells ({ frames := 0, cells := 0, slots := 0, locals := 0 } : Room).slots) := by
  refine MetFree.of_bodySF (plainFor_of_name pn_5) hisR ?_
  intro p e s m args below meth c s₁ Bd hml0 hP hK
  obtain ⟨rfl, hZ, hh⟩ := hP
  have hx := Bd.exec
  have hby := Bd.bytes
  have hml : c.maxLocals = 1 := hml0
  have hown : s.vm.findClass "ResponseIsSenderFaultPinLaw" = some m.cls := findClass_of_methodNamed Bd.named
  have hnm := (name_of_methodNamed Bd.named Bd.method).1
  have X0 : Stand p l e ({ frames := 0, cells := 0, slots := 0, locals := 0 } : Room) s m #[(.int q)] below meth c s₁ [] 0 0 := Stand.of_body Bd
  have e0 : s₁.heap = h0 := by rw [← hh, Bd.state]; rfl
  have N0 := Fr.nil n0
  have K0 : Keep h0 h0 [] := Keep.refl _ _
  have pre0 : Rch p.tables e below (s₁.setTop (entryFrame m #[(.int q)] 1)) (s₁.setTop (mkF m 0 #[.val (.int q)] [])) := fun tgt ktg => castTop (ef_inm m q) ktg
  have pre_1 : Rch p.tables e below (s₁.setTop (entryFrame m #[(.int q)] 1)) (s₁.setTop (mkF m 3 #[.val (.int q)] [(.int (60 : Int32)), (.int q)])) := fun tgt ktg => pre0 tgt (by
    show Steps p.tables e below (s₁.setTop (mkF m 0 #[.val (.int q)] [])) _
    refine XS.iloadN X0.here hx rfl (hb hby d27_0) rfl ?_
    show Steps p.tables e below (s₁.setTop (mkF m 1 #[.val (.int q)] [(.int q)])) _
    refine XS.bipush X0.here hx rfl (hb hby d27_1) ?_
    exact ktg)
  obtain ⟨xr, hv_xr⟩ : ∃ nm_ : Int32, nm_ = (if q = (60 : Int32) then (1 : Int32) else (if q = (115 : Int32) then (1 : Int32) else (if q = (111 : Int32) then (1 : Int32) else (if q = (97 : Int32) then (1 : Int32) else (if q = (112 : Int32) then (1 : Int32) else (if q = (58 : Int32) then (1 : Int32) else (if q = (86 : Int32) then (1 : Int32) else (if q = (108 : Int32) then (1 : Int32) else (if q = (117 : Int32) then (1 : Int32) else (if q = (101 : Int32) then (1 : Int32) else (if q = (62 : Int32) then (1 : Int32) else (if q = (83 : Int32) then (1 : Int32) else (if q = (110 : Int32) then (1 : Int32) else (if q = (100 : Int32) then (1 : Int32) else (if q = (114 : Int32) then (1 : Int32) else (if q = (47 : Int32) then (1 : Int32) else (0 : Int32))))))))))))))))) := ⟨_, rfl⟩
  have pre_18 : Rch p.tables e below (s₁.setTop (entryFrame m #[(.int q)] 1)) (s₁.setTop (mkF m 101 #[.val (.int q)] [(.int xr)])) := fun tgt ktg => pre_1 tgt (by
    by_cases q_2 : q = (60 : Int32)
    · skip
      show Steps p.tables e below (s₁.setTop (mkF m 3 #[.val (.int q)] [(.int (60 : Int32)), (.int q)])) _
      refine XS.icmpYes X0.here hx rfl (pc0 := 3) (pc' := 96) rfl (hb hby d27_3) rfl (teq q_2).1 (by decide) (by decide) ?_
      show Steps p.tables e below (s₁.setTop (mkF m 96 #[.val (.int q)] [])) _
      refine XS.iconst X0.here hx rfl (hb hby d27_96) ?_
      show Steps p.tables e below (s₁.setTop (mkF m 97 #[.val (.int q)] [(.int (1 : Int32))])) _
      refine XS.goto X0.here hx rfl (pc0 := 97) (pc' := 101) rfl (hb hby d27_97) (by decide) (by decide) ?_
      have ev_xr : xr = (1 : Int32) := by rw [hv_xr, if_pos q_2]
      rw [ev_xr] at ktg
      exact ktg
    · skip
      show Steps p.tables e below (s₁.setTop (mkF m 3 #[.val (.int q)] [(.int (60 : Int32)), (.int q)])) _
      refine XS.icmpNo X0.here hx rfl (hb hby d27_3) rfl (feq q_2).1 ?_
      show Steps p.tables e below (s₁.setTop (mkF m 6 #[.val (.int q)] [])) _
      refine XS.iloadN X0.here hx rfl (hb hby d27_6) rfl ?_
      show Steps p.tables e below (s₁.setTop (mkF m 7 #[.val (.int q)] [(.int q)])) _
      refine XS.bipush X0.here hx rfl (hb hby d27_7) ?_
      by_cases q_3 : q = (115 : Int32)
      · skip
        show Steps p.tables e below (s₁.setTop (mkF m 9 #[.val (.int q)] [(.int (115 : Int32)), (.int q)])) _
        refine XS.icmpYes X0.here hx rfl (pc0 := 9) (pc' := 96) rfl (hb hby d27_9) rfl (teq q_3).1 (by decide) (by decide) ?_
        show Steps p.tables e below (s₁.setTop (mkF m 96 #[.val (.int q)] [])) _
        refine XS.iconst X0.here hx rfl (hb hby d27_96) ?_
        show Steps p.tables e below (s₁.setTop (mkF m 97 #[.val (.int q)] [(.int (1 : Int32))])) _
        refine XS.goto X0.here hx rfl (pc0 := 97) (pc' := 101) rfl (hb hby d27_97) (by decide) (by decide) ?_
        have ev_xr : xr = (1 : Int32) := by rw [hv_xr, if_neg q_2, if_pos q_3]
        rw [ev_xr] at ktg
        exact ktg
      · skip
        show Steps p.tables e below (s₁.setTop (mkF m 9 #[.val (.int q)] [(.int (115 : Int32)), (.int q)])) _
        refine XS.icmpNo X0.here hx rfl (hb hby d27_9) rfl (feq q_3).1 ?_
        show Steps p.tables e below (s₁.setTop (mkF m 12 #[.val (.int q)] [])) _
        refine XS.iloadN X0.here hx rfl (hb hby d27_12) rfl ?_
        show Steps p.tables e below (s₁.setTop (mkF m 13 #[.val (.int q)] [(.int q)])) _
        refine XS.bipush X0.here hx rfl (hb hby d27_13) ?_
        by_cases q_4 : q = (111 : Int32)
        · skip
          show Steps p.tables e below (s₁.setTop (mkF m 15 #[.val (.int q)] [(.int (111 : Int32)), (.int q)])) _
          refine XS.icmpYes X0.here hx rfl (pc0 := 15) (pc' := 96) rfl (hb hby d27_15) rfl (teq q_4).1 (by decide) (by decide) ?_
          show Steps p.tables e below (s₁.setTop (mkF m 96 #[.val (.int q)] [])) _
          refine XS.iconst X0.here hx rfl (hb hby d27_96) ?_
          show Steps p.tables e below (s₁.setTop (mkF m 97 #[.val (.int q)] [(.int (1 : Int32))])) _
          refine XS.goto X0.here hx rfl (pc0 := 97) (pc' := 101) rfl (hb hby d27_97) (by decide) (by decide) ?_
          have ev_xr : xr = (1 : Int32) := by rw [hv_xr, if_neg q_2, if_neg q_3, if_pos q_4]
          rw [ev_xr] at ktg
          exact ktg
        · skip
          show Steps p.tables e below (s₁.setTop (mkF m 15 #[.val (.int q)] [(.int (111 : Int32)), (.int q)])) _
          refine XS.icmpNo X0.here hx rfl (hb hby d27_15) rfl (feq q_4).1 ?_
          show Steps p.tables e below (s₁.setTop (mkF m 18 #[.val (.int q)] [])) _
          refine XS.iloadN X0.here hx rfl (hb hby d27_18) rfl ?_
          show Steps p.tables e below (s₁.setTop (mkF m 19 #[.val (.int q)] [(.int q)])) _
          refine XS.bipush X0.here hx rfl (hb hby d27_19) ?_
          by_cases q_5 : q = (97 : Int32)
          · skip
            show Steps p.tables e below (s₁.setTop (mkF m 21 #[.val (.int q)] [(.int (97 : Int32)), (.int q)])) _
            refine XS.icmpYes X0.here hx rfl (pc0 := 21) (pc' := 96) rfl (hb hby d27_21) rfl (teq q_5).1 (by decide) (by decide) ?_
            show Steps p.tables e below (s₁.setTop (mkF m 96 #[.val (.int q)] [])) _
            refine XS.iconst X0.here hx rfl (hb hby d27_96) ?_
            show Steps p.tables e below (s₁.setTop (mkF m 97 #[.val (.int q)] [(.int (1 : Int32))])) _
            refine XS.goto X0.here hx rfl (pc0 := 97) (pc' := 101) rfl (hb hby d27_97) (by decide) (by decide) ?_
            have ev_xr : xr = (1 : Int32) := by rw [hv_xr, if_neg q_2, if_neg q_3, if_neg q_4, if_pos q_5]
            rw [ev_xr] at ktg
            exact ktg
          · skip
            show Steps p.tables e below (s₁.setTop (mkF m 21 #[.val (.int q)] [(.int (97 : Int32)), (.int q)])) _
            refine XS.icmpNo X0.here hx rfl (hb hby d27_21) rfl (feq q_5).1 ?_
            show Steps p.tables e below (s₁.setTop (mkF m 24 #[.val (.int q)] [])) _
            refine XS.iloadN X0.here hx rfl (hb hby d27_24) rfl ?_
            show Steps p.tables e below (s₁.setTop (mkF m 25 #[.val (.int q)] [(.int q)])) _
            refine XS.bipush X0.here hx rfl (hb hby d27_25) ?_
            by_cases q_6 : q = (112 : Int32)
            · skip
              show Steps p.tables e below (s₁.setTop (mkF m 27 #[.val (.int q)] [(.int (112 : Int32)), (.int q)])) _
              refine XS.icmpYes X0.here hx rfl (pc0 := 27) (pc' := 96) rfl (hb hby d27_27) rfl (teq q_6).1 (by decide) (by decide) ?_
              show Steps p.tables e below (s₁.setTop (mkF m 96 #[.val (.int q)] [])) _
              refine XS.iconst X0.here hx rfl (hb hby d27_96) ?_
              show Steps p.tables e below (s₁.setTop (mkF m 97 #[.val (.int q)] [(.int (1 : Int32))])) _
              refine XS.goto X0.here hx rfl (pc0 := 97) (pc' := 101) rfl (hb hby d27_97) (by decide) (by decide) ?_
              have ev_xr : xr = (1 : Int32) := by rw [hv_xr, if_neg q_2, if_neg q_3, if_neg q_4, if_neg q_5, if_pos q_6]
              rw [ev_xr] at ktg
              exact ktg
            · skip
              show Steps p.tables e below (s₁.setTop (mkF m 27 #[.val (.int q)] [(.int (112 : Int32)), (.int q)])) _
              refine XS.icmpNo X0.here hx rfl (hb hby d27_27) rfl (feq q_6).1 ?_
              show Steps p.tables e below (s₁.setTop (mkF m 30 #[.val (.int q)] [])) _
              refine XS.iloadN X0.here hx rfl (hb hby d27_30) rfl ?_
              show Steps p.tables e below (s₁.setTop (mkF m 31 #[.val (.int q)] [(.int q)])) _
              refine XS.bipush X0.here hx rfl (hb hby d27_31) ?_
              by_cases q_7 : q = (58 : Int32)
              · skip
                show Steps p.tables e below (s₁.setTop (mkF m 33 #[.val (.int q)] [(.int (58 : Int32)), (.int q)])) _
                refine XS.icmpYes X0.here hx rfl (pc0 := 33) (pc' := 96) rfl (hb hby d27_33) rfl (teq q_7).1 (by decide) (by decide) ?_
                show Steps p.tables e below (s₁.setTop (mkF m 96 #[.val (.int q)] [])) _
                refine XS.iconst X0.here hx rfl (hb hby d27_96) ?_
                show Steps p.tables e below (s₁.setTop (mkF m 97 #[.val (.int q)] [(.int (1 : Int32))])) _
                refine XS.goto X0.here hx rfl (pc0 := 97) (pc' := 101) rfl (hb hby d27_97) (by decide) (by decide) ?_
                have ev_xr : xr = (1 : Int32) := by rw [hv_xr, if_neg q_2, if_neg q_3, if_neg q_4, if_neg q_5, if_neg q_6, if_pos q_7]
                rw [ev_xr] at ktg
                exact ktg
              · skip
                show Steps p.tables e below (s₁.setTop (mkF m 33 #[.val (.int q)] [(.int (58 : Int32)), (.int q)])) _
                refine XS.icmpNo X0.here hx rfl (hb hby d27_33) rfl (feq q_7).1 ?_
                show Steps p.tables e below (s₁.setTop (mkF m 36 #[.val (.int q)] [])) _
                refine XS.iloadN X0.here hx rfl (hb hby d27_36) rfl ?_
                show Steps p.tables e below (s₁.setTop (mkF m 37 #[.val (.int q)] [(.int q)])) _
                refine XS.bipush X0.here hx rfl (hb hby d27_37) ?_
                by_cases q_8 : q = (86 : Int32)
                · skip
                  show Steps p.tables e below (s₁.setTop (mkF m 39 #[.val (.int q)] [(.int (86 : Int32)), (.int q)])) _
                  refine XS.icmpYes X0.here hx rfl (pc0 := 39) (pc' := 96) rfl (hb hby d27_39) rfl (teq q_8).1 (by decide) (by decide) ?_
                  show Steps p.tables e below (s₁.setTop (mkF m 96 #[.val (.int q)] [])) _
                  refine XS.iconst X0.here hx rfl (hb hby d27_96) ?_
                  show Steps p.tables e below (s₁.setTop (mkF m 97 #[.val (.int q)] [(.int (1 : Int32))])) _
                  refine XS.goto X0.here hx rfl (pc0 := 97) (pc' := 101) rfl (hb hby d27_97) (by decide) (by decide) ?_
                  have ev_xr : xr = (1 : Int32) := by rw [hv_xr, if_neg q_2, if_neg q_3, if_neg q_4, if_neg q_5, if_neg q_6, if_neg q_7, if_pos q_8]
                  rw [ev_xr] at ktg
                  exact ktg
                · skip
                  show Steps p.tables e below (s₁.setTop (mkF m 39 #[.val (.int q)] [(.int (86 : Int32)), (.int q)])) _
                  refine XS.icmpNo X0.here hx rfl (hb hby d27_39) rfl (feq q_8).1 ?_
                  show Steps p.tables e below (s₁.setTop (mkF m 42 #[.val (.int q)] [])) _
                  refine XS.iloadN X0.here hx rfl (hb hby d27_42) rfl ?_
                  show Steps p.tables e below (s₁.setTop (mkF m 43 #[.val (.int q)] [(.int q)])) _
                  refine XS.bipush X0.here hx rfl (hb hby d27_43) ?_
                  by_cases q_9 : q = (108 : Int32)
                  · skip
                    show Steps p.tables e below (s₁.setTop (mkF m 45 #[.val (.int q)] [(.int (108 : Int32)), (.int q)])) _
                    refine XS.icmpYes X0.here hx rfl (pc0 := 45) (pc' := 96) rfl (hb hby d27_45) rfl (teq q_9).1 (by decide) (by decide) ?_
                    show Steps p.tables e below (s₁.setTop (mkF m 96 #[.val (.int q)] [])) _
                    refine XS.iconst X0.here hx rfl (hb hby d27_96) ?_
                    show Steps p.tables e below (s₁.setTop (mkF m 97 #[.val (.int q)] [(.int (1 : Int32))])) _
                    refine XS.goto X0.here hx rfl (pc0 := 97) (pc' := 101) rfl (hb hby d27_97) (by decide) (by decide) ?_
                    have ev_xr : xr = (1 : Int32) := by rw [hv_xr, if_neg q_2, if_neg q_3, if_neg q_4, if_neg q_5, if_neg q_6, if_neg q_7, if_neg q_8, if_pos q_9]
                    rw [ev_xr] at ktg
                    exact ktg
                  · skip
                    show Steps p.tables e below (s₁.setTop (mkF m 45 #[.val (.int q)] [(.int (108 : Int32)), (.int q)])) _
                    refine XS.icmpNo X0.here hx rfl (hb hby d27_45) rfl (feq q_9).1 ?_
                    show Steps p.tables e below (s₁.setTop (mkF m 48 #[.val (.int q)] [])) _
                    refine XS.iloadN X0.here hx rfl (hb hby d27_48) rfl ?_
                    show Steps p.tables e below (s₁.setTop (mkF m 49 #[.val (.int q)] [(.int q)])) _
                    refine XS.bipush X0.here hx rfl (hb hby d27_49) ?_
                    by_cases q_10 : q = (117 : Int32)
                    · skip
                      show Steps p.tables e below (s₁.setTop (mkF m 51 #[.val (.int q)] [(.int (117 : Int32)), (.int q)])) _
                      refine XS.icmpYes X0.here hx rfl (pc0 := 51) (pc' := 96) rfl (hb hby d27_51) rfl (teq q_10).1 (by decide) (by decide) ?_
                      show Steps p.tables e below (s₁.setTop (mkF m 96 #[.val (.int q)] [])) _
                      refine XS.iconst X0.here hx rfl (hb hby d27_96) ?_
                      show Steps p.tables e below (s₁.setTop (mkF m 97 #[.val (.int q)] [(.int (1 : Int32))])) _
                      refine XS.goto X0.here hx rfl (pc0 := 97) (pc' := 101) rfl (hb hby d27_97) (by decide) (by decide) ?_
                      have ev_xr : xr = (1 : Int32) := by rw [hv_xr, if_neg q_2, if_neg q_3, if_neg q_4, if_neg q_5, if_neg q_6, if_neg q_7, if_neg q_8, if_neg q_9, if_pos q_10]
                      rw [ev_xr] at ktg
                      exact ktg
                    · skip
                      show Steps p.tables e below (s₁.setTop (mkF m 51 #[.val (.int q)] [(.int (117 : Int32)), (.int q)])) _
                      refine XS.icmpNo X0.here hx rfl (hb hby d27_51) rfl (feq q_10).1 ?_
                      show Steps p.tables e below (s₁.setTop (mkF m 54 #[.val (.int q)] [])) _
                      refine XS.iloadN X0.here hx rfl (hb hby d27_54) rfl ?_
                      show Steps p.tables e below (s₁.setTop (mkF m 55 #[.val (.int q)] [(.int q)])) _
                      refine XS.bipush X0.here hx rfl (hb hby d27_55) ?_
                      by_cases q_11 : q = (101 : Int32)
                      · skip
                        show Steps p.tables e below (s₁.setTop (mkF m 57 #[.val (.int q)] [(.int (101 : Int32)), (.int q)])) _
                        refine XS.icmpYes X0.here hx rfl (pc0 := 57) (pc' := 96) rfl (hb hby d27_57) rfl (teq q_11).1 (by decide) (by decide) ?_
                        show Steps p.tables e below (s₁.setTop (mkF m 96 #[.val (.int q)] [])) _
                        refine XS.iconst X0.here hx rfl (hb hby d27_96) ?_
                        show Steps p.tables e below (s₁.setTop (mkF m 97 #[.val (.int q)] [(.int (1 : Int32))])) _
                        refine XS.goto X0.here hx rfl (pc0 := 97) (pc' := 101) rfl (hb hby d27_97) (by decide) (by decide) ?_
                        have ev_xr : xr = (1 : Int32) := by rw [hv_xr, if_neg q_2, if_neg q_3, if_neg q_4, if_neg q_5, if_neg q_6, if_neg q_7, if_neg q_8, if_neg q_9, if_neg q_10, if_pos q_11]
                        rw [ev_xr] at ktg
                        exact ktg
                      · skip
                        show Steps p.tables e below (s₁.setTop (mkF m 57 #[.val (.int q)] [(.int (101 : Int32)), (.int q)])) _
                        refine XS.icmpNo X0.here hx rfl (hb hby d27_57) rfl (feq q_11).1 ?_
                        show Steps p.tables e below (s₁.setTop (mkF m 60 #[.val (.int q)] [])) _
                        refine XS.iloadN X0.here hx rfl (hb hby d27_60) rfl ?_
                        show Steps p.tables e below (s₁.setTop (mkF m 61 #[.val (.int q)] [(.int q)])) _
                        refine XS.bipush X0.here hx rfl (hb hby d27_61) ?_
                        by_cases q_12 : q = (62 : Int32)
                        · skip
                          show Steps p.tables e below (s₁.setTop (mkF m 63 #[.val (.int q)] [(.int (62 : Int32)), (.int q)])) _
                          refine XS.icmpYes X0.here hx rfl (pc0 := 63) (pc' := 96) rfl (hb hby d27_63) rfl (teq q_12).1 (by decide) (by decide) ?_
                          show Steps p.tables e below (s₁.setTop (mkF m 96 #[.val (.int q)] [])) _
                          refine XS.iconst X0.here hx rfl (hb hby d27_96) ?_
                          show Steps p.tables e below (s₁.setTop (mkF m 97 #[.val (.int q)] [(.int (1 : Int32))])) _
                          refine XS.goto X0.here hx rfl (pc0 := 97) (pc' := 101) rfl (hb hby d27_97) (by decide) (by decide) ?_
                          have ev_xr : xr = (1 : Int32) := by rw [hv_xr, if_neg q_2, if_neg q_3, if_neg q_4, if_neg q_5, if_neg q_6, if_neg q_7, if_neg q_8, if_neg q_9, if_neg q_10, if_neg q_11, if_pos q_12]
                          rw [ev_xr] at ktg
                          exact ktg
                        · skip
                          show Steps p.tables e below (s₁.setTop (mkF m 63 #[.val (.int q)] [(.int (62 : Int32)), (.int q)])) _
                          refine XS.icmpNo X0.here hx rfl (hb hby d27_63) rfl (feq q_12).1 ?_
                          show Steps p.tables e below (s₁.setTop (mkF m 66 #[.val (.int q)] [])) _
                          refine XS.iloadN X0.here hx rfl (hb hby d27_66) rfl ?_
                          show Steps p.tables e below (s₁.setTop (mkF m 67 #[.val (.int q)] [(.int q)])) _
                          refine XS.bipush X0.here hx rfl (hb hby d27_67) ?_
                          by_cases q_13 : q = (83 : Int32)
                          · skip
                            show Steps p.tables e below (s₁.setTop (mkF m 69 #[.val (.int q)] [(.int (83 : Int32)), (.int q)])) _
                            refine XS.icmpYes X0.here hx rfl (pc0 := 69) (pc' := 96) rfl (hb hby d27_69) rfl (teq q_13).1 (by decide) (by decide) ?_
                            show Steps p.tables e below (s₁.setTop (mkF m 96 #[.val (.int q)] [])) _
                            refine XS.iconst X0.here hx rfl (hb hby d27_96) ?_
                            show Steps p.tables e below (s₁.setTop (mkF m 97 #[.val (.int q)] [(.int (1 : Int32))])) _
                            refine XS.goto X0.here hx rfl (pc0 := 97) (pc' := 101) rfl (hb hby d27_97) (by decide) (by decide) ?_
                            have ev_xr : xr = (1 : Int32) := by rw [hv_xr, if_neg q_2, if_neg q_3, if_neg q_4, if_neg q_5, if_neg q_6, if_neg q_7, if_neg q_8, if_neg q_9, if_neg q_10, if_neg q_11, if_neg q_12, if_pos q_13]
                            rw [ev_xr] at ktg
                            exact ktg
                          · skip
                            show Steps p.tables e below (s₁.setTop (mkF m 69 #[.val (.int q)] [(.int (83 : Int32)), (.int q)])) _
                            refine XS.icmpNo X0.here hx rfl (hb hby d27_69) rfl (feq q_13).1 ?_
                            show Steps p.tables e below (s₁.setTop (mkF m 72 #[.val (.int q)] [])) _
                            refine XS.iloadN X0.here hx rfl (hb hby d27_72) rfl ?_
                            show Steps p.tables e below (s₁.setTop (mkF m 73 #[.val (.int q)] [(.int q)])) _
                            refine XS.bipush X0.here hx rfl (hb hby d27_73) ?_
                            by_cases q_14 : q = (110 : Int32)
                            · skip
                              show Steps p.tables e below (s₁.setTop (mkF m 75 #[.val (.int q)] [(.int (110 : Int32)), (.int q)])) _
                              refine XS.icmpYes X0.here hx rfl (pc0 := 75) (pc' := 96) rfl (hb hby d27_75) rfl (teq q_14).1 (by decide) (by decide) ?_
                              show Steps p.tables e below (s₁.setTop (mkF m 96 #[.val (.int q)] [])) _
                              refine XS.iconst X0.here hx rfl (hb hby d27_96) ?_
                              show Steps p.tables e below (s₁.setTop (mkF m 97 #[.val (.int q)] [(.int (1 : Int32))])) _
                              refine XS.goto X0.here hx rfl (pc0 := 97) (pc' := 101) rfl (hb hby d27_97) (by decide) (by decide) ?_
                              have ev_xr : xr = (1 : Int32) := by rw [hv_xr, if_neg q_2, if_neg q_3, if_neg q_4, if_neg q_5, if_neg q_6, if_neg q_7, if_neg q_8, if_neg q_9, if_neg q_10, if_neg q_11, if_neg q_12, if_neg q_13, if_pos q_14]
                              rw [ev_xr] at ktg
                              exact ktg
                            · skip
                              show Steps p.tables e below (s₁.setTop (mkF m 75 #[.val (.int q)] [(.int (110 : Int32)), (.int q)])) _
                              refine XS.icmpNo X0.here hx rfl (hb hby d27_75) rfl (feq q_14).1 ?_
                              show Steps p.tables e below (s₁.setTop (mkF m 78 #[.val (.int q)] [])) _
                              refine XS.iloadN X0.here hx rfl (hb hby d27_78) rfl ?_
                              show Steps p.tables e below (s₁.setTop (mkF m 79 #[.val (.int q)] [(.int q)])) _
                              refine XS.bipush X0.here hx rfl (hb hby d27_79) ?_
                              by_cases q_15 : q = (100 : Int32)
                              · skip
                                show Steps p.tables e below (s₁.setTop (mkF m 81 #[.val (.int q)] [(.int (100 : Int32)), (.int q)])) _
                                refine XS.icmpYes X0.here hx rfl (pc0 := 81) (pc' := 96) rfl (hb hby d27_81) rfl (teq q_15).1 (by decide) (by decide) ?_
                                show Steps p.tables e below (s₁.setTop (mkF m 96 #[.val (.int q)] [])) _
                                refine XS.iconst X0.here hx rfl (hb hby d27_96) ?_
                                show Steps p.tables e below (s₁.setTop (mkF m 97 #[.val (.int q)] [(.int (1 : Int32))])) _
                                refine XS.goto X0.here hx rfl (pc0 := 97) (pc' := 101) rfl (hb hby d27_97) (by decide) (by decide) ?_
                                have ev_xr : xr = (1 : Int32) := by rw [hv_xr, if_neg q_2, if_neg q_3, if_neg q_4, if_neg q_5, if_neg q_6, if_neg q_7, if_neg q_8, if_neg q_9, if_neg q_10, if_neg q_11, if_neg q_12, if_neg q_13, if_neg q_14, if_pos q_15]
                                rw [ev_xr] at ktg
                                exact ktg
                              · skip
                                show Steps p.tables e below (s₁.setTop (mkF m 81 #[.val (.int q)] [(.int (100 : Int32)), (.int q)])) _
                                refine XS.icmpNo X0.here hx rfl (hb hby d27_81) rfl (feq q_15).1 ?_
                                show Steps p.tables e below (s₁.setTop (mkF m 84 #[.val (.int q)] [])) _
                                refine XS.iloadN X0.here hx rfl (hb hby d27_84) rfl ?_
                                show Steps p.tables e below (s₁.setTop (mkF m 85 #[.val (.int q)] [(.int q)])) _
                                refine XS.bipush X0.here hx rfl (hb hby d27_85) ?_
                                by_cases q_16 : q = (114 : Int32)
                                · skip
                                  show Steps p.tables e below (s₁.setTop (mkF m 87 #[.val (.int q)] [(.int (114 : Int32)), (.int q)])) _
                                  refine XS.icmpYes X0.here hx rfl (pc0 := 87) (pc' := 96) rfl (hb hby d27_87) rfl (teq q_16).1 (by decide) (by decide) ?_
                                  show Steps p.tables e below (s₁.setTop (mkF m 96 #[.val (.int q)] [])) _
                                  refine XS.iconst X0.here hx rfl (hb hby d27_96) ?_
                                  show Steps p.tables e below (s₁.setTop (mkF m 97 #[.val (.int q)] [(.int (1 : Int32))])) _
                                  refine XS.goto X0.here hx rfl (pc0 := 97) (pc' := 101) rfl (hb hby d27_97) (by decide) (by decide) ?_
                                  have ev_xr : xr = (1 : Int32) := by rw [hv_xr, if_neg q_2, if_neg q_3, if_neg q_4, if_neg q_5, if_neg q_6, if_neg q_7, if_neg q_8, if_neg q_9, if_neg q_10, if_neg q_11, if_neg q_12, if_neg q_13, if_neg q_14, if_neg q_15, if_pos q_16]
                                  rw [ev_xr] at ktg
                                  exact ktg
                                · skip
                                  show Steps p.tables e below (s₁.setTop (mkF m 87 #[.val (.int q)] [(.int (114 : Int32)), (.int q)])) _
                                  refine XS.icmpNo X0.here hx rfl (hb hby d27_87) rfl (feq q_16).1 ?_
                                  show Steps p.tables e below (s₁.setTop (mkF m 90 #[.val (.int q)] [])) _
                                  refine XS.iloadN X0.here hx rfl (hb hby d27_90) rfl ?_
                                  show Steps p.tables e below (s₁.setTop (mkF m 91 #[.val (.int q)] [(.int q)])) _
                                  refine XS.bipush X0.here hx rfl (hb hby d27_91) ?_
                                  by_cases q_17 : q = (47 : Int32)
                                  · skip
                                    show Steps p.tables e below (s₁.setTop (mkF m 93 #[.val (.int q)] [(.int (47 : Int32)), (.int q)])) _
                                    refine XS.icmpNo X0.here hx rfl (hb hby d27_93) rfl (teq q_17).2 ?_
                                    show Steps p.tables e below (s₁.setTop (mkF m 96 #[.val (.int q)] [])) _
                                    refine XS.iconst X0.here hx rfl (hb hby d27_96) ?_
                                    show Steps p.tables e below (s₁.setTop (mkF m 97 #[.val (.int q)] [(.int (1 : Int32))])) _
                                    refine XS.goto X0.here hx rfl (pc0 := 97) (pc' := 101) rfl (hb hby d27_97) (by decide) (by decide) ?_
                                    have ev_xr : xr = (1 : Int32) := by rw [hv_xr, if_neg q_2, if_neg q_3, if_neg q_4, if_neg q_5, if_neg q_6, if_neg q_7, if_neg q_8, if_neg q_9, if_neg q_10, if_neg q_11, if_neg q_12, if_neg q_13, if_neg q_14, if_neg q_15, if_neg q_16, if_pos q_17]
                                    rw [ev_xr] at ktg
                                    exact ktg
                                  · skip
                                    show Steps p.tables e below (s₁.setTop (mkF m 93 #[.val (.int q)] [(.int (47 : Int32)), (.int q)])) _
                                    refine XS.icmpYes X0.here hx rfl (pc0 := 93) (pc' := 100) rfl (hb hby d27_93) rfl (feq q_17).2 (by decide) (by decide) ?_
                                    show Steps p.tables e below (s₁.setTop (mkF m 100 #[.val (.int q)] [])) _
                                    refine XS.iconst X0.here hx rfl (hb hby d27_100) ?_
                                    have ev_xr : xr = (0 : Int32) := by rw [hv_xr, if_neg q_2, if_neg q_3, if_neg q_4, if_neg q_5, if_neg q_6, if_neg q_7, if_neg q_8, if_neg q_9, if_neg q_10, if_neg q_11, if_neg q_12, if_neg q_13, if_neg q_14, if_neg q_15, if_neg q_16, if_neg q_17]
                                    rw [ev_xr] at ktg
                                    exact ktg
    done)
  obtain ⟨fs, hr, hrun, hended, hW, hsame⟩ := X0.leave (v := some (.int (nar .boolean xr))) (fun h => by rw [Bd.returns] at h; cases h)
  refine ⟨_, _, pre_18 _ ?_, hrun, hended, _, _, rfl, ?_, ⟨_, rfl⟩, hW, hsame.mono (by decide) (by decide)⟩
  · show Steps p.tables e below (s₁.setTop (mkF m 101 #[.val (.int q)] [(.int xr)])) _
    exact retN X0 hx (t := .boolean) Bd.returns (by simp) (hb hby d27_101) hr
  · show Qinm Z q h0 n0 _ s₁.heap _
    rw [e0]
    exact ⟨by rw [show xr = inm q from hv_xr, own_inmZ], N0, rfl⟩
theorem d28_0 : decode method_4_code 0 = .ok (.iload_n 0, 1) := by decide +kernel
theorem d28_1 : decode method_4_code 1 = .ok (.bipush 83, 2) := by decide +kernel
theorem d28_3 : decode method_4_code 3 = .ok (.if_icmp .eq 27, 3) := by decide +kernel
theorem d28_30 : decode method_4_code 30 = .ok (.iconst 1, 1) := by decide +kernel
theorem d28_31 : decode method_4_code 31 = .ok (.goto 4, 3) := by decide +kernel
theorem d28_6 : decode method_4_code 6 = .ok (.iload_n 0, 1) := by decide +kernel
theorem d28_7 : decode method_4_code 7 = .ok (.bipush 110, 2) := by decide +kernel
theorem d28_9 : decode method_4_code 9 = .ok (.if_icmp .eq 21, 3) := by decide +kernel
theorem d28_12 : decode method_4_code 12 = .ok (.iload_n 0, 1) := by decide +kernel
theorem d28_13 : decode method_4_code 13 = .ok (.bipush 100, 2) := by decide +kernel
theorem d28_15 : decode method_4_code 15 = .ok (.if_icmp .eq 15, 3) := by decide +kernel
theorem d28_18 : decode method_4_code 18 = .ok (.iload_n 0, 1) := by decide +kernel
theorem d28_19 : decode method_4_code 19 = .ok (.bipush 114, 2) := by decide +kernel
theorem d28_21 : decode method_4_code 21 = .ok (.if_icmp .eq 9, 3) := by decide +kernel
theorem d28_24 : decode method_4_code 24 = .ok (.iload_n 0, 1) := by decide +kernel
theorem d28_25 : decode method_4_code 25 = .ok (.bipush 47, 2) := by decide +kernel
theorem d28_27 : decode method_4_code 27 = .ok (.if_icmp .ne 7, 3) := by decide +kernel
theorem d28_34 : decode method_4_code 34 = .ok (.iconst 0, 1) := by decide +kernel
theorem d28_35 : decode method_4_code 35 = .ok (.ireturn, 1) := by decide +kernel
theorem ef_onm (m : MethodId) (x0 : Int32) : entryFrame m #[(.int x0)] 1 = mkF m 0 #[.val (.int x0)] [] := by first | (simp [entryFrame, mkF, argsToLocals, Value.category]; done) | rfl
def Qonm (Z : State) (q : Int32) (h0 : Heap) (n0 : Nat) (v : Option Value) (h : Heap) (L : List Loc) : Prop := v = some (.int (onm q)) ∧ Fr n0 L ∧ h = h0
set_option maxRecDepth 65536 in
set_option maxHeartbeats 40000000 in
theorem rmonm (l : Launch) (Z : State) (a0 : Array Value) (hw : ∀ d ∈ tables_1, d.before a0 Z = true) (ws : List Jvm.Cond) (q : Int32) (h0 : Heap) (n0 : Nat) (Z0 : n0 ≤ h0.size)  :
    MetFree l (⟨"ResponseIsSenderFaultPinLaw", "onceInMarker", "(C)Z"⟩ : MethodName) (head1 (Jvm.Cond.code (⟨"ResponseIsSenderFaultPinLaw", "onceInMarker", "(C)Z"⟩ : MethodName) method_4_code 1 (some .boolean) :: ws) ({ frames := 0, cells := 0, slots := 0, locals := 0 } : Room)) (fun aA U => aA = #[(.int q)] ∧ Z.Warmed39 U.vm ∧ U.heap = h0) (fun _ _ _ _ _ => True) (fun _ U oO U' => ∃ vV LL, oO = .returned vV ∧ Qonm Z q h0 n0 vV U'.heap LL ∧ FrameEnd U oO U' LL ({ frames := 0, cells := 0, slots := 0, locals := 0 } : Room).cells ({ frames := 0, cells := 0, slots := 0, locals := 0 } : Room).slots) := by
  refine MetFree.of_bodySF (plainFor_of_name pn_5) hisR ?_
  intro p e s m args below meth c s₁ Bd hml0 hP hK
  obtain ⟨rfl, hZ, hh⟩ := hP
  have hx := Bd.exec
  have hby := Bd.bytes
  have hml : c.maxLocals = 1 := hml0
  have hown : s.vm.findClass "ResponseIsSenderFaultPinLaw" = some m.cls := findClass_of_methodNamed Bd.named
  have hnm := (name_of_methodNamed Bd.named Bd.method).1
  have X0 : Stand p l e ({ frames := 0, cells := 0, slots := 0, locals := 0 } : Room) s m #[(.int q)] below meth c s₁ [] 0 0 := Stand.of_body Bd
  have e0 : s₁.heap = h0 := by rw [← hh, Bd.state]; rfl
  have N0 := Fr.nil n0
  have K0 : Keep h0 h0 [] := Keep.refl _ _
  have pre0 : Rch p.tables e below (s₁.setTop (entryFrame m #[(.int q)] 1)) (s₁.setTop (mkF m 0 #[.val (.int q)] [])) := fun tgt ktg => castTop (ef_onm m q) ktg
  have pre_1 : Rch p.tables e below (s₁.setTop (entryFrame m #[(.int q)] 1)) (s₁.setTop (mkF m 3 #[.val (.int q)] [(.int (83 : Int32)), (.int q)])) := fun tgt ktg => pre0 tgt (by
    show Steps p.tables e below (s₁.setTop (mkF m 0 #[.val (.int q)] [])) _
    refine XS.iloadN X0.here hx rfl (hb hby d28_0) rfl ?_
    show Steps p.tables e below (s₁.setTop (mkF m 1 #[.val (.int q)] [(.int q)])) _
    refine XS.bipush X0.here hx rfl (hb hby d28_1) ?_
    exact ktg)
  obtain ⟨xr, hv_xr⟩ : ∃ nm_ : Int32, nm_ = (if q = (83 : Int32) then (1 : Int32) else (if q = (110 : Int32) then (1 : Int32) else (if q = (100 : Int32) then (1 : Int32) else (if q = (114 : Int32) then (1 : Int32) else (if q = (47 : Int32) then (1 : Int32) else (0 : Int32)))))) := ⟨_, rfl⟩
  have pre_7 : Rch p.tables e below (s₁.setTop (entryFrame m #[(.int q)] 1)) (s₁.setTop (mkF m 35 #[.val (.int q)] [(.int xr)])) := fun tgt ktg => pre_1 tgt (by
    by_cases q_2 : q = (83 : Int32)
    · skip
      show Steps p.tables e below (s₁.setTop (mkF m 3 #[.val (.int q)] [(.int (83 : Int32)), (.int q)])) _
      refine XS.icmpYes X0.here hx rfl (pc0 := 3) (pc' := 30) rfl (hb hby d28_3) rfl (teq q_2).1 (by decide) (by decide) ?_
      show Steps p.tables e below (s₁.setTop (mkF m 30 #[.val (.int q)] [])) _
      refine XS.iconst X0.here hx rfl (hb hby d28_30) ?_
      show Steps p.tables e below (s₁.setTop (mkF m 31 #[.val (.int q)] [(.int (1 : Int32))])) _
      refine XS.goto X0.here hx rfl (pc0 := 31) (pc' := 35) rfl (hb hby d28_31) (by decide) (by decide) ?_
      have ev_xr : xr = (1 : Int32) := by rw [hv_xr, if_pos q_2]
      rw [ev_xr] at ktg
      exact ktg
    · skip
      show Steps p.tables e below (s₁.setTop (mkF m 3 #[.val (.int q)] [(.int (83 : Int32)), (.int q)])) _
      refine XS.icmpNo X0.here hx rfl (hb hby d28_3) rfl (feq q_2).1 ?_
      show Steps p.tables e below (s₁.setTop (mkF m 6 #[.val (.int q)] [])) _
      refine XS.iloadN X0.here hx rfl (hb hby d28_6) rfl ?_
      show Steps p.tables e below (s₁.setTop (mkF m 7 #[.val (.int q)] [(.int q)])) _
      refine XS.bipush X0.here hx rfl (hb hby d28_7) ?_
      by_cases q_3 : q = (110 : Int32)
      · skip
        show Steps p.tables e below (s₁.setTop (mkF m 9 #[.val (.int q)] [(.int (110 : Int32)), (.int q)])) _
        refine XS.icmpYes X0.here hx rfl (pc0 := 9) (pc' := 30) rfl (hb hby d28_9) rfl (teq q_3).1 (by decide) (by decide) ?_
        show Steps p.tables e below (s₁.setTop (mkF m 30 #[.val (.int q)] [])) _
        refine XS.iconst X0.here hx rfl (hb hby d28_30) ?_
        show Steps p.tables e below (s₁.setTop (mkF m 31 #[.val (.int q)] [(.int (1 : Int32))])) _
        refine XS.goto X0.here hx rfl (pc0 := 31) (pc' := 35) rfl (hb hby d28_31) (by decide) (by decide) ?_
        have ev_xr : xr = (1 : Int32) := by rw [hv_xr, if_neg q_2, if_pos q_3]
        rw [ev_xr] at ktg
        exact ktg
      · skip
        show Steps p.tables e below (s₁.setTop (mkF m 9 #[.val (.int q)] [(.int (110 : Int32)), (.int q)])) _
        refine XS.icmpNo X0.here hx rfl (hb hby d28_9) rfl (feq q_3).1 ?_
        show Steps p.tables e below (s₁.setTop (mkF m 12 #[.val (.int q)] [])) _
        refine XS.iloadN X0.here hx rfl (hb hby d28_12) rfl ?_
        show Steps p.tables e below (s₁.setTop (mkF m 13 #[.val (.int q)] [(.int q)])) _
        refine XS.bipush X0.here hx rfl (hb hby d28_13) ?_
        by_cases q_4 : q = (100 : Int32)
        · skip
          show Steps p.tables e below (s₁.setTop (mkF m 15 #[.val (.int q)] [(.int (100 : Int32)), (.int q)])) _
          refine XS.icmpYes X0.here hx rfl (pc0 := 15) (pc' := 30) rfl (hb hby d28_15) rfl (teq q_4).1 (by decide) (by decide) ?_
          show Steps p.tables e below (s₁.setTop (mkF m 30 #[.val (.int q)] [])) _
          refine XS.iconst X0.here hx rfl (hb hby d28_30) ?_
          show Steps p.tables e below (s₁.setTop (mkF m 31 #[.val (.int q)] [(.int (1 : Int32))])) _
          refine XS.goto X0.here hx rfl (pc0 := 31) (pc' := 35) rfl (hb hby d28_31) (by decide) (by decide) ?_
          have ev_xr : xr = (1 : Int32) := by rw [hv_xr, if_neg q_2, if_neg q_3, if_pos q_4]
          rw [ev_xr] at ktg
          exact ktg
        · skip
          show Steps p.tables e below (s₁.setTop (mkF m 15 #[.val (.int q)] [(.int (100 : Int32)), (.int q)])) _
          refine XS.icmpNo X0.here hx rfl (hb hby d28_15) rfl (feq q_4).1 ?_
          show Steps p.tables e below (s₁.setTop (mkF m 18 #[.val (.int q)] [])) _
          refine XS.iloadN X0.here hx rfl (hb hby d28_18) rfl ?_
          show Steps p.tables e below (s₁.setTop (mkF m 19 #[.val (.int q)] [(.int q)])) _
          refine XS.bipush X0.here hx rfl (hb hby d28_19) ?_
          by_cases q_5 : q = (114 : Int32)
          · skip
            show Steps p.tables e below (s₁.setTop (mkF m 21 #[.val (.int q)] [(.int (114 : Int32)), (.int q)])) _
            refine XS.icmpYes X0.here hx rfl (pc0 := 21) (pc' := 30) rfl (hb hby d28_21) rfl (teq q_5).1 (by decide) (by decide) ?_
            show Steps p.tables e below (s₁.setTop (mkF m 30 #[.val (.int q)] [])) _
            refine XS.iconst X0.here hx rfl (hb hby d28_30) ?_
            show Steps p.tables e below (s₁.setTop (mkF m 31 #[.val (.int q)] [(.int (1 : Int32))])) _
            refine XS.goto X0.here hx rfl (pc0 := 31) (pc' := 35) rfl (hb hby d28_31) (by decide) (by decide) ?_
            have ev_xr : xr = (1 : Int32) := by rw [hv_xr, if_neg q_2, if_neg q_3, if_neg q_4, if_pos q_5]
            rw [ev_xr] at ktg
            exact ktg
          · skip
            show Steps p.tables e below (s₁.setTop (mkF m 21 #[.val (.int q)] [(.int (114 : Int32)), (.int q)])) _
            refine XS.icmpNo X0.here hx rfl (hb hby d28_21) rfl (feq q_5).1 ?_
            show Steps p.tables e below (s₁.setTop (mkF m 24 #[.val (.int q)] [])) _
            refine XS.iloadN X0.here hx rfl (hb hby d28_24) rfl ?_
            show Steps p.tables e below (s₁.setTop (mkF m 25 #[.val (.int q)] [(.int q)])) _
            refine XS.bipush X0.here hx rfl (hb hby d28_25) ?_
            by_cases q_6 : q = (47 : Int32)
            · skip
              show Steps p.tables e below (s₁.setTop (mkF m 27 #[.val (.int q)] [(.int (47 : Int32)), (.int q)])) _
              refine XS.icmpNo X0.here hx rfl (hb hby d28_27) rfl (teq q_6).2 ?_
              show Steps p.tables e below (s₁.setTop (mkF m 30 #[.val (.int q)] [])) _
              refine XS.iconst X0.here hx rfl (hb hby d28_30) ?_
              show Steps p.tables e below (s₁.setTop (mkF m 31 #[.val (.int q)] [(.int (1 : Int32))])) _
              refine XS.goto X0.here hx rfl (pc0 := 31) (pc' := 35) rfl (hb hby d28_31) (by decide) (by decide) ?_
              have ev_xr : xr = (1 : Int32) := by rw [hv_xr, if_neg q_2, if_neg q_3, if_neg q_4, if_neg q_5, if_pos q_6]
              rw [ev_xr] at ktg
              exact ktg
            · skip
              show Steps p.tables e below (s₁.setTop (mkF m 27 #[.val (.int q)] [(.int (47 : Int32)), (.int q)])) _
              refine XS.icmpYes X0.here hx rfl (pc0 := 27) (pc' := 34) rfl (hb hby d28_27) rfl (feq q_6).2 (by decide) (by decide) ?_
              show Steps p.tables e below (s₁.setTop (mkF m 34 #[.val (.int q)] [])) _
              refine XS.iconst X0.here hx rfl (hb hby d28_34) ?_
              have ev_xr : xr = (0 : Int32) := by rw [hv_xr, if_neg q_2, if_neg q_3, if_neg q_4, if_neg q_5, if_neg q_6]
              rw [ev_xr] at ktg
              exact ktg
    done)
  obtain ⟨fs, hr, hrun, hended, hW, hsame⟩ := X0.leave (v := some (.int (nar .boolean xr))) (fun h => by rw [Bd.returns] at h; cases h)
  refine ⟨_, _, pre_7 _ ?_, hrun, hended, _, _, rfl, ?_, ⟨_, rfl⟩, hW, hsame.mono (by decide) (by decide)⟩
  · show Steps p.tables e below (s₁.setTop (mkF m 35 #[.val (.int q)] [(.int xr)])) _
    exact retN X0 hx (t := .boolean) Bd.returns (by simp) (hb hby d28_35) hr
  · show Qonm Z q h0 n0 _ s₁.heap _
    rw [e0]
    exact ⟨by rw [show xr = onm q from hv_xr, own_onmZ], N0, rfl⟩
theorem d26_0 : decode method_5_code 0 = .ok (.iload_n 0, 1) := by decide +kernel
theorem d26_1 : decode method_5_code 1 = .ok (.iload_n 1, 1) := by decide +kernel
theorem d26_2 : decode method_5_code 2 = .ok (.if_icmp .eq 33, 3) := by decide +kernel
theorem d26_35 : decode method_5_code 35 = .ok (.iconst 1, 1) := by decide +kernel
theorem d26_36 : decode method_5_code 36 = .ok (.goto 4, 3) := by decide +kernel
theorem d26_40 : decode method_5_code 40 = .ok (.ireturn, 1) := by decide +kernel
theorem d26_5 : decode method_5_code 5 = .ok (.iload_n 0, 1) := by decide +kernel
theorem d26_6 : decode method_5_code 6 = .ok (.iload_n 2, 1) := by decide +kernel
theorem d26_7 : decode method_5_code 7 = .ok (.if_icmp .eq 28, 3) := by decide +kernel
theorem d26_10 : decode method_5_code 10 = .ok (.iload_n 0, 1) := by decide +kernel
theorem d26_11 : decode method_5_code 11 = .ok (.iload_n 3, 1) := by decide +kernel
theorem d26_12 : decode method_5_code 12 = .ok (.if_icmp .eq 23, 3) := by decide +kernel
theorem d26_15 : decode method_5_code 15 = .ok (.iload_n 0, 1) := by decide +kernel
theorem d26_16 : decode method_5_code 16 = .ok (.invokestatic 9, 3) := by decide +kernel
theorem d26_19 : decode method_5_code 19 = .ok (.ifCond .eq 20, 3) := by decide +kernel
theorem d26_39 : decode method_5_code 39 = .ok (.iconst 0, 1) := by decide +kernel
theorem d26_22 : decode method_5_code 22 = .ok (.iload 4, 2) := by decide +kernel
theorem d26_24 : decode method_5_code 24 = .ok (.iload_n 0, 1) := by decide +kernel
theorem d26_25 : decode method_5_code 25 = .ok (.if_icmp .ne 10, 3) := by decide +kernel
theorem d26_28 : decode method_5_code 28 = .ok (.iload_n 0, 1) := by decide +kernel
theorem d26_29 : decode method_5_code 29 = .ok (.invokestatic 15, 3) := by decide +kernel
theorem d26_32 : decode method_5_code 32 = .ok (.ifCond .ne 7, 3) := by decide +kernel
theorem ef_hc (m : MethodId) (x0 : Int32) (x1 : Int32) (x2 : Int32) (x3 : Int32) (x4 : Int32) : entryFrame m #[(.int x0), (.int x1), (.int x2), (.int x3), (.int x4)] 5 = mkF m 0 #[.val (.int x0), .val (.int x1), .val (.int x2), .val (.int x3), .val (.int x4)] [] := by first | (simp [entryFrame, mkF, argsToLocals, Value.category]; done) | rfl
def Qhc (Z : State) (y : Int32) (c0 : Int32) (c1 : Int32) (xx : Int32) (ap : Int32) (h0 : Heap) (n0 : Nat) (v : Option Value) (h : Heap) (L : List Loc) : Prop := v = some (.int (hch y c0 c1 xx ap)) ∧ Fr n0 L ∧ h = h0
set_option maxRecDepth 65536 in
set_option maxHeartbeats 40000000 in
theorem rmhc (l : Launch) (Z : State) (a0 : Array Value) (hw : ∀ d ∈ tables_1, d.before a0 Z = true) (ws : List Jvm.Cond) (y : Int32) (c0 : Int32) (c1 : Int32) (xx : Int32) (ap : Int32) (h0 : Heap) (n0 : Nat) (Z0 : n0 ≤ h0.size)  :
    MetFree l (⟨"ResponseIsSenderFaultPinLaw", "hasChar", "(CCCCC)Z"⟩ : MethodName) (head1 (Jvm.Cond.code (⟨"ResponseIsSenderFaultPinLaw", "hasChar", "(CCCCC)Z"⟩ : MethodName) method_5_code 5 (some .boolean) :: ws) ({ frames := 1, cells := 0, slots := 0, locals := 12 } : Room)) (fun aA U => aA = #[(.int y), (.int c0), (.int c1), (.int xx), (.int ap)] ∧ Z.Warmed39 U.vm ∧ U.heap = h0) (fun _ _ _ _ _ => True) (fun _ U oO U' => ∃ vV LL, oO = .returned vV ∧ Qhc Z y c0 c1 xx ap h0 n0 vV U'.heap LL ∧ FrameEnd U oO U' LL ({ frames := 1, cells := 0, slots := 0, locals := 12 } : Room).cells ({ frames := 1, cells := 0, slots := 0, locals := 12 } : Room).slots) := by
  refine MetFree.of_bodySF (plainFor_of_name pn_5) hisR ?_
  intro p e s m args below meth c s₁ Bd hml0 hP hK
  obtain ⟨rfl, hZ, hh⟩ := hP
  have hx := Bd.exec
  have hby := Bd.bytes
  have hml : c.maxLocals = 5 := hml0
  have hown : s.vm.findClass "ResponseIsSenderFaultPinLaw" = some m.cls := findClass_of_methodNamed Bd.named
  have hnm := (name_of_methodNamed Bd.named Bd.method).1
  have X0 : Stand p l e ({ frames := 1, cells := 0, slots := 0, locals := 12 } : Room) s m #[(.int y), (.int c0), (.int c1), (.int xx), (.int ap)] below meth c s₁ [] 0 0 := Stand.of_body Bd
  have e0 : s₁.heap = h0 := by rw [← hh, Bd.state]; rfl
  have N0 := Fr.nil n0
  have K0 : Keep h0 h0 [] := Keep.refl _ _
  have pre0 : Rch p.tables e below (s₁.setTop (entryFrame m #[(.int y), (.int c0), (.int c1), (.int xx), (.int ap)] 5)) (s₁.setTop (mkF m 0 #[.val (.int y), .val (.int c0), .val (.int c1), .val (.int xx), .val (.int ap)] [])) := fun tgt ktg => castTop (ef_hc m y c0 c1 xx ap) ktg
  have pre_1 : Rch p.tables e below (s₁.setTop (entryFrame m #[(.int y), (.int c0), (.int c1), (.int xx), (.int ap)] 5)) (s₁.setTop (mkF m 2 #[.val (.int y), .val (.int c0), .val (.int c1), .val (.int xx), .val (.int ap)] [(.int c0), (.int y)])) := fun tgt ktg => pre0 tgt (by
    show Steps p.tables e below (s₁.setTop (mkF m 0 #[.val (.int y), .val (.int c0), .val (.int c1), .val (.int xx), .val (.int ap)] [])) _
    refine XS.iloadN X0.here hx rfl (hb hby d26_0) rfl ?_
    show Steps p.tables e below (s₁.setTop (mkF m 1 #[.val (.int y), .val (.int c0), .val (.int c1), .val (.int xx), .val (.int ap)] [(.int y)])) _
    refine XS.iloadN X0.here hx rfl (hb hby d26_1) rfl ?_
    exact ktg)
  by_cases c_2 : y = c0
  · skip
    have pre_3 : Rch p.tables e below (s₁.setTop (entryFrame m #[(.int y), (.int c0), (.int c1), (.int xx), (.int ap)] 5)) (s₁.setTop (mkF m 35 #[.val (.int y), .val (.int c0), .val (.int c1), .val (.int xx), .val (.int ap)] [])) := fun tgt ktg => pre_1 tgt (by
      show Steps p.tables e below (s₁.setTop (mkF m 2 #[.val (.int y), .val (.int c0), .val (.int c1), .val (.int xx), .val (.int ap)] [(.int c0), (.int y)])) _
      refine XS.icmpYes X0.here hx rfl (pc0 := 2) (pc' := 35) rfl (hb hby d26_2) rfl (teq c_2).1 (by decide) (by decide) ?_
      exact ktg)
    have pre_4 : Rch p.tables e below (s₁.setTop (entryFrame m #[(.int y), (.int c0), (.int c1), (.int xx), (.int ap)] 5)) (s₁.setTop (mkF m 40 #[.val (.int y), .val (.int c0), .val (.int c1), .val (.int xx), .val (.int ap)] [(.int (1 : Int32))])) := fun tgt ktg => pre_3 tgt (by
      show Steps p.tables e below (s₁.setTop (mkF m 35 #[.val (.int y), .val (.int c0), .val (.int c1), .val (.int xx), .val (.int ap)] [])) _
      refine XS.iconst X0.here hx rfl (hb hby d26_35) ?_
      show Steps p.tables e below (s₁.setTop (mkF m 36 #[.val (.int y), .val (.int c0), .val (.int c1), .val (.int xx), .val (.int ap)] [(.int (1 : Int32))])) _
      refine XS.goto X0.here hx rfl (pc0 := 36) (pc' := 40) rfl (hb hby d26_36) (by decide) (by decide) ?_
      exact ktg)
    obtain ⟨fs, hr, hrun, hended, hW, hsame⟩ := X0.leave (v := some (.int (1 : Int32))) (fun h => by rw [Bd.returns] at h; cases h)
    refine ⟨_, _, pre_4 _ ?_, hrun, hended, _, _, rfl, ?_, ⟨_, rfl⟩, hW, hsame.mono (by decide) (by decide)⟩
    · show Steps p.tables e below (s₁.setTop (mkF m 40 #[.val (.int y), .val (.int c0), .val (.int c1), .val (.int xx), .val (.int ap)] [(.int (1 : Int32))])) _
      exact retN X0 hx (t := .boolean) Bd.returns (by simp) (hb hby d26_40) hr
    · show Qhc Z y c0 c1 xx ap h0 n0 _ s₁.heap _
      rw [e0]
      exact ⟨by simp only [hch]; rw [if_pos c_2], N0, rfl⟩
  · skip
    have pre_5 : Rch p.tables e below (s₁.setTop (entryFrame m #[(.int y), (.int c0), (.int c1), (.int xx), (.int ap)] 5)) (s₁.setTop (mkF m 5 #[.val (.int y), .val (.int c0), .val (.int c1), .val (.int xx), .val (.int ap)] [])) := fun tgt ktg => pre_1 tgt (by
      show Steps p.tables e below (s₁.setTop (mkF m 2 #[.val (.int y), .val (.int c0), .val (.int c1), .val (.int xx), .val (.int ap)] [(.int c0), (.int y)])) _
      refine XS.icmpNo X0.here hx rfl (hb hby d26_2) rfl (feq c_2).1 ?_
      exact ktg)
    have pre_6 : Rch p.tables e below (s₁.setTop (entryFrame m #[(.int y), (.int c0), (.int c1), (.int xx), (.int ap)] 5)) (s₁.setTop (mkF m 7 #[.val (.int y), .val (.int c0), .val (.int c1), .val (.int xx), .val (.int ap)] [(.int c1), (.int y)])) := fun tgt ktg => pre_5 tgt (by
      show Steps p.tables e below (s₁.setTop (mkF m 5 #[.val (.int y), .val (.int c0), .val (.int c1), .val (.int xx), .val (.int ap)] [])) _
      refine XS.iloadN X0.here hx rfl (hb hby d26_5) rfl ?_
      show Steps p.tables e below (s₁.setTop (mkF m 6 #[.val (.int y), .val (.int c0), .val (.int c1), .val (.int xx), .val (.int ap)] [(.int y)])) _
      refine XS.iloadN X0.here hx rfl (hb hby d26_6) rfl ?_
      exact ktg)
    by_cases c_7 : y = c1
    · skip
      have pre_8 : Rch p.tables e below (s₁.setTop (entryFrame m #[(.int y), (.int c0), (.int c1), (.int xx), (.int ap)] 5)) (s₁.setTop (mkF m 35 #[.val (.int y), .val (.int c0), .val (.int c1), .val (.int xx), .val (.int ap)] [])) := fun tgt ktg => pre_6 tgt (by
        show Steps p.tables e below (s₁.setTop (mkF m 7 #[.val (.int y), .val (.int c0), .val (.int c1), .val (.int xx), .val (.int ap)] [(.int c1), (.int y)])) _
        refine XS.icmpYes X0.here hx rfl (pc0 := 7) (pc' := 35) rfl (hb hby d26_7) rfl (teq c_7).1 (by decide) (by decide) ?_
        exact ktg)
      have pre_9 : Rch p.tables e below (s₁.setTop (entryFrame m #[(.int y), (.int c0), (.int c1), (.int xx), (.int ap)] 5)) (s₁.setTop (mkF m 40 #[.val (.int y), .val (.int c0), .val (.int c1), .val (.int xx), .val (.int ap)] [(.int (1 : Int32))])) := fun tgt ktg => pre_8 tgt (by
        show Steps p.tables e below (s₁.setTop (mkF m 35 #[.val (.int y), .val (.int c0), .val (.int c1), .val (.int xx), .val (.int ap)] [])) _
        refine XS.iconst X0.here hx rfl (hb hby d26_35) ?_
        show Steps p.tables e below (s₁.setTop (mkF m 36 #[.val (.int y), .val (.int c0), .val (.int c1), .val (.int xx), .val (.int ap)] [(.int (1 : Int32))])) _
        refine XS.goto X0.here hx rfl (pc0 := 36) (pc' := 40) rfl (hb hby d26_36) (by decide) (by decide) ?_
        exact ktg)
      obtain ⟨fs, hr, hrun, hended, hW, hsame⟩ := X0.leave (v := some (.int (1 : Int32))) (fun h => by rw [Bd.returns] at h; cases h)
      refine ⟨_, _, pre_9 _ ?_, hrun, hended, _, _, rfl, ?_, ⟨_, rfl⟩, hW, hsame.mono (by decide) (by decide)⟩
      · show Steps p.tables e below (s₁.setTop (mkF m 40 #[.val (.int y), .val (.int c0), .val (.int c1), .val (.int xx), .val (.int ap)] [(.int (1 : Int32))])) _
        exact retN X0 hx (t := .boolean) Bd.returns (by simp) (hb hby d26_40) hr
      · show Qhc Z y c0 c1 xx ap h0 n0 _ s₁.heap _
        rw [e0]
        exact ⟨by simp only [hch]; rw [if_neg c_2, if_pos c_7], N0, rfl⟩
    · skip
      have pre_10 : Rch p.tables e below (s₁.setTop (entryFrame m #[(.int y), (.int c0), (.int c1), (.int xx), (.int ap)] 5)) (s₁.setTop (mkF m 10 #[.val (.int y), .val (.int c0), .val (.int c1), .val (.int xx), .val (.int ap)] [])) := fun tgt ktg => pre_6 tgt (by
        show Steps p.tables e below (s₁.setTop (mkF m 7 #[.val (.int y), .val (.int c0), .val (.int c1), .val (.int xx), .val (.int ap)] [(.int c1), (.int y)])) _
        refine XS.icmpNo X0.here hx rfl (hb hby d26_7) rfl (feq c_7).1 ?_
        exact ktg)
      have pre_11 : Rch p.tables e below (s₁.setTop (entryFrame m #[(.int y), (.int c0), (.int c1), (.int xx), (.int ap)] 5)) (s₁.setTop (mkF m 12 #[.val (.int y), .val (.int c0), .val (.int c1), .val (.int xx), .val (.int ap)] [(.int xx), (.int y)])) := fun tgt ktg => pre_10 tgt (by
        show Steps p.tables e below (s₁.setTop (mkF m 10 #[.val (.int y), .val (.int c0), .val (.int c1), .val (.int xx), .val (.int ap)] [])) _
        refine XS.iloadN X0.here hx rfl (hb hby d26_10) rfl ?_
        show Steps p.tables e below (s₁.setTop (mkF m 11 #[.val (.int y), .val (.int c0), .val (.int c1), .val (.int xx), .val (.int ap)] [(.int y)])) _
        refine XS.iloadN X0.here hx rfl (hb hby d26_11) rfl ?_
        exact ktg)
      by_cases c_12 : y = xx
      · skip
        have pre_13 : Rch p.tables e below (s₁.setTop (entryFrame m #[(.int y), (.int c0), (.int c1), (.int xx), (.int ap)] 5)) (s₁.setTop (mkF m 35 #[.val (.int y), .val (.int c0), .val (.int c1), .val (.int xx), .val (.int ap)] [])) := fun tgt ktg => pre_11 tgt (by
          show Steps p.tables e below (s₁.setTop (mkF m 12 #[.val (.int y), .val (.int c0), .val (.int c1), .val (.int xx), .val (.int ap)] [(.int xx), (.int y)])) _
          refine XS.icmpYes X0.here hx rfl (pc0 := 12) (pc' := 35) rfl (hb hby d26_12) rfl (teq c_12).1 (by decide) (by decide) ?_
          exact ktg)
        have pre_14 : Rch p.tables e below (s₁.setTop (entryFrame m #[(.int y), (.int c0), (.int c1), (.int xx), (.int ap)] 5)) (s₁.setTop (mkF m 40 #[.val (.int y), .val (.int c0), .val (.int c1), .val (.int xx), .val (.int ap)] [(.int (1 : Int32))])) := fun tgt ktg => pre_13 tgt (by
          show Steps p.tables e below (s₁.setTop (mkF m 35 #[.val (.int y), .val (.int c0), .val (.int c1), .val (.int xx), .val (.int ap)] [])) _
          refine XS.iconst X0.here hx rfl (hb hby d26_35) ?_
          show Steps p.tables e below (s₁.setTop (mkF m 36 #[.val (.int y), .val (.int c0), .val (.int c1), .val (.int xx), .val (.int ap)] [(.int (1 : Int32))])) _
          refine XS.goto X0.here hx rfl (pc0 := 36) (pc' := 40) rfl (hb hby d26_36) (by decide) (by decide) ?_
          exact ktg)
        obtain ⟨fs, hr, hrun, hended, hW, hsame⟩ := X0.leave (v := some (.int (1 : Int32))) (fun h => by rw [Bd.returns] at h; cases h)
        refine ⟨_, _, pre_14 _ ?_, hrun, hended, _, _, rfl, ?_, ⟨_, rfl⟩, hW, hsame.mono (by decide) (by decide)⟩
        · show Steps p.tables e below (s₁.setTop (mkF m 40 #[.val (.int y), .val (.int c0), .val (.int c1), .val (.int xx), .val (.int ap)] [(.int (1 : Int32))])) _
          exact retN X0 hx (t := .boolean) Bd.returns (by simp) (hb hby d26_40) hr
        · show Qhc Z y c0 c1 xx ap h0 n0 _ s₁.heap _
          rw [e0]
          exact ⟨by simp only [hch]; rw [if_neg c_2, if_neg c_7, if_pos c_12], N0, rfl⟩
      · skip
        have pre_15 : Rch p.tables e below (s₁.setTop (entryFrame m #[(.int y), (.int c0), (.int c1), (.int xx), (.int ap)] 5)) (s₁.setTop (mkF m 15 #[.val (.int y), .val (.int c0), .val (.int c1), .val (.int xx), .val (.int ap)] [])) := fun tgt ktg => pre_11 tgt (by
          show Steps p.tables e below (s₁.setTop (mkF m 12 #[.val (.int y), .val (.int c0), .val (.int c1), .val (.int xx), .val (.int ap)] [(.int xx), (.int y)])) _
          refine XS.icmpNo X0.here hx rfl (hb hby d26_12) rfl (feq c_12).1 ?_
          exact ktg)
        have pre_16 : Rch p.tables e below (s₁.setTop (entryFrame m #[(.int y), (.int c0), (.int c1), (.int xx), (.int ap)] 5)) (s₁.setTop (mkF m 16 #[.val (.int y), .val (.int c0), .val (.int c1), .val (.int xx), .val (.int ap)] [(.int y)])) := fun tgt ktg => pre_15 tgt (by
          show Steps p.tables e below (s₁.setTop (mkF m 15 #[.val (.int y), .val (.int c0), .val (.int c1), .val (.int xx), .val (.int ap)] [])) _
          refine XS.iloadN X0.here hx rfl (hb hby d26_15) rfl ?_
          exact ktg)
        obtain ⟨_, _, ⟨T_17, L_17, k_17, n_17⟩, -, X_17, ⟨Lc_17, hQ_17, l_17, y_17, z_17⟩, st_17⟩ := Jvm.LawKit.callS X0 hx (y := (⟨"ResponseIsSenderFaultPinLaw", "inMarker", "(C)Z"⟩ : MethodName)) hown (mvT hZ (hw _ (List.mem_of_getElem? (i := 129) rfl))) (mvT hZ (hw _ (List.mem_of_getElem? (i := 130) rfl))) (mvT hZ (hw _ (List.mem_of_getElem? (i := 2) rfl))) (mvT hZ (hw _ (List.mem_of_getElem? (i := 131) rfl))) (by decide) (backOf (W := 0) (rminm l Z a0 hw [] y h0 n0 Z0) hZ (hw _ (List.mem_of_getElem? (i := 131) rfl)) (hw _ (List.mem_of_getElem? (i := 2) rfl)) (by decide) (by decide)) (g := (mkF m 16 #[.val (.int y), .val (.int c0), .val (.int c1), .val (.int xx), .val (.int ap)] [(.int y)])) rfl (by rw [hml]; rfl) (argsL := [(.int y)]) (rest := []) (lenOf pd_11 rfl) rfl (by show 2 * 0 + _ ≤ _; exact Nat.le_of_eq rfl) (hb hby d26_16) (fun _ _ => ⟨rfl, e0, (by decide : 0 + 0 ≤ _), (by decide : 0 + 0 ≤ _)⟩)
        dsimp only [Pt.U, Pt.locs, Pt.cells, Pt.slots] at X_17 l_17 y_17 z_17 st_17 hQ_17
        subst l_17 y_17 z_17
        obtain ⟨rfl, Nq_17, eh_17⟩ := hQ_17
        have N_18 := Fr.app N0 Nq_17
        have pre_17 : Rch p.tables e below (s₁.setTop (entryFrame m #[(.int y), (.int c0), (.int c1), (.int xx), (.int ap)] 5)) (T_17.setTop (mkF m 19 #[.val (.int y), .val (.int c0), .val (.int c1), .val (.int xx), .val (.int ap)] [(.int (inm y))])) := fun tgt ktg => pre_16 tgt (st_17 tgt ktg)
        by_cases c_19 : (inm y) = (0 : Int32)
        · skip
          have pre_20 : Rch p.tables e below (s₁.setTop (entryFrame m #[(.int y), (.int c0), (.int c1), (.int xx), (.int ap)] 5)) (T_17.setTop (mkF m 39 #[.val (.int y), .val (.int c0), .val (.int c1), .val (.int xx), .val (.int ap)] [])) := fun tgt ktg => pre_17 tgt (by
            show Steps p.tables e below (T_17.setTop (mkF m 19 #[.val (.int y), .val (.int c0), .val (.int c1), .val (.int xx), .val (.int ap)] [(.int (inm y))])) _
            refine XS.ifYes X_17.here hx rfl (pc0 := 19) (pc' := 39) rfl (hb hby d26_19) rfl ((if0 _ _).trans (teq c_19).1) (by decide) (by decide) ?_
            exact ktg)
          have pre_21 : Rch p.tables e below (s₁.setTop (entryFrame m #[(.int y), (.int c0), (.int c1), (.int xx), (.int ap)] 5)) (T_17.setTop (mkF m 40 #[.val (.int y), .val (.int c0), .val (.int c1), .val (.int xx), .val (.int ap)] [(.int (0 : Int32))])) := fun tgt ktg => pre_20 tgt (by
            show Steps p.tables e below (T_17.setTop (mkF m 39 #[.val (.int y), .val (.int c0), .val (.int c1), .val (.int xx), .val (.int ap)] [])) _
            refine XS.iconst X_17.here hx rfl (hb hby d26_39) ?_
            exact ktg)
          obtain ⟨fs, hr, hrun, hended, hW, hsame⟩ := X_17.leave (v := some (.int (0 : Int32))) (fun h => by rw [Bd.returns] at h; cases h)
          refine ⟨_, _, pre_21 _ ?_, hrun, hended, _, _, rfl, ?_, ⟨_, rfl⟩, hW, hsame.mono (by decide) (by decide)⟩
          · show Steps p.tables e below (T_17.setTop (mkF m 40 #[.val (.int y), .val (.int c0), .val (.int c1), .val (.int xx), .val (.int ap)] [(.int (0 : Int32))])) _
            exact retN X_17 hx (t := .boolean) Bd.returns (by simp) (hb hby d26_40) hr
          · show Qhc Z y c0 c1 xx ap h0 n0 _ T_17.heap _
            rw [eh_17]
            exact ⟨by simp only [hch]; rw [if_neg c_2, if_neg c_7, if_neg c_12, if_pos c_19], N_18, rfl⟩
        · skip
          have pre_22 : Rch p.tables e below (s₁.setTop (entryFrame m #[(.int y), (.int c0), (.int c1), (.int xx), (.int ap)] 5)) (T_17.setTop (mkF m 22 #[.val (.int y), .val (.int c0), .val (.int c1), .val (.int xx), .val (.int ap)] [])) := fun tgt ktg => pre_17 tgt (by
            show Steps p.tables e below (T_17.setTop (mkF m 19 #[.val (.int y), .val (.int c0), .val (.int c1), .val (.int xx), .val (.int ap)] [(.int (inm y))])) _
            refine XS.ifNo X_17.here hx rfl (hb hby d26_19) rfl ((if0 _ _).trans (feq c_19).1) ?_
            exact ktg)
          have pre_23 : Rch p.tables e below (s₁.setTop (entryFrame m #[(.int y), (.int c0), (.int c1), (.int xx), (.int ap)] 5)) (T_17.setTop (mkF m 25 #[.val (.int y), .val (.int c0), .val (.int c1), .val (.int xx), .val (.int ap)] [(.int y), (.int ap)])) := fun tgt ktg => pre_22 tgt (by
            show Steps p.tables e below (T_17.setTop (mkF m 22 #[.val (.int y), .val (.int c0), .val (.int c1), .val (.int xx), .val (.int ap)] [])) _
            refine XS.iload X_17.here hx rfl (hb hby d26_22) rfl ?_
            show Steps p.tables e below (T_17.setTop (mkF m 24 #[.val (.int y), .val (.int c0), .val (.int c1), .val (.int xx), .val (.int ap)] [(.int ap)])) _
            refine XS.iloadN X_17.here hx rfl (hb hby d26_24) rfl ?_
            exact ktg)
          by_cases c_24 : ap = y
          · skip
            have pre_25 : Rch p.tables e below (s₁.setTop (entryFrame m #[(.int y), (.int c0), (.int c1), (.int xx), (.int ap)] 5)) (T_17.setTop (mkF m 28 #[.val (.int y), .val (.int c0), .val (.int c1), .val (.int xx), .val (.int ap)] [])) := fun tgt ktg => pre_23 tgt (by
              show Steps p.tables e below (T_17.setTop (mkF m 25 #[.val (.int y), .val (.int c0), .val (.int c1), .val (.int xx), .val (.int ap)] [(.int y), (.int ap)])) _
              refine XS.icmpNo X_17.here hx rfl (hb hby d26_25) rfl (teq c_24).2 ?_
              exact ktg)
            have pre_26 : Rch p.tables e below (s₁.setTop (entryFrame m #[(.int y), (.int c0), (.int c1), (.int xx), (.int ap)] 5)) (T_17.setTop (mkF m 29 #[.val (.int y), .val (.int c0), .val (.int c1), .val (.int xx), .val (.int ap)] [(.int y)])) := fun tgt ktg => pre_25 tgt (by
              show Steps p.tables e below (T_17.setTop (mkF m 28 #[.val (.int y), .val (.int c0), .val (.int c1), .val (.int xx), .val (.int ap)] [])) _
              refine XS.iloadN X_17.here hx rfl (hb hby d26_28) rfl ?_
              exact ktg)
            obtain ⟨_, _, ⟨T_27, L_27, k_27, n_27⟩, -, X_27, ⟨Lc_27, hQ_27, l_27, y_27, z_27⟩, st_27⟩ := Jvm.LawKit.callS X_17 hx (y := (⟨"ResponseIsSenderFaultPinLaw", "onceInMarker", "(C)Z"⟩ : MethodName)) hown (mvT hZ (hw _ (List.mem_of_getElem? (i := 134) rfl))) (mvT hZ (hw _ (List.mem_of_getElem? (i := 135) rfl))) (mvT hZ (hw _ (List.mem_of_getElem? (i := 2) rfl))) (mvT hZ (hw _ (List.mem_of_getElem? (i := 136) rfl))) (by decide) (backOf (W := 0) (rmonm l Z a0 hw [] y h0 n0 Z0) hZ (hw _ (List.mem_of_getElem? (i := 136) rfl)) (hw _ (List.mem_of_getElem? (i := 2) rfl)) (by decide) (by decide)) (g := (mkF m 29 #[.val (.int y), .val (.int c0), .val (.int c1), .val (.int xx), .val (.int ap)] [(.int y)])) rfl (by rw [hml]; rfl) (argsL := [(.int y)]) (rest := []) (lenOf pd_11 rfl) rfl (by show 2 * 0 + _ ≤ _; exact Nat.le_of_eq rfl) (hb hby d26_29) (fun _ _ => ⟨rfl, eh_17, (by decide : 0 + 0 ≤ _), (by decide : 0 + 0 ≤ _)⟩)
            dsimp only [Pt.U, Pt.locs, Pt.cells, Pt.slots] at X_27 l_27 y_27 z_27 st_27 hQ_27
            subst l_27 y_27 z_27
            obtain ⟨rfl, Nq_27, eh_27⟩ := hQ_27
            have N_28 := Fr.app N_18 Nq_27
            have pre_27 : Rch p.tables e below (s₁.setTop (entryFrame m #[(.int y), (.int c0), (.int c1), (.int xx), (.int ap)] 5)) (T_27.setTop (mkF m 32 #[.val (.int y), .val (.int c0), .val (.int c1), .val (.int xx), .val (.int ap)] [(.int (onm y))])) := fun tgt ktg => pre_26 tgt (st_27 tgt ktg)
            by_cases c_29 : (onm y) = (0 : Int32)
            · skip
              have pre_30 : Rch p.tables e below (s₁.setTop (entryFrame m #[(.int y), (.int c0), (.int c1), (.int xx), (.int ap)] 5)) (T_27.setTop (mkF m 35 #[.val (.int y), .val (.int c0), .val (.int c1), .val (.int xx), .val (.int ap)] [])) := fun tgt ktg => pre_27 tgt (by
                show Steps p.tables e below (T_27.setTop (mkF m 32 #[.val (.int y), .val (.int c0), .val (.int c1), .val (.int xx), .val (.int ap)] [(.int (onm y))])) _
                refine XS.ifNo X_27.here hx rfl (hb hby d26_32) rfl ((if0 _ _).trans (teq c_29).2) ?_
                exact ktg)
              have pre_31 : Rch p.tables e below (s₁.setTop (entryFrame m #[(.int y), (.int c0), (.int c1), (.int xx), (.int ap)] 5)) (T_27.setTop (mkF m 40 #[.val (.int y), .val (.int c0), .val (.int c1), .val (.int xx), .val (.int ap)] [(.int (1 : Int32))])) := fun tgt ktg => pre_30 tgt (by
                show Steps p.tables e below (T_27.setTop (mkF m 35 #[.val (.int y), .val (.int c0), .val (.int c1), .val (.int xx), .val (.int ap)] [])) _
                refine XS.iconst X_27.here hx rfl (hb hby d26_35) ?_
                show Steps p.tables e below (T_27.setTop (mkF m 36 #[.val (.int y), .val (.int c0), .val (.int c1), .val (.int xx), .val (.int ap)] [(.int (1 : Int32))])) _
                refine XS.goto X_27.here hx rfl (pc0 := 36) (pc' := 40) rfl (hb hby d26_36) (by decide) (by decide) ?_
                exact ktg)
              obtain ⟨fs, hr, hrun, hended, hW, hsame⟩ := X_27.leave (v := some (.int (1 : Int32))) (fun h => by rw [Bd.returns] at h; cases h)
              refine ⟨_, _, pre_31 _ ?_, hrun, hended, _, _, rfl, ?_, ⟨_, rfl⟩, hW, hsame.mono (by decide) (by decide)⟩
              · show Steps p.tables e below (T_27.setTop (mkF m 40 #[.val (.int y), .val (.int c0), .val (.int c1), .val (.int xx), .val (.int ap)] [(.int (1 : Int32))])) _
                exact retN X_27 hx (t := .boolean) Bd.returns (by simp) (hb hby d26_40) hr
              · show Qhc Z y c0 c1 xx ap h0 n0 _ T_27.heap _
                rw [eh_27]
                exact ⟨by simp only [hch]; rw [if_neg c_2, if_neg c_7, if_neg c_12, if_neg c_19, if_pos c_24, if_pos c_29], N_28, rfl⟩
            · skip
              have pre_32 : Rch p.tables e below (s₁.setTop (entryFrame m #[(.int y), (.int c0), (.int c1), (.int xx), (.int ap)] 5)) (T_27.setTop (mkF m 39 #[.val (.int y), .val (.int c0), .val (.int c1), .val (.int xx), .val (.int ap)] [])) := fun tgt ktg => pre_27 tgt (by
                show Steps p.tables e below (T_27.setTop (mkF m 32 #[.val (.int y), .val (.int c0), .val (.int c1), .val (.int xx), .val (.int ap)] [(.int (onm y))])) _
                refine XS.ifYes X_27.here hx rfl (pc0 := 32) (pc' := 39) rfl (hb hby d26_32) rfl ((if0 _ _).trans (feq c_29).2) (by decide) (by decide) ?_
                exact ktg)
              have pre_33 : Rch p.tables e below (s₁.setTop (entryFrame m #[(.int y), (.int c0), (.int c1), (.int xx), (.int ap)] 5)) (T_27.setTop (mkF m 40 #[.val (.int y), .val (.int c0), .val (.int c1), .val (.int xx), .val (.int ap)] [(.int (0 : Int32))])) := fun tgt ktg => pre_32 tgt (by
                show Steps p.tables e below (T_27.setTop (mkF m 39 #[.val (.int y), .val (.int c0), .val (.int c1), .val (.int xx), .val (.int ap)] [])) _
                refine XS.iconst X_27.here hx rfl (hb hby d26_39) ?_
                exact ktg)
              obtain ⟨fs, hr, hrun, hended, hW, hsame⟩ := X_27.leave (v := some (.int (0 : Int32))) (fun h => by rw [Bd.returns] at h; cases h)
              refine ⟨_, _, pre_33 _ ?_, hrun, hended, _, _, rfl, ?_, ⟨_, rfl⟩, hW, hsame.mono (by decide) (by decide)⟩
              · show Steps p.tables e below (T_27.setTop (mkF m 40 #[.val (.int y), .val (.int c0), .val (.int c1), .val (.int xx), .val (.int ap)] [(.int (0 : Int32))])) _
                exact retN X_27 hx (t := .boolean) Bd.returns (by simp) (hb hby d26_40) hr
              · show Qhc Z y c0 c1 xx ap h0 n0 _ T_27.heap _
                rw [eh_27]
                exact ⟨by simp only [hch]; rw [if_neg c_2, if_neg c_7, if_neg c_12, if_neg c_19, if_pos c_24, if_neg c_29], N_28, rfl⟩
          · skip
            have pre_34 : Rch p.tables e below (s₁.setTop (entryFrame m #[(.int y), (.int c0), (.int c1), (.int xx), (.int ap)] 5)) (T_17.setTop (mkF m 35 #[.val (.int y), .val (.int c0), .val (.int c1), .val (.int xx), .val (.int ap)] [])) := fun tgt ktg => pre_23 tgt (by
              show Steps p.tables e below (T_17.setTop (mkF m 25 #[.val (.int y), .val (.int c0), .val (.int c1), .val (.int xx), .val (.int ap)] [(.int y), (.int ap)])) _
              refine XS.icmpYes X_17.here hx rfl (pc0 := 25) (pc' := 35) rfl (hb hby d26_25) rfl (feq c_24).2 (by decide) (by decide) ?_
              exact ktg)
            have pre_35 : Rch p.tables e below (s₁.setTop (entryFrame m #[(.int y), (.int c0), (.int c1), (.int xx), (.int ap)] 5)) (T_17.setTop (mkF m 40 #[.val (.int y), .val (.int c0), .val (.int c1), .val (.int xx), .val (.int ap)] [(.int (1 : Int32))])) := fun tgt ktg => pre_34 tgt (by
              show Steps p.tables e below (T_17.setTop (mkF m 35 #[.val (.int y), .val (.int c0), .val (.int c1), .val (.int xx), .val (.int ap)] [])) _
              refine XS.iconst X_17.here hx rfl (hb hby d26_35) ?_
              show Steps p.tables e below (T_17.setTop (mkF m 36 #[.val (.int y), .val (.int c0), .val (.int c1), .val (.int xx), .val (.int ap)] [(.int (1 : Int32))])) _
              refine XS.goto X_17.here hx rfl (pc0 := 36) (pc' := 40) rfl (hb hby d26_36) (by decide) (by decide) ?_
              exact ktg)
            obtain ⟨fs, hr, hrun, hended, hW, hsame⟩ := X_17.leave (v := some (.int (1 : Int32))) (fun h => by rw [Bd.returns] at h; cases h)
            refine ⟨_, _, pre_35 _ ?_, hrun, hended, _, _, rfl, ?_, ⟨_, rfl⟩, hW, hsame.mono (by decide) (by decide)⟩
            · show Steps p.tables e below (T_17.setTop (mkF m 40 #[.val (.int y), .val (.int c0), .val (.int c1), .val (.int xx), .val (.int ap)] [(.int (1 : Int32))])) _
              exact retN X_17 hx (t := .boolean) Bd.returns (by simp) (hb hby d26_40) hr
            · show Qhc Z y c0 c1 xx ap h0 n0 _ T_17.heap _
              rw [eh_17]
              exact ⟨by simp only [hch]; rw [if_neg c_2, if_neg c_7, if_neg c_12, if_neg c_19, if_neg c_24], N_18, rfl⟩
theorem d1_0 : decode method_2_code 0 = .ok (.ldc 7, 2) := by decide +kernel
theorem d1_2 : decode method_2_code 2 = .ok (.areturn, 1) := by decide +kernel
theorem ef_mk (m : MethodId)  : entryFrame m #[] 0 = mkF m 0 #[] [] := by first | (simp [entryFrame, mkF, argsToLocals, Value.category]; done) | rfl
def Qmk (Z : State)  (h0 : Heap) (n0 : Nat) (v : Option Value) (h : Heap) (L : List Loc) : Prop := ∃ (a b : Addr) (kb : ClassId), v = some (.ref a) ∧ Fr n0 L ∧ Keep h0 h [] ∧ Exa Z h a "java/lang/String" ∧ Fld Z h a "java/lang/String" "coder" "B" (.int (0 : Int32)) ∧ Fld Z h a "java/lang/String" "value" "[B" (.ref b) ∧ Arv Z h b kb .byte (36 : Int32) [(.int (60 : Int32)), (.int (115 : Int32)), (.int (111 : Int32)), (.int (97 : Int32)), (.int (112 : Int32)), (.int (58 : Int32)), (.int (86 : Int32)), (.int (97 : Int32)), (.int (108 : Int32)), (.int (117 : Int32)), (.int (101 : Int32)), (.int (62 : Int32)), (.int (115 : Int32)), (.int (111 : Int32)), (.int (97 : Int32)), (.int (112 : Int32)), (.int (58 : Int32)), (.int (83 : Int32)), (.int (101 : Int32)), (.int (110 : Int32)), (.int (100 : Int32)), (.int (101 : Int32)), (.int (114 : Int32)), (.int (60 : Int32)), (.int (47 : Int32)), (.int (115 : Int32)), (.int (111 : Int32)), (.int (97 : Int32)), (.int (112 : Int32)), (.int (58 : Int32)), (.int (86 : Int32)), (.int (97 : Int32)), (.int (108 : Int32)), (.int (117 : Int32)), (.int (101 : Int32)), (.int (62 : Int32))] (.int (0 : Int32))
set_option maxRecDepth 65536 in
set_option maxHeartbeats 40000000 in
theorem rmmk (l : Launch) (Z : State) (a0 : Array Value) (hw : ∀ d ∈ tables_1, d.before a0 Z = true) (ws : List Jvm.Cond)  (h0 : Heap) (n0 : Nat) (Z0 : n0 ≤ h0.size)  :
    MetFree l (⟨"ResponseIsSenderFaultPinLaw", "marker", "()Ljava/lang/String;"⟩ : MethodName) (head1 (Jvm.Cond.code (⟨"ResponseIsSenderFaultPinLaw", "marker", "()Ljava/lang/String;"⟩ : MethodName) method_2_code 0 (some (.object "java/lang/String")) :: ws) ({ frames := 0, cells := 2, slots := 148, locals := 0 } : Room)) (fun aA U => aA = #[] ∧ Z.Warmed39 U.vm ∧ U.heap = h0 ∧ CHv Z consts_1 U.vm h0) (fun _ _ _ _ _ => True) (fun _ U oO U' => ∃ vV LL, oO = .returned vV ∧ Qmk Z  h0 n0 vV U'.heap LL ∧ CHr Z consts_1 U.vm U.heap U'.vm U'.heap ∧ ReturnedEndW U oO U' LL ({ frames := 0, cells := 2, slots := 148, locals := 0 } : Room).cells ({ frames := 0, cells := 2, slots := 148, locals := 0 } : Room).slots) := by
  refine MetFree.of_bodySF (plainFor_of_name pn_5) hisR ?_
  intro p e s m args below meth c s₁ Bd hml0 hP hK
  obtain ⟨rfl, hZ, hh, hC⟩ := hP
  have hx := Bd.exec
  have hby := Bd.bytes
  have hml : c.maxLocals = 0 := hml0
  have hown : s.vm.findClass "ResponseIsSenderFaultPinLaw" = some m.cls := findClass_of_methodNamed Bd.named
  have hnm := (name_of_methodNamed Bd.named Bd.method).1
  have X0 : Stand p l e ({ frames := 0, cells := 2, slots := 148, locals := 0 } : Room) (s.setVm s.vm) m #[] below meth c s₁ [] 0 0 := Stand.of_body Bd
  have e0 : s₁.heap = h0 := by rw [← hh, Bd.state]; rfl
  have N0 := Fr.nil n0
  have K0 : Keep h0 h0 [] := Keep.refl _ _
  have hS0 : s.Since s.vm 0 := (State.WarmedH.refl s).since _
  have hk0 : 0 ≤ h0.size := Nat.zero_le _
  have C0 : CHr Z consts_1 s.vm h0 s.vm h0 := CHr.refl hC
  have hEL := own_EW hw
  have wS := own_wS hw
  have pre0 : Rch p.tables e below (s₁.setTop (entryFrame m #[] 0)) (s₁.setTop (mkF m 0 #[] [])) := fun tgt ktg => castTop (ef_mk m ) ktg
  obtain ⟨x, T_1, h_1, k1__1, xb, kl_1, X_1, e_1, E_1, hS_1, hk_1, hZ, hown, fE_1, fC_1, fV_1, fA_1, la_1, lb_1, hC_1, hL_1, hne_1, st_1⟩ := ldcCH X0 hx hZ hown (hw _ (List.mem_of_getElem? (i := 4) rfl)) wS e0 hS0 hk0 hEL (List.mem_of_getElem? (i := 0) rfl) C0.1 (vs := [(.int (60 : Int32)), (.int (115 : Int32)), (.int (111 : Int32)), (.int (97 : Int32)), (.int (112 : Int32)), (.int (58 : Int32)), (.int (86 : Int32)), (.int (97 : Int32)), (.int (108 : Int32)), (.int (117 : Int32)), (.int (101 : Int32)), (.int (62 : Int32)), (.int (115 : Int32)), (.int (111 : Int32)), (.int (97 : Int32)), (.int (112 : Int32)), (.int (58 : Int32)), (.int (83 : Int32)), (.int (101 : Int32)), (.int (110 : Int32)), (.int (100 : Int32)), (.int (101 : Int32)), (.int (114 : Int32)), (.int (60 : Int32)), (.int (47 : Int32)), (.int (115 : Int32)), (.int (111 : Int32)), (.int (97 : Int32)), (.int (112 : Int32)), (.int (58 : Int32)), (.int (86 : Int32)), (.int (97 : Int32)), (.int (108 : Int32)), (.int (117 : Int32)), (.int (101 : Int32)), (.int (62 : Int32))]) (z := (36 : Int32)) ⟨by decide, by rfl⟩ (by decide) rfl (g := (mkF m 0 #[] [])) rfl (hb hby d1_0) (n := 144) (by decide) (by decide) (by decide) (by decide)
  have pre_1 : Rch p.tables e below (s₁.setTop (entryFrame m #[] 0)) (T_1.setTop (mkF m 2 #[] [(.ref x)])) := fun tgt ktg => pre0 tgt (st_1 tgt ktg)
  have C_2 : CHr Z consts_1 s.vm h0 T_1.vm h_1 := C0.trans hC_1
  have z_3 : n0 ≤ h_1.size := Nat.le_trans Z0 E_1.1
  have K_4 : Keep h0 h_1 [] := K0.ext E_1
  obtain ⟨fs, hr, hrun, hended, hW⟩ := X_1.leaveW hS_1 (by rw [e_1]; exact hk_1) (v := some (.ref x)) (fun h => by rw [Bd.returns] at h; cases h)
  refine ⟨_, _, pre_1 _ ?_, hrun, hended, _, _, rfl, ?_, ?_, hW.1, hW.2.1, hW.2.2.1, hW.2.2.2.mono (by decide) (by decide)⟩
  · show Steps p.tables e below (T_1.setTop (mkF m 2 #[] [(.ref x)])) _
    jvm_step X_1.here [X_1.here.top, hx, (hb hby d1_2), X_1.method', Bd.returns, Value.isRef, FieldType.isReference]
    first | (intro acts; rw [hr _ acts rfl rfl rfl]) | rw [hr _ _ rfl rfl rfl]
    exact Steps.refl _
  · show Qmk Z  h0 n0 _ T_1.heap _
    rw [e_1]
    exact ⟨x, xb, kl_1, rfl, N0, K_4, fE_1, fC_1, fV_1, fA_1⟩
  · show CHr Z consts_1 s.vm s.heap T_1.vm T_1.heap
    rw [hh, e_1]
    exact C_2.trans (CHv.at X_1 hZ hEL C_2.1)
theorem own_setget {vs : List Value} {i j : Nat} {v d : Value} (hi : i < vs.length) : (vs.set i v).getD j d = if j = i then v else vs.getD j d := by
  by_cases e : j = i
  · subst e; simp [hi]
  · rw [if_neg e]; simp [List.getD_eq_getElem?_getD, List.getElem?_set, Ne.symm e]
theorem own_inv {cl : List Int32} {us : List Value} {i : Nat} (hus : us.length = 38) (hi : i < 38) (HI : ∀ j, j < i → us.getD j (.int (0 : Int32)) = .int ((cl.getD j 0).toInt8.toInt32)) :
    ∀ j, j < i + 1 → (us.set i (.int (nar .byte ((cl.getD i 0).toInt8.toInt32)))).getD j (.int (0 : Int32)) = .int ((cl.getD j 0).toInt8.toInt32) := by
  intro j hj
  rw [own_setget (by omega)]
  by_cases e : j = i
  · subst e; rw [if_pos rfl, own_idem]
  · rw [if_neg e]; exact HI j (by omega)
theorem own_mem {cl : List Int32} {i : Nat} (hcl : cl.length = 38) (hi : i < 38) (hq : ∀ q ∈ cl, ¬ (255 : Int32) < q) : ¬ (255 : Int32) < cl.getD i 0 := by
  refine hq _ ?_
  rw [List.getD_eq_getElem?_getD, List.getElem?_eq_getElem (by omega)]
  exact List.getElem_mem _
theorem own_lst {cl : List Int32} {us : List Value} (hus : us.length = 38) (hcl : cl.length = 38) (HI : ∀ j, j < 38 → us.getD j (.int (0 : Int32)) = .int ((cl.getD j 0).toInt8.toInt32)) : us = (bl cl).map Value.int := by
  refine List.ext_getElem (by simp [bl, hus, hcl]) ?_
  intro j h1 h2
  have q := HI j (by omega)
  rw [List.getD_eq_getElem?_getD, List.getElem?_eq_getElem h1, List.getD_eq_getElem?_getD, List.getElem?_eq_getElem (by omega)] at q
  simpa [bl] using q
theorem d11_3 : decode jdk_52_method_21_code 3 = .ok (.iload 5, 2) := by decide +kernel
theorem d11_5 : decode jdk_52_method_21_code 5 = .ok (.iload 4, 2) := by decide +kernel
theorem d11_7 : decode jdk_52_method_21_code 7 = .ok (.if_icmp .ge 37, 3) := by decide +kernel
theorem d11_10 : decode jdk_52_method_21_code 10 = .ok (.aload_n 0, 1) := by decide +kernel
theorem d11_11 : decode jdk_52_method_21_code 11 = .ok (.iload_n 1, 1) := by decide +kernel
theorem d11_12 : decode jdk_52_method_21_code 12 = .ok (.caload, 1) := by decide +kernel
theorem d11_13 : decode jdk_52_method_21_code 13 = .ok (.istore 6, 2) := by decide +kernel
theorem d11_15 : decode jdk_52_method_21_code 15 = .ok (.iload 6, 2) := by decide +kernel
theorem d11_17 : decode jdk_52_method_21_code 17 = .ok (.sipush 255, 3) := by decide +kernel
theorem d11_20 : decode jdk_52_method_21_code 20 = .ok (.if_icmp .le 6, 3) := by decide +kernel
theorem d11_26 : decode jdk_52_method_21_code 26 = .ok (.aload_n 2, 1) := by decide +kernel
theorem d11_27 : decode jdk_52_method_21_code 27 = .ok (.iload_n 3, 1) := by decide +kernel
theorem d11_28 : decode jdk_52_method_21_code 28 = .ok (.iload 6, 2) := by decide +kernel
theorem d11_30 : decode jdk_52_method_21_code 30 = .ok (.i2b, 1) := by decide +kernel
theorem d11_31 : decode jdk_52_method_21_code 31 = .ok (.bastore, 1) := by decide +kernel
theorem d11_32 : decode jdk_52_method_21_code 32 = .ok (.iinc 1 1, 3) := by decide +kernel
theorem d11_35 : decode jdk_52_method_21_code 35 = .ok (.iinc 3 1, 3) := by decide +kernel
theorem d11_38 : decode jdk_52_method_21_code 38 = .ok (.iinc 5 1, 3) := by decide +kernel
theorem d11_41 : decode jdk_52_method_21_code 41 = .ok (.goto (-38), 3) := by decide +kernel
set_option maxRecDepth 65536 in
set_option maxHeartbeats 40000000 in
theorem pccoT {p : Program} {l : Launch} {e : Env} {s : State} {m : MethodId} {args : Array Value} {below : List Frame} {meth : Method} {c : Code} {T0 : State} {locs : List Loc} {cells slots : Nat} {Z : State} {a0 : Array Value} {h0 : Heap} {n0 : Nat} {ca ba : Addr} {kc kb : ClassId} {cl : List Int32} {i : Nat} {s6 : Slot}
    (X0 : Stand p l e ({ frames := 0, cells := 0, slots := 0, locals := 0 } : Room) s m args below meth c T0 locs cells slots) (hx : p.tables.exec = Jvm.exec) (hZ : Z.Warmed39 s.vm) (hw : ∀ d ∈ tables_1, d.before a0 Z = true) (hby : c.code = jdk_52_method_21_code) (hml : c.maxLocals = 7) (hown : s.vm.findClass "java/lang/StringUTF16" = some m.cls) (hce : cells ≤ ({ frames := 0, cells := 0, slots := 0, locals := 0 } : Room).cells) (hsl : slots ≤ ({ frames := 0, cells := 0, slots := 0, locals := 0 } : Room).slots) (e0 : T0.heap = h0) (N0 : Fr n0 locs) (Z0 : n0 ≤ h0.size) (A1 : Arv Z h0 ca kc .char (38 : Int32) (cl.map Value.int) (.int (0 : Int32))) (hcl : cl.length = 38) (hq : ∀ q ∈ cl, ¬ (255 : Int32) < q) (ncb : ca ≠ ba) (gb : n0 ≤ ba) (hi : i < 38) (g6 : Pl s6) (I0 : ∃ vs : List Value, Arv Z h0 ba kb .byte (38 : Int32) vs (.int (0 : Int32)) ∧ vs.length = 38 ∧ ∀ j, j < i → vs.getD j (.int (0 : Int32)) = .int ((cl.getD j 0).toInt8.toInt32)) :
    ∃ (T' : State) (h' : Heap) (L' : List Loc), Stand p l e ({ frames := 0, cells := 0, slots := 0, locals := 0 } : Room) s m args below meth c T' L' cells slots ∧ T'.heap = h' ∧ Fr n0 L' ∧ Keep h0 h' [ba] ∧ n0 ≤ h'.size ∧ (∃ vs : List Value, Arv Z h' ba kb .byte (38 : Int32) vs (.int (0 : Int32)) ∧ vs.length = 38 ∧ ∀ j, j < (i + 1) → vs.getD j (.int (0 : Int32)) = .int ((cl.getD j 0).toInt8.toInt32)) ∧ (Arv Z h' ca kc .char (38 : Int32) (cl.map Value.int) (.int (0 : Int32))) ∧ Rch p.tables e below (T0.setTop (mkF m 3 #[.val (.ref ca), .val (.int (Int32.ofNat i)), .val (.ref ba), .val (.int (Int32.ofNat i)), .val (.int (38 : Int32)), .val (.int (Int32.ofNat i)), s6] [])) (T'.setTop (mkF m 3 #[.val (.ref ca), .val (.int (Int32.ofNat (i + 1))), .val (.ref ba), .val (.int (Int32.ofNat (i + 1))), .val (.int (38 : Int32)), .val (.int (Int32.ofNat (i + 1))), .val (.int (cl.getD i 0))] [])) := by
  have K0 : Keep h0 h0 [ba] := Keep.refl _ _
  have pre0 : Rch p.tables e below (T0.setTop (mkF m 3 #[.val (.ref ca), .val (.int (Int32.ofNat i)), .val (.ref ba), .val (.int (Int32.ofNat i)), .val (.int (38 : Int32)), .val (.int (Int32.ofNat i)), s6] [])) (T0.setTop (mkF m 3 #[.val (.ref ca), .val (.int (Int32.ofNat i)), .val (.ref ba), .val (.int (Int32.ofNat i)), .val (.int (38 : Int32)), .val (.int (Int32.ofNat i)), s6] [])) := fun tgt ktg => ktg
  obtain ⟨us, AR, hus, HI⟩ := I0
  have pre_1 : Rch p.tables e below (T0.setTop (mkF m 3 #[.val (.ref ca), .val (.int (Int32.ofNat i)), .val (.ref ba), .val (.int (Int32.ofNat i)), .val (.int (38 : Int32)), .val (.int (Int32.ofNat i)), s6] [])) (T0.setTop (mkF m 12 #[.val (.ref ca), .val (.int (Int32.ofNat i)), .val (.ref ba), .val (.int (Int32.ofNat i)), .val (.int (38 : Int32)), .val (.int (Int32.ofNat i)), s6] [(.int (Int32.ofNat i)), (.ref ca)])) := fun tgt ktg => pre0 tgt (by
    show Steps p.tables e below (T0.setTop (mkF m 3 #[.val (.ref ca), .val (.int (Int32.ofNat i)), .val (.ref ba), .val (.int (Int32.ofNat i)), .val (.int (38 : Int32)), .val (.int (Int32.ofNat i)), s6] [])) _
    refine XS.iload X0.here hx rfl (hb hby d11_3) rfl ?_
    show Steps p.tables e below (T0.setTop (mkF m 5 #[.val (.ref ca), .val (.int (Int32.ofNat i)), .val (.ref ba), .val (.int (Int32.ofNat i)), .val (.int (38 : Int32)), .val (.int (Int32.ofNat i)), s6] [(.int (Int32.ofNat i))])) _
    refine XS.iload X0.here hx rfl (hb hby d11_5) rfl ?_
    show Steps p.tables e below (T0.setTop (mkF m 7 #[.val (.ref ca), .val (.int (Int32.ofNat i)), .val (.ref ba), .val (.int (Int32.ofNat i)), .val (.int (38 : Int32)), .val (.int (Int32.ofNat i)), s6] [(.int (38 : Int32)), (.int (Int32.ofNat i))])) _
    refine XS.icmpNo X0.here hx rfl (hb hby d11_7) rfl (tlt ((own_ltn (b := 38) (by omega) (by decide)).mpr hi)).2.1 ?_
    show Steps p.tables e below (T0.setTop (mkF m 10 #[.val (.ref ca), .val (.int (Int32.ofNat i)), .val (.ref ba), .val (.int (Int32.ofNat i)), .val (.int (38 : Int32)), .val (.int (Int32.ofNat i)), s6] [])) _
    refine XS.aloadN X0.here hx rfl (hb hby d11_10) rfl rfl ?_
    show Steps p.tables e below (T0.setTop (mkF m 11 #[.val (.ref ca), .val (.int (Int32.ofNat i)), .val (.ref ba), .val (.int (Int32.ofNat i)), .val (.int (38 : Int32)), .val (.int (Int32.ofNat i)), s6] [(.ref ca)])) _
    refine XS.iloadN X0.here hx rfl (hb hby d11_11) rfl ?_
    exact ktg)
  obtain ⟨cl__2, Ar__2, q__2, S__2, N__2, H__2, G__2⟩ := id A1
  have hin__2 : ¬ ((Int32.ofNat i) < 0 ∨ cl__2.slots.size ≤ ((Int32.ofNat i)).toNatClampNeg) := inb_of S__2 (own_inb (z := 38) (by decide) hi)
  have hat__2 : cl__2.slots[((Int32.ofNat i)).toNatClampNeg]? = some (.int (cl.getD i 0)) := H__2.at hin__2 (own_at (by omega))
  have pre_3 : Rch p.tables e below (T0.setTop (mkF m 3 #[.val (.ref ca), .val (.int (Int32.ofNat i)), .val (.ref ba), .val (.int (Int32.ofNat i)), .val (.int (38 : Int32)), .val (.int (Int32.ofNat i)), s6] [])) (T0.setTop (mkF m 13 #[.val (.ref ca), .val (.int (Int32.ofNat i)), .val (.ref ba), .val (.int (Int32.ofNat i)), .val (.int (38 : Int32)), .val (.int (Int32.ofNat i)), s6] [(.int (cl.getD i 0))])) := fun tgt ktg => pre_1 tgt (X0.caload hx (j := (Int32.ofNat i)) (v := (.int (cl.getD i 0))) (by rw [e0]; exact Ar__2.1) (State.isArrayOf_alike hZ.alike Ar__2.2.1) Ar__2.2.2 hin__2 hat__2 (g := (mkF m 12 #[.val (.ref ca), .val (.int (Int32.ofNat i)), .val (.ref ba), .val (.int (Int32.ofNat i)), .val (.int (38 : Int32)), .val (.int (Int32.ofNat i)), s6] [(.int (Int32.ofNat i)), (.ref ca)])) rfl rfl (hb hby d11_12) _ ktg)
  have pre_4 : Rch p.tables e below (T0.setTop (mkF m 3 #[.val (.ref ca), .val (.int (Int32.ofNat i)), .val (.ref ba), .val (.int (Int32.ofNat i)), .val (.int (38 : Int32)), .val (.int (Int32.ofNat i)), s6] [])) (T0.setTop (mkF m 31 #[.val (.ref ca), .val (.int (Int32.ofNat i)), .val (.ref ba), .val (.int (Int32.ofNat i)), .val (.int (38 : Int32)), .val (.int (Int32.ofNat i)), .val (.int (cl.getD i 0))] [(.int ((cl.getD i 0).toInt8.toInt32)), (.int (Int32.ofNat i)), (.ref ba)])) := fun tgt ktg => pre_3 tgt (by
    show Steps p.tables e below (T0.setTop (mkF m 13 #[.val (.ref ca), .val (.int (Int32.ofNat i)), .val (.ref ba), .val (.int (Int32.ofNat i)), .val (.int (38 : Int32)), .val (.int (Int32.ofNat i)), s6] [(.int (cl.getD i 0))])) _
    refine XS.istore X0.here hx rfl (hb hby d11_13) rfl (l' := #[.val (.ref ca), .val (.int (Int32.ofNat i)), .val (.ref ba), .val (.int (Int32.ofNat i)), .val (.int (38 : Int32)), .val (.int (Int32.ofNat i)), .val (.int (cl.getD i 0))]) (by rcases g6 with rfl | ⟨_, rfl⟩ <;> rfl) ?_
    show Steps p.tables e below (T0.setTop (mkF m 15 #[.val (.ref ca), .val (.int (Int32.ofNat i)), .val (.ref ba), .val (.int (Int32.ofNat i)), .val (.int (38 : Int32)), .val (.int (Int32.ofNat i)), .val (.int (cl.getD i 0))] [])) _
    refine XS.iload X0.here hx rfl (hb hby d11_15) rfl ?_
    show Steps p.tables e below (T0.setTop (mkF m 17 #[.val (.ref ca), .val (.int (Int32.ofNat i)), .val (.ref ba), .val (.int (Int32.ofNat i)), .val (.int (38 : Int32)), .val (.int (Int32.ofNat i)), .val (.int (cl.getD i 0))] [(.int (cl.getD i 0))])) _
    refine XS.sipush X0.here hx rfl (hb hby d11_17) ?_
    show Steps p.tables e below (T0.setTop (mkF m 20 #[.val (.ref ca), .val (.int (Int32.ofNat i)), .val (.ref ba), .val (.int (Int32.ofNat i)), .val (.int (38 : Int32)), .val (.int (Int32.ofNat i)), .val (.int (cl.getD i 0))] [(.int (255 : Int32)), (.int (cl.getD i 0))])) _
    refine XS.icmpYes X0.here hx rfl (pc0 := 20) (pc' := 26) rfl (hb hby d11_20) rfl (flt (own_mem hcl hi hq)).2.2.2 (by decide) (by decide) ?_
    show Steps p.tables e below (T0.setTop (mkF m 26 #[.val (.ref ca), .val (.int (Int32.ofNat i)), .val (.ref ba), .val (.int (Int32.ofNat i)), .val (.int (38 : Int32)), .val (.int (Int32.ofNat i)), .val (.int (cl.getD i 0))] [])) _
    refine XS.aloadN X0.here hx rfl (hb hby d11_26) rfl rfl ?_
    show Steps p.tables e below (T0.setTop (mkF m 27 #[.val (.ref ca), .val (.int (Int32.ofNat i)), .val (.ref ba), .val (.int (Int32.ofNat i)), .val (.int (38 : Int32)), .val (.int (Int32.ofNat i)), .val (.int (cl.getD i 0))] [(.ref ba)])) _
    refine XS.iloadN X0.here hx rfl (hb hby d11_27) rfl ?_
    show Steps p.tables e below (T0.setTop (mkF m 28 #[.val (.ref ca), .val (.int (Int32.ofNat i)), .val (.ref ba), .val (.int (Int32.ofNat i)), .val (.int (38 : Int32)), .val (.int (Int32.ofNat i)), .val (.int (cl.getD i 0))] [(.int (Int32.ofNat i)), (.ref ba)])) _
    refine XS.iload X0.here hx rfl (hb hby d11_28) rfl ?_
    show Steps p.tables e below (T0.setTop (mkF m 30 #[.val (.ref ca), .val (.int (Int32.ofNat i)), .val (.ref ba), .val (.int (Int32.ofNat i)), .val (.int (38 : Int32)), .val (.int (Int32.ofNat i)), .val (.int (cl.getD i 0))] [(.int (cl.getD i 0)), (.int (Int32.ofNat i)), (.ref ba)])) _
    refine XT.i2b X0.here hx rfl (hb hby d11_30) rfl ?_
    exact ktg)
  obtain ⟨cl__5, Ar__5, q__5, S__5, N__5, H__5, G__5⟩ := id AR
  have hin__5 : ¬ ((Int32.ofNat i) < 0 ∨ cl__5.slots.size ≤ ((Int32.ofNat i)).toNatClampNeg) := inb_of S__5 (own_inb (z := 38) (by decide) hi)
  obtain ⟨T_6, h_6, X_6, e_6, W_6, st_6⟩ := stB X0 hx hZ e0 Ar__5 (j := (Int32.ofNat i)) hin__5 (g := (mkF m 31 #[.val (.ref ca), .val (.int (Int32.ofNat i)), .val (.ref ba), .val (.int (Int32.ofNat i)), .val (.int (38 : Int32)), .val (.int (Int32.ofNat i)), .val (.int (cl.getD i 0))] [(.int ((cl.getD i 0).toInt8.toInt32)), (.int (Int32.ofNat i)), (.ref ba)])) rfl rfl (hb hby d11_31)
  have pre_6 : Rch p.tables e below (T0.setTop (mkF m 3 #[.val (.ref ca), .val (.int (Int32.ofNat i)), .val (.ref ba), .val (.int (Int32.ofNat i)), .val (.int (38 : Int32)), .val (.int (Int32.ofNat i)), s6] [])) (T_6.setTop (mkF m 32 #[.val (.ref ca), .val (.int (Int32.ofNat i)), .val (.ref ba), .val (.int (Int32.ofNat i)), .val (.int (38 : Int32)), .val (.int (Int32.ofNat i)), .val (.int (cl.getD i 0))] [])) := fun tgt ktg => pre_4 tgt (st_6 tgt ktg)
  have f_7 : Arv Z h_6 ca kc .char (38 : Int32) (cl.map Value.int) (.int (0 : Int32)) := A1.other W_6 ncb
  have z_8 : n0 ≤ h_6.size := Nat.le_trans Z0 (Keep.of_wr W_6).1
  have K_9 : Keep h0 h_6 [ba] := K0.wr W_6 (Or.inl (List.mem_of_getElem? (i := 0) rfl))
  have f_10 : Arv Z h_6 ba kb .byte (38 : Int32) (us.set i (.int (nar .byte ((cl.getD i 0).toInt8.toInt32)))) (.int (0 : Int32)) := Arv.set Ar__5 q__5 S__5 N__5 H__5 G__5 (fits_nar_byte _) W_6 i (own_nn (by omega)) (by omega)
  have N_11 := Fr.snoc X_6 N0 gb
  have pre_12 : Rch p.tables e below (T0.setTop (mkF m 3 #[.val (.ref ca), .val (.int (Int32.ofNat i)), .val (.ref ba), .val (.int (Int32.ofNat i)), .val (.int (38 : Int32)), .val (.int (Int32.ofNat i)), s6] [])) (T_6.setTop (mkF m 3 #[.val (.ref ca), .val (.int ((Int32.ofNat i) + (1 : Int32))), .val (.ref ba), .val (.int ((Int32.ofNat i) + (1 : Int32))), .val (.int (38 : Int32)), .val (.int ((Int32.ofNat i) + (1 : Int32))), .val (.int (cl.getD i 0))] [])) := fun tgt ktg => pre_6 tgt (by
    show Steps p.tables e below (T_6.setTop (mkF m 32 #[.val (.ref ca), .val (.int (Int32.ofNat i)), .val (.ref ba), .val (.int (Int32.ofNat i)), .val (.int (38 : Int32)), .val (.int (Int32.ofNat i)), .val (.int (cl.getD i 0))] [])) _
    refine XS.iinc X_6.here hx rfl (hb hby d11_32) rfl (l' := #[.val (.ref ca), .val (.int ((Int32.ofNat i) + (1 : Int32))), .val (.ref ba), .val (.int (Int32.ofNat i)), .val (.int (38 : Int32)), .val (.int (Int32.ofNat i)), .val (.int (cl.getD i 0))]) rfl ?_
    show Steps p.tables e below (T_6.setTop (mkF m 35 #[.val (.ref ca), .val (.int ((Int32.ofNat i) + (1 : Int32))), .val (.ref ba), .val (.int (Int32.ofNat i)), .val (.int (38 : Int32)), .val (.int (Int32.ofNat i)), .val (.int (cl.getD i 0))] [])) _
    refine XS.iinc X_6.here hx rfl (hb hby d11_35) rfl (l' := #[.val (.ref ca), .val (.int ((Int32.ofNat i) + (1 : Int32))), .val (.ref ba), .val (.int ((Int32.ofNat i) + (1 : Int32))), .val (.int (38 : Int32)), .val (.int (Int32.ofNat i)), .val (.int (cl.getD i 0))]) rfl ?_
    show Steps p.tables e below (T_6.setTop (mkF m 38 #[.val (.ref ca), .val (.int ((Int32.ofNat i) + (1 : Int32))), .val (.ref ba), .val (.int ((Int32.ofNat i) + (1 : Int32))), .val (.int (38 : Int32)), .val (.int (Int32.ofNat i)), .val (.int (cl.getD i 0))] [])) _
    refine XS.iinc X_6.here hx rfl (hb hby d11_38) rfl (l' := #[.val (.ref ca), .val (.int ((Int32.ofNat i) + (1 : Int32))), .val (.ref ba), .val (.int ((Int32.ofNat i) + (1 : Int32))), .val (.int (38 : Int32)), .val (.int ((Int32.ofNat i) + (1 : Int32))), .val (.int (cl.getD i 0))]) rfl ?_
    show Steps p.tables e below (T_6.setTop (mkF m 41 #[.val (.ref ca), .val (.int ((Int32.ofNat i) + (1 : Int32))), .val (.ref ba), .val (.int ((Int32.ofNat i) + (1 : Int32))), .val (.int (38 : Int32)), .val (.int ((Int32.ofNat i) + (1 : Int32))), .val (.int (cl.getD i 0))] [])) _
    refine XS.goto X_6.here hx rfl (pc0 := 41) (pc' := 3) rfl (hb hby d11_41) (by decide) (by decide) ?_
    exact ktg)
  have rc_13 : ((Int32.ofNat i) + (1 : Int32)) = (Int32.ofNat (i + 1)) := own_suc _
  have pre_13 : Rch p.tables e below (T0.setTop (mkF m 3 #[.val (.ref ca), .val (.int (Int32.ofNat i)), .val (.ref ba), .val (.int (Int32.ofNat i)), .val (.int (38 : Int32)), .val (.int (Int32.ofNat i)), s6] [])) (T_6.setTop (mkF m 3 #[.val (.ref ca), .val (.int (Int32.ofNat (i + 1))), .val (.ref ba), .val (.int (Int32.ofNat (i + 1))), .val (.int (38 : Int32)), .val (.int (Int32.ofNat (i + 1))), .val (.int (cl.getD i 0))] [])) := fun tgt ktg => pre_12 tgt (by rw [rc_13]; exact ktg)
  exact ⟨T_6, h_6, _, X_6, e_6, N_11, K_9, z_8, ⟨_, f_10, (by simpa using hus), own_inv hus hi HI⟩, f_7, pre_13⟩
set_option maxRecDepth 65536 in
set_option maxHeartbeats 40000000 in
theorem coL {p : Program} {l : Launch} {e : Env} {s : State} {m : MethodId} {args : Array Value} {below : List Frame} {meth : Method} {c : Code} {cells slots : Nat} {Z : State} {a0 : Array Value} {n0 : Nat} {ca ba : Addr} {kc kb : ClassId} {cl : List Int32}
    (hx : p.tables.exec = Jvm.exec) (hZ : Z.Warmed39 s.vm) (hw : ∀ d ∈ tables_1, d.before a0 Z = true) (hby : c.code = jdk_52_method_21_code) (hml : c.maxLocals = 7) (hown : s.vm.findClass "java/lang/StringUTF16" = some m.cls) (hce : cells ≤ ({ frames := 0, cells := 0, slots := 0, locals := 0 } : Room).cells) (hsl : slots ≤ ({ frames := 0, cells := 0, slots := 0, locals := 0 } : Room).slots) (hcl : cl.length = 38) (hq : ∀ q ∈ cl, ¬ (255 : Int32) < q) (ncb : ca ≠ ba) (gb : n0 ≤ ba) (n : Nat) :
    ∀ {T0 : State} {locs : List Loc} {h0 : Heap} {i : Nat} {s6 : Slot}, Stand p l e ({ frames := 0, cells := 0, slots := 0, locals := 0 } : Room) s m args below meth c T0 locs cells slots → T0.heap = h0 → Fr n0 locs → n0 ≤ h0.size → Arv Z h0 ca kc .char (38 : Int32) (cl.map Value.int) (.int (0 : Int32)) → Pl s6 → i + n = 38 → (∃ vs : List Value, Arv Z h0 ba kb .byte (38 : Int32) vs (.int (0 : Int32)) ∧ vs.length = 38 ∧ ∀ j, j < i → vs.getD j (.int (0 : Int32)) = .int ((cl.getD j 0).toInt8.toInt32)) →
    ∃ (T' : State) (h' : Heap) (L' : List Loc) (s6' : Slot), Stand p l e ({ frames := 0, cells := 0, slots := 0, locals := 0 } : Room) s m args below meth c T' L' cells slots ∧ T'.heap = h' ∧ Fr n0 L' ∧ Keep h0 h' [ba] ∧ n0 ≤ h'.size ∧ (∃ vs : List Value, Arv Z h' ba kb .byte (38 : Int32) vs (.int (0 : Int32)) ∧ vs.length = 38 ∧ ∀ j, j < 38 → vs.getD j (.int (0 : Int32)) = .int ((cl.getD j 0).toInt8.toInt32)) ∧ Rch p.tables e below (T0.setTop (mkF m 3 #[.val (.ref ca), .val (.int (Int32.ofNat i)), .val (.ref ba), .val (.int (Int32.ofNat i)), .val (.int (38 : Int32)), .val (.int (Int32.ofNat i)), s6] [])) (T'.setTop (mkF m 3 #[.val (.ref ca), .val (.int (Int32.ofNat 38)), .val (.ref ba), .val (.int (Int32.ofNat 38)), .val (.int (38 : Int32)), .val (.int (Int32.ofNat 38)), s6'] [])) := by
  induction n with
  | zero =>
    intro T0 locs h0 i s6 X0 e0 N0 Z0 A1 g6 hn I0
    obtain rfl : i = 38 := by omega
    exact ⟨T0, h0, locs, s6, X0, e0, N0, Keep.refl _ _, Z0, I0, fun tgt ktg => ktg⟩
  | succ n ih =>
    intro T0 locs h0 i s6 X0 e0 N0 Z0 A1 g6 hn I0
    obtain ⟨T1, h1, L1, X1, g1, N1, K1, z1, I1, A2, R1⟩ := pccoT X0 hx hZ hw hby hml hown hce hsl e0 N0 Z0 A1 hcl hq ncb gb (by omega) g6 I0
    obtain ⟨T2, h2, L2, s6', X2, g2, N2, K2, z2, I2, R2⟩ := ih X1 g1 N1 z1 A2 (Or.inr ⟨_, rfl⟩) (by omega) I1
    exact ⟨T2, h2, L2, s6', X2, g2, N2, K1.trans K2 (fun x hx => Or.inl hx), z2, I2, fun tgt ktg => R1 tgt (R2 tgt ktg)⟩
theorem d11_0 : decode jdk_52_method_21_code 0 = .ok (.iconst 0, 1) := by decide +kernel
theorem d11_1 : decode jdk_52_method_21_code 1 = .ok (.istore 5, 2) := by decide +kernel
theorem d11_44 : decode jdk_52_method_21_code 44 = .ok (.iload 4, 2) := by decide +kernel
theorem d11_46 : decode jdk_52_method_21_code 46 = .ok (.ireturn, 1) := by decide +kernel
theorem pn_6 : plainName "java/lang/StringUTF16" = true := by first | (simp [plainName, overriddenIn]; done) | decide +kernel
theorem ef_coA (m : MethodId) (x0 : Addr) (x1 : Int32) (x2 : Addr) (x3 : Int32) (x4 : Int32) : entryFrame m #[(.ref x0), (.int x1), (.ref x2), (.int x3), (.int x4)] 7 = mkF m 0 #[.val (.ref x0), .val (.int x1), .val (.ref x2), .val (.int x3), .val (.int x4), .unset, .unset] [] := by first | (simp [entryFrame, mkF, argsToLocals, Value.category]; done) | rfl
def QcoA (Z : State) (ca : Addr) (ba : Addr) (kc kb : ClassId) (cl : List Int32) (us : List Value) (h0 : Heap) (n0 : Nat) (v : Option Value) (h : Heap) (L : List Loc) : Prop := v = some (.int (38 : Int32)) ∧ Fr n0 L ∧ Keep h0 h [ba] ∧ Arv Z h ba kb .byte (38 : Int32) ((bl cl).map Value.int) (.int (0 : Int32))
set_option maxRecDepth 65536 in
set_option maxHeartbeats 40000000 in
theorem rmcoA (l : Launch) (Z : State) (a0 : Array Value) (hw : ∀ d ∈ tables_1, d.before a0 Z = true) (ws : List Jvm.Cond) (ca : Addr) (ba : Addr) (kc kb : ClassId) (cl : List Int32) (us : List Value) (h0 : Heap) (n0 : Nat) (Z0 : n0 ≤ h0.size) (A1 : Arv Z h0 ca kc .char (38 : Int32) (cl.map Value.int) (.int (0 : Int32))) (hcl : cl.length = 38) (hq : ∀ q ∈ cl, ¬ (255 : Int32) < q) (A2 : Arv Z h0 ba kb .byte (38 : Int32) us (.int (0 : Int32))) (hus : us.length = 38) (gb : n0 ≤ ba) (ncb : ca ≠ ba) :
    MetFree l (⟨"java/lang/StringUTF16", "compress", "([CI[BII)I"⟩ : MethodName) (head1 (Jvm.Cond.code (⟨"java/lang/StringUTF16", "compress", "([CI[BII)I"⟩ : MethodName) jdk_52_method_21_code 7 (some .int) :: ws) ({ frames := 0, cells := 0, slots := 0, locals := 0 } : Room)) (fun aA U => aA = #[(.ref ca), (.int (0 : Int32)), (.ref ba), (.int (0 : Int32)), (.int (38 : Int32))] ∧ Z.Warmed39 U.vm ∧ U.heap = h0) (fun _ _ _ _ _ => True) (fun _ U oO U' => ∃ vV LL, oO = .returned vV ∧ QcoA Z ca ba kc kb cl us h0 n0 vV U'.heap LL ∧ FrameEnd U oO U' LL ({ frames := 0, cells := 0, slots := 0, locals := 0 } : Room).cells ({ frames := 0, cells := 0, slots := 0, locals := 0 } : Room).slots) := by
  refine MetFree.of_bodySF (plainFor_of_name pn_6) hisR ?_
  intro p e s m args below meth c s₁ Bd hml0 hP hK
  obtain ⟨rfl, hZ, hh⟩ := hP
  have hx := Bd.exec
  have hby := Bd.bytes
  have hml : c.maxLocals = 7 := hml0
  have hown : s.vm.findClass "java/lang/StringUTF16" = some m.cls := findClass_of_methodNamed Bd.named
  have hnm := (name_of_methodNamed Bd.named Bd.method).1
  have X0 : Stand p l e ({ frames := 0, cells := 0, slots := 0, locals := 0 } : Room) s m #[(.ref ca), (.int (0 : Int32)), (.ref ba), (.int (0 : Int32)), (.int (38 : Int32))] below meth c s₁ [] 0 0 := Stand.of_body Bd
  have e0 : s₁.heap = h0 := by rw [← hh, Bd.state]; rfl
  have N0 := Fr.nil n0
  have K0 : Keep h0 h0 [ba] := Keep.refl _ _
  have pre0 : Rch p.tables e below (s₁.setTop (entryFrame m #[(.ref ca), (.int (0 : Int32)), (.ref ba), (.int (0 : Int32)), (.int (38 : Int32))] 7)) (s₁.setTop (mkF m 0 #[.val (.ref ca), .val (.int (0 : Int32)), .val (.ref ba), .val (.int (0 : Int32)), .val (.int (38 : Int32)), .unset, .unset] [])) := fun tgt ktg => castTop (ef_coA m ca (0 : Int32) ba (0 : Int32) (38 : Int32)) ktg
  have pre_1 : Rch p.tables e below (s₁.setTop (entryFrame m #[(.ref ca), (.int (0 : Int32)), (.ref ba), (.int (0 : Int32)), (.int (38 : Int32))] 7)) (s₁.setTop (mkF m 3 #[.val (.ref ca), .val (.int (0 : Int32)), .val (.ref ba), .val (.int (0 : Int32)), .val (.int (38 : Int32)), .val (.int (0 : Int32)), .unset] [])) := fun tgt ktg => pre0 tgt (by
    show Steps p.tables e below (s₁.setTop (mkF m 0 #[.val (.ref ca), .val (.int (0 : Int32)), .val (.ref ba), .val (.int (0 : Int32)), .val (.int (38 : Int32)), .unset, .unset] [])) _
    refine XS.iconst X0.here hx rfl (hb hby d11_0) ?_
    show Steps p.tables e below (s₁.setTop (mkF m 1 #[.val (.ref ca), .val (.int (0 : Int32)), .val (.ref ba), .val (.int (0 : Int32)), .val (.int (38 : Int32)), .unset, .unset] [(.int (0 : Int32))])) _
    refine XS.istore X0.here hx rfl (hb hby d11_1) rfl (l' := #[.val (.ref ca), .val (.int (0 : Int32)), .val (.ref ba), .val (.int (0 : Int32)), .val (.int (38 : Int32)), .val (.int (0 : Int32)), .unset]) rfl ?_
    exact ktg)
  have I0 : ∃ vs : List Value, Arv Z h0 ba kb .byte (38 : Int32) vs (.int (0 : Int32)) ∧ vs.length = 38 ∧ ∀ j, j < 0 → vs.getD j (.int (0 : Int32)) = .int ((cl.getD j 0).toInt8.toInt32) := ⟨us, A2, hus, fun j hj => absurd hj (Nat.not_lt_zero _)⟩
  obtain ⟨T_L, h_L, L_L, s6', X_L, e_L, N_L, Kq_L, z_L, I_L, R_L⟩ := coL hx hZ hw hby hml hown (by decide) (by decide) hcl hq ncb gb 38 X0 e0 N0 Z0 A1 (Or.inl rfl) rfl I0
  have pre_L : Rch p.tables e below (s₁.setTop (entryFrame m #[(.ref ca), (.int (0 : Int32)), (.ref ba), (.int (0 : Int32)), (.int (38 : Int32))] 7)) (T_L.setTop (mkF m 3 #[.val (.ref ca), .val (.int (38 : Int32)), .val (.ref ba), .val (.int (38 : Int32)), .val (.int (38 : Int32)), .val (.int (38 : Int32)), s6'] [])) := fun tgt ktg => pre_1 tgt (R_L tgt ktg)
  obtain ⟨vs, AR, hvs, HI⟩ := I_L
  rw [own_lst hvs hcl HI] at AR
  have pre_2 : Rch p.tables e below (s₁.setTop (entryFrame m #[(.ref ca), (.int (0 : Int32)), (.ref ba), (.int (0 : Int32)), (.int (38 : Int32))] 7)) (T_L.setTop (mkF m 46 #[.val (.ref ca), .val (.int (38 : Int32)), .val (.ref ba), .val (.int (38 : Int32)), .val (.int (38 : Int32)), .val (.int (38 : Int32)), s6'] [(.int (38 : Int32))])) := fun tgt ktg => pre_L tgt (by
    show Steps p.tables e below (T_L.setTop (mkF m 3 #[.val (.ref ca), .val (.int (38 : Int32)), .val (.ref ba), .val (.int (38 : Int32)), .val (.int (38 : Int32)), .val (.int (38 : Int32)), s6'] [])) _
    refine XS.iload X_L.here hx rfl (hb hby d11_3) rfl ?_
    show Steps p.tables e below (T_L.setTop (mkF m 5 #[.val (.ref ca), .val (.int (38 : Int32)), .val (.ref ba), .val (.int (38 : Int32)), .val (.int (38 : Int32)), .val (.int (38 : Int32)), s6'] [(.int (38 : Int32))])) _
    refine XS.iload X_L.here hx rfl (hb hby d11_5) rfl ?_
    show Steps p.tables e below (T_L.setTop (mkF m 7 #[.val (.ref ca), .val (.int (38 : Int32)), .val (.ref ba), .val (.int (38 : Int32)), .val (.int (38 : Int32)), .val (.int (38 : Int32)), s6'] [(.int (38 : Int32)), (.int (38 : Int32))])) _
    refine XS.icmpYes X_L.here hx rfl (pc0 := 7) (pc' := 44) rfl (hb hby d11_7) rfl (flt (by decide : ¬ ((38 : Int32) < (38 : Int32)))).2.1 (by decide) (by decide) ?_
    show Steps p.tables e below (T_L.setTop (mkF m 44 #[.val (.ref ca), .val (.int (38 : Int32)), .val (.ref ba), .val (.int (38 : Int32)), .val (.int (38 : Int32)), .val (.int (38 : Int32)), s6'] [])) _
    refine XS.iload X_L.here hx rfl (hb hby d11_44) rfl ?_
    exact ktg)
  obtain ⟨fs, hr, hrun, hended, hW, hsame⟩ := X_L.leave (v := some (.int (38 : Int32))) (fun h => by rw [Bd.returns] at h; cases h)
  refine ⟨_, _, pre_2 _ ?_, hrun, hended, _, _, rfl, ?_, ⟨_, rfl⟩, hW, hsame.mono (by decide) (by decide)⟩
  · show Steps p.tables e below (T_L.setTop (mkF m 46 #[.val (.ref ca), .val (.int (38 : Int32)), .val (.ref ba), .val (.int (38 : Int32)), .val (.int (38 : Int32)), .val (.int (38 : Int32)), s6'] [(.int (38 : Int32))])) _
    exact retI X_L hx Bd.returns (hb hby d11_46) hr
  · show QcoA Z ca ba kc kb cl us h0 n0 _ T_L.heap _
    rw [e_L]
    exact ⟨rfl, N_L, Kq_L, AR⟩
theorem d10_0 : decode jdk_52_method_16_code 0 = .ok (.iload_n 2, 1) := by decide +kernel
theorem d10_1 : decode jdk_52_method_16_code 1 = .ok (.newarray .byte, 2) := by decide +kernel
theorem d10_3 : decode jdk_52_method_16_code 3 = .ok (.astore_n 3, 1) := by decide +kernel
theorem d10_4 : decode jdk_52_method_16_code 4 = .ok (.aload_n 0, 1) := by decide +kernel
theorem d10_5 : decode jdk_52_method_16_code 5 = .ok (.iload_n 1, 1) := by decide +kernel
theorem d10_6 : decode jdk_52_method_16_code 6 = .ok (.aload_n 3, 1) := by decide +kernel
theorem d10_7 : decode jdk_52_method_16_code 7 = .ok (.iconst 0, 1) := by decide +kernel
theorem d10_8 : decode jdk_52_method_16_code 8 = .ok (.iload_n 2, 1) := by decide +kernel
theorem d10_9 : decode jdk_52_method_16_code 9 = .ok (.invokestatic 115, 3) := by decide +kernel
theorem pd_14 : parseMethodDescriptor "([CI[BII)I" = some ⟨[(.array .char), .int, (.array .byte), .int, .int], some .int⟩ := by decide +kernel
theorem d10_12 : decode jdk_52_method_16_code 12 = .ok (.istore 4, 2) := by decide +kernel
theorem d10_14 : decode jdk_52_method_16_code 14 = .ok (.iload 4, 2) := by decide +kernel
theorem d10_16 : decode jdk_52_method_16_code 16 = .ok (.iload_n 2, 1) := by decide +kernel
theorem d10_17 : decode jdk_52_method_16_code 17 = .ok (.if_icmp .eq 40, 3) := by decide +kernel
theorem d10_57 : decode jdk_52_method_16_code 57 = .ok (.aload_n 3, 1) := by decide +kernel
theorem d10_58 : decode jdk_52_method_16_code 58 = .ok (.areturn, 1) := by decide +kernel
theorem ef_cp (m : MethodId) (x0 : Addr) (x1 : Int32) (x2 : Int32) : entryFrame m #[(.ref x0), (.int x1), (.int x2)] 6 = mkF m 0 #[.val (.ref x0), .val (.int x1), .val (.int x2), .unset, .unset, .unset] [] := by first | (simp [entryFrame, mkF, argsToLocals, Value.category]; done) | rfl
def Qcp (Z : State) (ca : Addr) (kc : ClassId) (cl : List Int32) (h0 : Heap) (n0 : Nat) (v : Option Value) (h : Heap) (L : List Loc) : Prop := ∃ (ba : Addr) (kb : ClassId), v = some (.ref ba) ∧ Fr n0 L ∧ Keep h0 h [] ∧ h0.size ≤ ba ∧ n0 ≤ ba ∧ Arv Z h ba kb .byte (38 : Int32) ((bl cl).map Value.int) (.int (0 : Int32))
set_option maxRecDepth 65536 in
set_option maxHeartbeats 40000000 in
theorem rmcp (l : Launch) (Z : State) (a0 : Array Value) (hw : ∀ d ∈ tables_1, d.before a0 Z = true) (ws : List Jvm.Cond) (ca : Addr) (kc : ClassId) (cl : List Int32) (h0 : Heap) (n0 : Nat) (Z0 : n0 ≤ h0.size) (A1 : Arv Z h0 ca kc .char (38 : Int32) (cl.map Value.int) (.int (0 : Int32))) (hcl : cl.length = 38) (hq : ∀ q ∈ cl, ¬ (255 : Int32) < q) :
    MetFree l (⟨"java/lang/StringUTF16", "compress", "([CII)[B"⟩ : MethodName) (head1 (Jvm.Cond.code (⟨"java/lang/StringUTF16", "compress", "([CII)[B"⟩ : MethodName) jdk_52_method_16_code 6 (some (.array .byte)) :: ws) ({ frames := 1, cells := 1, slots := 38, locals := 18 } : Room)) (fun aA U => aA = #[(.ref ca), (.int (0 : Int32)), (.int (38 : Int32))] ∧ Z.Warmed39 U.vm ∧ U.heap = h0) (fun _ _ _ _ _ => True) (fun _ U oO U' => ∃ vV LL, oO = .returned vV ∧ Qcp Z ca kc cl h0 n0 vV U'.heap LL ∧ FrameEnd U oO U' LL ({ frames := 1, cells := 1, slots := 38, locals := 18 } : Room).cells ({ frames := 1, cells := 1, slots := 38, locals := 18 } : Room).slots) := by
  refine MetFree.of_bodySF (plainFor_of_name pn_6) hisR ?_
  intro p e s m args below meth c s₁ Bd hml0 hP hK
  obtain ⟨rfl, hZ, hh⟩ := hP
  have hx := Bd.exec
  have hby := Bd.bytes
  have hml : c.maxLocals = 6 := hml0
  have hown : s.vm.findClass "java/lang/StringUTF16" = some m.cls := findClass_of_methodNamed Bd.named
  have hnm := (name_of_methodNamed Bd.named Bd.method).1
  have X0 : Stand p l e ({ frames := 1, cells := 1, slots := 38, locals := 18 } : Room) s m #[(.ref ca), (.int (0 : Int32)), (.int (38 : Int32))] below meth c s₁ [] 0 0 := Stand.of_body Bd
  have e0 : s₁.heap = h0 := by rw [← hh, Bd.state]; rfl
  have N0 := Fr.nil n0
  have K0 : Keep h0 h0 [] := Keep.refl _ _
  have pre0 : Rch p.tables e below (s₁.setTop (entryFrame m #[(.ref ca), (.int (0 : Int32)), (.int (38 : Int32))] 6)) (s₁.setTop (mkF m 0 #[.val (.ref ca), .val (.int (0 : Int32)), .val (.int (38 : Int32)), .unset, .unset, .unset] [])) := fun tgt ktg => castTop (ef_cp m ca (0 : Int32) (38 : Int32)) ktg
  have pre_1 : Rch p.tables e below (s₁.setTop (entryFrame m #[(.ref ca), (.int (0 : Int32)), (.int (38 : Int32))] 6)) (s₁.setTop (mkF m 1 #[.val (.ref ca), .val (.int (0 : Int32)), .val (.int (38 : Int32)), .unset, .unset, .unset] [(.int (38 : Int32))])) := fun tgt ktg => pre0 tgt (by
    show Steps p.tables e below (s₁.setTop (mkF m 0 #[.val (.ref ca), .val (.int (0 : Int32)), .val (.int (38 : Int32)), .unset, .unset, .unset] [])) _
    refine XS.iloadN X0.here hx rfl (hb hby d10_0) rfl ?_
    exact ktg)
  obtain ⟨T_2, h_2, k_2, X_2, e_2, E_2, A_2, st_2⟩ := newP X0 hx hZ (hw _ (List.mem_of_getElem? (i := 7) rfl)) e0 (g := (mkF m 1 #[.val (.ref ca), .val (.int (0 : Int32)), .val (.int (38 : Int32)), .unset, .unset, .unset] [(.int (38 : Int32))])) rfl (hb hby d10_1) rfl (by decide) (cap := 38) (by decide) (by decide) (by decide) (by decide)
  obtain ⟨ba, g_2⟩ : ∃ nm_, nm_ = h0.size := ⟨_, rfl⟩
  rw [← g_2] at A_2 st_2
  have ne_ca_ba : ca ≠ ba := Nat.ne_of_lt (Nat.lt_of_lt_of_le A1.lt (Nat.le_of_eq g_2.symm))
  have g_ba : n0 ≤ ba := Nat.le_trans Z0 (Nat.le_of_eq g_2.symm)
  have sz_ba : h0.size ≤ ba := Nat.le_trans K0.1 (Nat.le_of_eq g_2.symm)
  have pre_2 : Rch p.tables e below (s₁.setTop (entryFrame m #[(.ref ca), (.int (0 : Int32)), (.int (38 : Int32))] 6)) (T_2.setTop (mkF m 3 #[.val (.ref ca), .val (.int (0 : Int32)), .val (.int (38 : Int32)), .unset, .unset, .unset] [(.ref ba)])) := fun tgt ktg => pre_1 tgt (st_2 tgt ktg)
  have f_3 : Arv Z h_2 ca kc .char (38 : Int32) (cl.map Value.int) (.int (0 : Int32)) := A1.ext E_2
  have z_4 : n0 ≤ h_2.size := Nat.le_trans Z0 E_2.1
  have K_5 : Keep h0 h_2 [] := K0.ext E_2
  have f_6 : Arv Z h_2 ba k_2 .byte (38 : Int32) [(.int (0 : Int32)), (.int (0 : Int32)), (.int (0 : Int32)), (.int (0 : Int32)), (.int (0 : Int32)), (.int (0 : Int32)), (.int (0 : Int32)), (.int (0 : Int32)), (.int (0 : Int32)), (.int (0 : Int32)), (.int (0 : Int32)), (.int (0 : Int32)), (.int (0 : Int32)), (.int (0 : Int32)), (.int (0 : Int32)), (.int (0 : Int32)), (.int (0 : Int32)), (.int (0 : Int32)), (.int (0 : Int32)), (.int (0 : Int32)), (.int (0 : Int32)), (.int (0 : Int32)), (.int (0 : Int32)), (.int (0 : Int32)), (.int (0 : Int32)), (.int (0 : Int32)), (.int (0 : Int32)), (.int (0 : Int32)), (.int (0 : Int32)), (.int (0 : Int32)), (.int (0 : Int32)), (.int (0 : Int32)), (.int (0 : Int32)), (.int (0 : Int32)), (.int (0 : Int32)), (.int (0 : Int32)), (.int (0 : Int32)), (.int (0 : Int32))] (.int (0 : Int32)) := (Arv.new A_2 (by decide)).pad (pad_rep [] (.int (0 : Int32)) 38)
  have pre_7 : Rch p.tables e below (s₁.setTop (entryFrame m #[(.ref ca), (.int (0 : Int32)), (.int (38 : Int32))] 6)) (T_2.setTop (mkF m 9 #[.val (.ref ca), .val (.int (0 : Int32)), .val (.int (38 : Int32)), .val (.ref ba), .unset, .unset] [(.int (38 : Int32)), (.int (0 : Int32)), (.ref ba), (.int (0 : Int32)), (.ref ca)])) := fun tgt ktg => pre_2 tgt (by
    show Steps p.tables e below (T_2.setTop (mkF m 3 #[.val (.ref ca), .val (.int (0 : Int32)), .val (.int (38 : Int32)), .unset, .unset, .unset] [(.ref ba)])) _
    refine XS.astoreN X_2.here hx rfl (hb hby d10_3) rfl rfl (l' := #[.val (.ref ca), .val (.int (0 : Int32)), .val (.int (38 : Int32)), .val (.ref ba), .unset, .unset]) rfl ?_
    show Steps p.tables e below (T_2.setTop (mkF m 4 #[.val (.ref ca), .val (.int (0 : Int32)), .val (.int (38 : Int32)), .val (.ref ba), .unset, .unset] [])) _
    refine XS.aloadN X_2.here hx rfl (hb hby d10_4) rfl rfl ?_
    show Steps p.tables e below (T_2.setTop (mkF m 5 #[.val (.ref ca), .val (.int (0 : Int32)), .val (.int (38 : Int32)), .val (.ref ba), .unset, .unset] [(.ref ca)])) _
    refine XS.iloadN X_2.here hx rfl (hb hby d10_5) rfl ?_
    show Steps p.tables e below (T_2.setTop (mkF m 6 #[.val (.ref ca), .val (.int (0 : Int32)), .val (.int (38 : Int32)), .val (.ref ba), .unset, .unset] [(.int (0 : Int32)), (.ref ca)])) _
    refine XS.aloadN X_2.here hx rfl (hb hby d10_6) rfl rfl ?_
    show Steps p.tables e below (T_2.setTop (mkF m 7 #[.val (.ref ca), .val (.int (0 : Int32)), .val (.int (38 : Int32)), .val (.ref ba), .unset, .unset] [(.ref ba), (.int (0 : Int32)), (.ref ca)])) _
    refine XS.iconst X_2.here hx rfl (hb hby d10_7) ?_
    show Steps p.tables e below (T_2.setTop (mkF m 8 #[.val (.ref ca), .val (.int (0 : Int32)), .val (.int (38 : Int32)), .val (.ref ba), .unset, .unset] [(.int (0 : Int32)), (.ref ba), (.int (0 : Int32)), (.ref ca)])) _
    refine XS.iloadN X_2.here hx rfl (hb hby d10_8) rfl ?_
    exact ktg)
  obtain ⟨_, _, ⟨T_8, L_8, k_8, n_8⟩, -, X_8, ⟨Lc_8, hQ_8, l_8, y_8, z_8⟩, st_8⟩ := Jvm.LawKit.callS X_2 hx (y := (⟨"java/lang/StringUTF16", "compress", "([CI[BII)I"⟩ : MethodName)) hown (mvT hZ (hw _ (List.mem_of_getElem? (i := 54) rfl))) (mvT hZ (hw _ (List.mem_of_getElem? (i := 55) rfl))) (mvT hZ (hw _ (List.mem_of_getElem? (i := 52) rfl))) (mvT hZ (hw _ (List.mem_of_getElem? (i := 56) rfl))) (by decide) (backOf (W := 0) (rmcoA l Z a0 hw [] ca ba kc k_2 cl [(.int (0 : Int32)), (.int (0 : Int32)), (.int (0 : Int32)), (.int (0 : Int32)), (.int (0 : Int32)), (.int (0 : Int32)), (.int (0 : Int32)), (.int (0 : Int32)), (.int (0 : Int32)), (.int (0 : Int32)), (.int (0 : Int32)), (.int (0 : Int32)), (.int (0 : Int32)), (.int (0 : Int32)), (.int (0 : Int32)), (.int (0 : Int32)), (.int (0 : Int32)), (.int (0 : Int32)), (.int (0 : Int32)), (.int (0 : Int32)), (.int (0 : Int32)), (.int (0 : Int32)), (.int (0 : Int32)), (.int (0 : Int32)), (.int (0 : Int32)), (.int (0 : Int32)), (.int (0 : Int32)), (.int (0 : Int32)), (.int (0 : Int32)), (.int (0 : Int32)), (.int (0 : Int32)), (.int (0 : Int32)), (.int (0 : Int32)), (.int (0 : Int32)), (.int (0 : Int32)), (.int (0 : Int32)), (.int (0 : Int32)), (.int (0 : Int32))] h_2 n0 z_4 f_3 hcl hq f_6 rfl g_ba ne_ca_ba) hZ (hw _ (List.mem_of_getElem? (i := 56) rfl)) (hw _ (List.mem_of_getElem? (i := 52) rfl)) (by decide) (by decide)) (g := (mkF m 9 #[.val (.ref ca), .val (.int (0 : Int32)), .val (.int (38 : Int32)), .val (.ref ba), .unset, .unset] [(.int (38 : Int32)), (.int (0 : Int32)), (.ref ba), (.int (0 : Int32)), (.ref ca)])) rfl (by rw [hml]; rfl) (argsL := [(.ref ca), (.int (0 : Int32)), (.ref ba), (.int (0 : Int32)), (.int (38 : Int32))]) (rest := []) (lenOf pd_14 rfl) rfl (by show 2 * 0 + _ ≤ _; exact Nat.le_of_eq rfl) (hb hby d10_9) (fun _ _ => ⟨rfl, e_2, (by decide : 1 + 0 ≤ _), (by decide : 38 + 0 ≤ _)⟩)
  dsimp only [Pt.U, Pt.locs, Pt.cells, Pt.slots] at X_8 l_8 y_8 z_8 st_8 hQ_8
  subst l_8 y_8 z_8
  obtain ⟨rfl, Nq_8, Kq_8, b0⟩ := hQ_8
  have N_9 := Fr.app N0 Nq_8
  have pre_8 : Rch p.tables e below (s₁.setTop (entryFrame m #[(.ref ca), (.int (0 : Int32)), (.int (38 : Int32))] 6)) (T_8.setTop (mkF m 12 #[.val (.ref ca), .val (.int (0 : Int32)), .val (.int (38 : Int32)), .val (.ref ba), .unset, .unset] [(.int (38 : Int32))])) := fun tgt ktg => pre_7 tgt (st_8 tgt ktg)
  have z_10 : n0 ≤ T_8.heap.size := Nat.le_trans z_4 Kq_8.1
  have K_11 : Keep h0 T_8.heap [] := K_5.trans Kq_8 (allS (P := fun x => x ∈ ([] : List Addr) ∨ h0.size ≤ x) (Or.inr sz_ba) (all0 (P := fun x => x ∈ ([] : List Addr) ∨ h0.size ≤ x)))
  have pre_12 : Rch p.tables e below (s₁.setTop (entryFrame m #[(.ref ca), (.int (0 : Int32)), (.int (38 : Int32))] 6)) (T_8.setTop (mkF m 58 #[.val (.ref ca), .val (.int (0 : Int32)), .val (.int (38 : Int32)), .val (.ref ba), .val (.int (38 : Int32)), .unset] [(.ref ba)])) := fun tgt ktg => pre_8 tgt (by
    show Steps p.tables e below (T_8.setTop (mkF m 12 #[.val (.ref ca), .val (.int (0 : Int32)), .val (.int (38 : Int32)), .val (.ref ba), .unset, .unset] [(.int (38 : Int32))])) _
    refine XS.istore X_8.here hx rfl (hb hby d10_12) rfl (l' := #[.val (.ref ca), .val (.int (0 : Int32)), .val (.int (38 : Int32)), .val (.ref ba), .val (.int (38 : Int32)), .unset]) rfl ?_
    show Steps p.tables e below (T_8.setTop (mkF m 14 #[.val (.ref ca), .val (.int (0 : Int32)), .val (.int (38 : Int32)), .val (.ref ba), .val (.int (38 : Int32)), .unset] [])) _
    refine XS.iload X_8.here hx rfl (hb hby d10_14) rfl ?_
    show Steps p.tables e below (T_8.setTop (mkF m 16 #[.val (.ref ca), .val (.int (0 : Int32)), .val (.int (38 : Int32)), .val (.ref ba), .val (.int (38 : Int32)), .unset] [(.int (38 : Int32))])) _
    refine XS.iloadN X_8.here hx rfl (hb hby d10_16) rfl ?_
    show Steps p.tables e below (T_8.setTop (mkF m 17 #[.val (.ref ca), .val (.int (0 : Int32)), .val (.int (38 : Int32)), .val (.ref ba), .val (.int (38 : Int32)), .unset] [(.int (38 : Int32)), (.int (38 : Int32))])) _
    refine XS.icmpYes X_8.here hx rfl (pc0 := 17) (pc' := 57) rfl (hb hby d10_17) rfl (teq (rfl : (38 : Int32) = (38 : Int32))).1 (by decide) (by decide) ?_
    show Steps p.tables e below (T_8.setTop (mkF m 57 #[.val (.ref ca), .val (.int (0 : Int32)), .val (.int (38 : Int32)), .val (.ref ba), .val (.int (38 : Int32)), .unset] [])) _
    refine XS.aloadN X_8.here hx rfl (hb hby d10_57) rfl rfl ?_
    exact ktg)
  obtain ⟨fs, hr, hrun, hended, hW, hsame⟩ := X_8.leave (v := some (.ref ba)) (fun h => by rw [Bd.returns] at h; cases h)
  refine ⟨_, _, pre_12 _ ?_, hrun, hended, _, _, rfl, ?_, ⟨_, rfl⟩, hW, hsame.mono (by decide) (by decide)⟩
  · show Steps p.tables e below (T_8.setTop (mkF m 58 #[.val (.ref ca), .val (.int (0 : Int32)), .val (.int (38 : Int32)), .val (.ref ba), .val (.int (38 : Int32)), .unset] [(.ref ba)])) _
    jvm_step X_8.here [X_8.here.top, hx, (hb hby d10_58), X_8.method', Bd.returns, Value.isRef, FieldType.isReference]
    first | (intro acts; rw [hr _ acts rfl rfl rfl]) | rw [hr _ _ rfl rfl rfl]
    exact Steps.refl _
  · show Qcp Z ca kc cl h0 n0 _ T_8.heap _
    exact ⟨ba, k_2, rfl, N_9, K_11, sz_ba, g_ba, b0⟩
theorem d12_0 : decode jdk_52_method_15_code 0 = .ok (.iload_n 1, 1) := by decide +kernel
theorem d12_1 : decode jdk_52_method_15_code 1 = .ok (.aload_n 0, 1) := by decide +kernel
theorem d12_2 : decode jdk_52_method_15_code 2 = .ok (.arraylength, 1) := by decide +kernel
theorem d12_3 : decode jdk_52_method_15_code 3 = .ok (.isub, 1) := by decide +kernel
theorem d12_4 : decode jdk_52_method_15_code 4 = .ok (.bipush 31, 2) := by decide +kernel
theorem d12_6 : decode jdk_52_method_15_code 6 = .ok (.iushr, 1) := by decide +kernel
theorem d12_7 : decode jdk_52_method_15_code 7 = .ok (.i2b, 1) := by decide +kernel
theorem d12_8 : decode jdk_52_method_15_code 8 = .ok (.ireturn, 1) := by decide +kernel
theorem ef_cf (m : MethodId) (x0 : Addr) (x1 : Int32) : entryFrame m #[(.ref x0), (.int x1)] 2 = mkF m 0 #[.val (.ref x0), .val (.int x1)] [] := by first | (simp [entryFrame, mkF, argsToLocals, Value.category]; done) | rfl
def Qcf (Z : State) (ba : Addr) (kb : ClassId) (vs : List Value) (h0 : Heap) (n0 : Nat) (v : Option Value) (h : Heap) (L : List Loc) : Prop := v = some (.int 0) ∧ Fr n0 L ∧ h = h0
set_option maxRecDepth 65536 in
set_option maxHeartbeats 40000000 in
theorem rmcf (l : Launch) (Z : State) (a0 : Array Value) (hw : ∀ d ∈ tables_1, d.before a0 Z = true) (ws : List Jvm.Cond) (ba : Addr) (kb : ClassId) (vs : List Value) (h0 : Heap) (n0 : Nat) (Z0 : n0 ≤ h0.size) (A1 : Arv Z h0 ba kb .byte (38 : Int32) vs (.int (0 : Int32))) :
    MetFree l (⟨"java/lang/StringUTF16", "coderFromArrayLen", "([BI)B"⟩ : MethodName) (head1 (Jvm.Cond.code (⟨"java/lang/StringUTF16", "coderFromArrayLen", "([BI)B"⟩ : MethodName) jdk_52_method_15_code 2 (some .byte) :: ws) ({ frames := 0, cells := 0, slots := 0, locals := 0 } : Room)) (fun aA U => aA = #[(.ref ba), (.int (38 : Int32))] ∧ Z.Warmed39 U.vm ∧ U.heap = h0) (fun _ _ _ _ _ => True) (fun _ U oO U' => ∃ vV LL, oO = .returned vV ∧ Qcf Z ba kb vs h0 n0 vV U'.heap LL ∧ FrameEnd U oO U' LL ({ frames := 0, cells := 0, slots := 0, locals := 0 } : Room).cells ({ frames := 0, cells := 0, slots := 0, locals := 0 } : Room).slots) := by
  refine MetFree.of_bodySF (plainFor_of_name pn_6) hisR ?_
  intro p e s m args below meth c s₁ Bd hml0 hP hK
  obtain ⟨rfl, hZ, hh⟩ := hP
  have hx := Bd.exec
  have hby := Bd.bytes
  have hml : c.maxLocals = 2 := hml0
  have hown : s.vm.findClass "java/lang/StringUTF16" = some m.cls := findClass_of_methodNamed Bd.named
  have hnm := (name_of_methodNamed Bd.named Bd.method).1
  have X0 : Stand p l e ({ frames := 0, cells := 0, slots := 0, locals := 0 } : Room) s m #[(.ref ba), (.int (38 : Int32))] below meth c s₁ [] 0 0 := Stand.of_body Bd
  have e0 : s₁.heap = h0 := by rw [← hh, Bd.state]; rfl
  have N0 := Fr.nil n0
  have K0 : Keep h0 h0 [] := Keep.refl _ _
  have pre0 : Rch p.tables e below (s₁.setTop (entryFrame m #[(.ref ba), (.int (38 : Int32))] 2)) (s₁.setTop (mkF m 0 #[.val (.ref ba), .val (.int (38 : Int32))] [])) := fun tgt ktg => castTop (ef_cf m ba (38 : Int32)) ktg
  have pre_1 : Rch p.tables e below (s₁.setTop (entryFrame m #[(.ref ba), (.int (38 : Int32))] 2)) (s₁.setTop (mkF m 2 #[.val (.ref ba), .val (.int (38 : Int32))] [(.ref ba), (.int (38 : Int32))])) := fun tgt ktg => pre0 tgt (by
    show Steps p.tables e below (s₁.setTop (mkF m 0 #[.val (.ref ba), .val (.int (38 : Int32))] [])) _
    refine XS.iloadN X0.here hx rfl (hb hby d12_0) rfl ?_
    show Steps p.tables e below (s₁.setTop (mkF m 1 #[.val (.ref ba), .val (.int (38 : Int32))] [(.int (38 : Int32))])) _
    refine XS.aloadN X0.here hx rfl (hb hby d12_1) rfl rfl ?_
    exact ktg)
  obtain ⟨cl__2, Ar__2, q__2, S__2, N__2, H__2, G__2⟩ := id A1
  have pre_3 : Rch p.tables e below (s₁.setTop (entryFrame m #[(.ref ba), (.int (38 : Int32))] 2)) (s₁.setTop (mkF m 3 #[.val (.ref ba), .val (.int (38 : Int32))] [(.int (38 : Int32)), (.int (38 : Int32))])) := fun tgt ktg => pre_1 tgt (X0.arraylength hx (by rw [e0]; exact Ar__2.1) (State.isArrayOf_alike hZ.alike Ar__2.2.1) (g := (mkF m 2 #[.val (.ref ba), .val (.int (38 : Int32))] [(.ref ba), (.int (38 : Int32))])) rfl rfl (hb hby d12_2) _ (by rw [len_of S__2 N__2]; exact ktg))
  have pre_4 : Rch p.tables e below (s₁.setTop (entryFrame m #[(.ref ba), (.int (38 : Int32))] 2)) (s₁.setTop (mkF m 8 #[.val (.ref ba), .val (.int (38 : Int32))] [(.int ((((0 : Int32).toUInt32 >>> ((31 : Int32) &&& 31).toUInt32).toInt32).toInt8.toInt32))])) := fun tgt ktg => pre_3 tgt (by
    show Steps p.tables e below (s₁.setTop (mkF m 3 #[.val (.ref ba), .val (.int (38 : Int32))] [(.int (38 : Int32)), (.int (38 : Int32))])) _
    refine XS.isub X0.here hx rfl (hb hby d12_3) rfl ?_
    show Steps p.tables e below (s₁.setTop (mkF m 4 #[.val (.ref ba), .val (.int (38 : Int32))] [(.int (0 : Int32))])) _
    refine XS.bipush X0.here hx rfl (hb hby d12_4) ?_
    show Steps p.tables e below (s₁.setTop (mkF m 6 #[.val (.ref ba), .val (.int (38 : Int32))] [(.int (31 : Int32)), (.int (0 : Int32))])) _
    refine XT.iushr X0.here hx rfl (hb hby d12_6) rfl ?_
    show Steps p.tables e below (s₁.setTop (mkF m 7 #[.val (.ref ba), .val (.int (38 : Int32))] [(.int (((0 : Int32).toUInt32 >>> ((31 : Int32) &&& 31).toUInt32).toInt32))])) _
    refine XT.i2b X0.here hx rfl (hb hby d12_7) rfl ?_
    exact ktg)
  obtain ⟨fs, hr, hrun, hended, hW, hsame⟩ := X0.leave (v := some (.int (nar .byte ((((0 : Int32).toUInt32 >>> ((31 : Int32) &&& 31).toUInt32).toInt32).toInt8.toInt32)))) (fun h => by rw [Bd.returns] at h; cases h)
  refine ⟨_, _, pre_4 _ ?_, hrun, hended, _, _, rfl, ?_, ⟨_, rfl⟩, hW, hsame.mono (by decide) (by decide)⟩
  · show Steps p.tables e below (s₁.setTop (mkF m 8 #[.val (.ref ba), .val (.int (38 : Int32))] [(.int ((((0 : Int32).toUInt32 >>> ((31 : Int32) &&& 31).toUInt32).toInt32).toInt8.toInt32))])) _
    exact retN X0 hx (t := .byte) Bd.returns (by simp) (hb hby d12_8) hr
  · show Qcf Z ba kb vs h0 n0 _ s₁.heap _
    rw [e0]
    exact ⟨rfl, N0, rfl⟩
theorem d8_0 : decode jdk_42_method_149_code 0 = .ok (.aload_n 0, 1) := by decide +kernel
theorem d8_1 : decode jdk_42_method_149_code 1 = .ok (.invokespecial 1, 3) := by decide +kernel
theorem d8_4 : decode jdk_42_method_149_code 4 = .ok (.iload_n 3, 1) := by decide +kernel
theorem d8_5 : decode jdk_42_method_149_code 5 = .ok (.ifCond .ne 22, 3) := by decide +kernel
theorem d8_27 : decode jdk_42_method_149_code 27 = .ok (.getstatic 38, 3) := by decide +kernel
theorem d8_30 : decode jdk_42_method_149_code 30 = .ok (.ifCond .eq 28, 3) := by decide +kernel
theorem d8_33 : decode jdk_42_method_149_code 33 = .ok (.aload_n 1, 1) := by decide +kernel
theorem d8_34 : decode jdk_42_method_149_code 34 = .ok (.iload_n 2, 1) := by decide +kernel
theorem d8_35 : decode jdk_42_method_149_code 35 = .ok (.iload_n 3, 1) := by decide +kernel
theorem d8_36 : decode jdk_42_method_149_code 36 = .ok (.invokestatic 177, 3) := by decide +kernel
theorem pd_15 : parseMethodDescriptor "([CII)[B" = some ⟨[(.array .char), .int, .int], some (.array .byte)⟩ := by decide +kernel
theorem d8_39 : decode jdk_42_method_149_code 39 = .ok (.astore 5, 2) := by decide +kernel
theorem d8_41 : decode jdk_42_method_149_code 41 = .ok (.aload_n 0, 1) := by decide +kernel
theorem d8_42 : decode jdk_42_method_149_code 42 = .ok (.aload 5, 2) := by decide +kernel
theorem d8_44 : decode jdk_42_method_149_code 44 = .ok (.iload_n 3, 1) := by decide +kernel
theorem d8_45 : decode jdk_42_method_149_code 45 = .ok (.invokestatic 47, 3) := by decide +kernel
theorem pd_16 : parseMethodDescriptor "([BI)B" = some ⟨[(.array .byte), .int], some .byte⟩ := by decide +kernel
theorem d8_48 : decode jdk_42_method_149_code 48 = .ok (.putfield 15, 3) := by decide +kernel
theorem d8_51 : decode jdk_42_method_149_code 51 = .ok (.aload_n 0, 1) := by decide +kernel
theorem d8_52 : decode jdk_42_method_149_code 52 = .ok (.aload 5, 2) := by decide +kernel
theorem d8_54 : decode jdk_42_method_149_code 54 = .ok (.putfield 9, 3) := by decide +kernel
theorem d8_57 : decode jdk_42_method_149_code 57 = .ok (.return_, 1) := by decide +kernel
theorem ef_sv (m : MethodId) (x0 : Addr) (x1 : Addr) (x2 : Int32) (x3 : Int32) : entryFrame m #[(.ref x0), (.ref x1), (.int x2), (.int x3), .null] 6 = mkF m 0 #[.val (.ref x0), .val (.ref x1), .val (.int x2), .val (.int x3), .val .null, .unset] [] := by first | (simp [entryFrame, mkF, argsToLocals, Value.category]; done) | rfl
def Qsv (Z : State) (a : Addr) (ca : Addr) (kc : ClassId) (cl : List Int32) (h0 : Heap) (n0 : Nat) (v : Option Value) (h : Heap) (L : List Loc) : Prop := ∃ (ba : Addr) (kb : ClassId), v = none ∧ Fr n0 L ∧ Keep h0 h [a] ∧ Exa Z h a "java/lang/String" ∧ Fld Z h a "java/lang/String" "coder" "B" (.int (0 : Int32)) ∧ Fld Z h a "java/lang/String" "value" "[B" (.ref ba) ∧ Arv Z h ba kb .byte (38 : Int32) ((bl cl).map Value.int) (.int (0 : Int32))
set_option maxRecDepth 65536 in
set_option maxHeartbeats 40000000 in
theorem rmsv (l : Launch) (Z : State) (a0 : Array Value) (hw : ∀ d ∈ tables_1, d.before a0 Z = true) (ws : List Jvm.Cond) (a : Addr) (ca : Addr) (kc : ClassId) (cl : List Int32) (h0 : Heap) (n0 : Nat) (Z0 : n0 ≤ h0.size) (E1 : Exa Z h0 a "java/lang/String") (F1 : Fld Z h0 a "java/lang/String" "value" "[B" .null) (F2 : Fld Z h0 a "java/lang/String" "coder" "B" (.int (0 : Int32))) (A1 : Arv Z h0 ca kc .char (38 : Int32) (cl.map Value.int) (.int (0 : Int32))) (nca : ca ≠ a) (ga : n0 ≤ a) (hcl : cl.length = 38) (hq : ∀ q ∈ cl, ¬ (255 : Int32) < q) (cs : Int32) (hcs : ¬ cs = 0) (S1 : Sta Z h0 "java/lang/String" "COMPACT_STRINGS" "Z" (.int cs)) :
    MetFree l (⟨"java/lang/String", "<init>", "([CIILjava/lang/Void;)V"⟩ : MethodName) (head1 (Jvm.Cond.code (⟨"java/lang/String", "<init>", "([CIILjava/lang/Void;)V"⟩ : MethodName) jdk_42_method_149_code 6 none :: ws) ({ frames := 2, cells := 1, slots := 38, locals := 40 } : Room)) (fun aA U => aA = #[(.ref a), (.ref ca), (.int (0 : Int32)), (.int (38 : Int32)), .null] ∧ Z.Warmed39 U.vm ∧ U.heap = h0) (fun _ _ _ _ _ => True) (fun _ U oO U' => ∃ vV LL, oO = .returned vV ∧ Qsv Z a ca kc cl h0 n0 vV U'.heap LL ∧ FrameEnd U oO U' LL ({ frames := 2, cells := 1, slots := 38, locals := 40 } : Room).cells ({ frames := 2, cells := 1, slots := 38, locals := 40 } : Room).slots) := by
  refine MetFree.of_bodySF (plainFor_of_name pn_1) hisR ?_
  intro p e s m args below meth c s₁ Bd hml0 hP hK
  obtain ⟨rfl, hZ, hh⟩ := hP
  have hx := Bd.exec
  have hby := Bd.bytes
  have hml : c.maxLocals = 6 := hml0
  have hown : s.vm.findClass "java/lang/String" = some m.cls := findClass_of_methodNamed Bd.named
  have hnm := (name_of_methodNamed Bd.named Bd.method).1
  have X0 : Stand p l e ({ frames := 2, cells := 1, slots := 38, locals := 40 } : Room) s m #[(.ref a), (.ref ca), (.int (0 : Int32)), (.int (38 : Int32)), .null] below meth c s₁ [] 0 0 := Stand.of_body Bd
  have e0 : s₁.heap = h0 := by rw [← hh, Bd.state]; rfl
  have N0 := Fr.nil n0
  have K0 : Keep h0 h0 [a] := Keep.refl _ _
  have pre0 : Rch p.tables e below (s₁.setTop (entryFrame m #[(.ref a), (.ref ca), (.int (0 : Int32)), (.int (38 : Int32)), .null] 6)) (s₁.setTop (mkF m 0 #[.val (.ref a), .val (.ref ca), .val (.int (0 : Int32)), .val (.int (38 : Int32)), .val .null, .unset] [])) := fun tgt ktg => castTop (ef_sv m a ca (0 : Int32) (38 : Int32)) ktg
  have pre_1 : Rch p.tables e below (s₁.setTop (entryFrame m #[(.ref a), (.ref ca), (.int (0 : Int32)), (.int (38 : Int32)), .null] 6)) (s₁.setTop (mkF m 1 #[.val (.ref a), .val (.ref ca), .val (.int (0 : Int32)), .val (.int (38 : Int32)), .val .null, .unset] [(.ref a)])) := fun tgt ktg => pre0 tgt (by
    show Steps p.tables e below (s₁.setTop (mkF m 0 #[.val (.ref a), .val (.ref ca), .val (.int (0 : Int32)), .val (.int (38 : Int32)), .val .null, .unset] [])) _
    refine XS.aloadN X0.here hx rfl (hb hby d8_0) rfl rfl ?_
    exact ktg)
  obtain ⟨T_2, X_2, e_2, st_2⟩ := initO X0 hx hZ hown (hw _ (List.mem_of_getElem? (i := 47) rfl)) (hw _ (List.mem_of_getElem? (i := 48) rfl)) (hw _ (List.mem_of_getElem? (i := 49) rfl)) e0 (g := (mkF m 1 #[.val (.ref a), .val (.ref ca), .val (.int (0 : Int32)), .val (.int (38 : Int32)), .val .null, .unset] [(.ref a)])) rfl (by rw [hml]; rfl) rfl (hb hby d8_1) (by decide) (W := 0) (by show 2 * 0 + _ ≤ _; exact Nat.le_of_eq rfl) (by decide)
  have pre_2 : Rch p.tables e below (s₁.setTop (entryFrame m #[(.ref a), (.ref ca), (.int (0 : Int32)), (.int (38 : Int32)), .null] 6)) (T_2.setTop (mkF m 4 #[.val (.ref a), .val (.ref ca), .val (.int (0 : Int32)), .val (.int (38 : Int32)), .val .null, .unset] [])) := fun tgt ktg => pre_1 tgt (st_2 tgt ktg)
  have pre_3 : Rch p.tables e below (s₁.setTop (entryFrame m #[(.ref a), (.ref ca), (.int (0 : Int32)), (.int (38 : Int32)), .null] 6)) (T_2.setTop (mkF m 27 #[.val (.ref a), .val (.ref ca), .val (.int (0 : Int32)), .val (.int (38 : Int32)), .val .null, .unset] [])) := fun tgt ktg => pre_2 tgt (by
    show Steps p.tables e below (T_2.setTop (mkF m 4 #[.val (.ref a), .val (.ref ca), .val (.int (0 : Int32)), .val (.int (38 : Int32)), .val .null, .unset] [])) _
    refine XS.iloadN X_2.here hx rfl (hb hby d8_4) rfl ?_
    show Steps p.tables e below (T_2.setTop (mkF m 5 #[.val (.ref a), .val (.ref ca), .val (.int (0 : Int32)), .val (.int (38 : Int32)), .val .null, .unset] [(.int (38 : Int32))])) _
    refine XS.ifYes X_2.here hx rfl (pc0 := 5) (pc' := 27) rfl (hb hby d8_5) rfl ((if0 _ _).trans (feq (by decide : ¬ ((38 : Int32) = (0 : Int32)))).2) (by decide) (by decide) ?_
    exact ktg)
  obtain ⟨T_4, X_4, e_4, st_4⟩ := getS2 X_2 hx hZ hown (host := "") (Or.inl (hw _ (List.mem_of_getElem? (i := 23) rfl))) Via.refl e_2 S1 (g := (mkF m 27 #[.val (.ref a), .val (.ref ca), .val (.int (0 : Int32)), .val (.int (38 : Int32)), .val .null, .unset] [])) rfl (hb hby d8_27)
  have pre_4 : Rch p.tables e below (s₁.setTop (entryFrame m #[(.ref a), (.ref ca), (.int (0 : Int32)), (.int (38 : Int32)), .null] 6)) (T_4.setTop (mkF m 30 #[.val (.ref a), .val (.ref ca), .val (.int (0 : Int32)), .val (.int (38 : Int32)), .val .null, .unset] [(.int cs)])) := fun tgt ktg => pre_3 tgt (st_4 tgt ktg)
  have pre_5 : Rch p.tables e below (s₁.setTop (entryFrame m #[(.ref a), (.ref ca), (.int (0 : Int32)), (.int (38 : Int32)), .null] 6)) (T_4.setTop (mkF m 36 #[.val (.ref a), .val (.ref ca), .val (.int (0 : Int32)), .val (.int (38 : Int32)), .val .null, .unset] [(.int (38 : Int32)), (.int (0 : Int32)), (.ref ca)])) := fun tgt ktg => pre_4 tgt (by
    show Steps p.tables e below (T_4.setTop (mkF m 30 #[.val (.ref a), .val (.ref ca), .val (.int (0 : Int32)), .val (.int (38 : Int32)), .val .null, .unset] [(.int cs)])) _
    refine XS.ifNo X_4.here hx rfl (hb hby d8_30) rfl ((if0 _ _).trans (feq hcs).1) ?_
    show Steps p.tables e below (T_4.setTop (mkF m 33 #[.val (.ref a), .val (.ref ca), .val (.int (0 : Int32)), .val (.int (38 : Int32)), .val .null, .unset] [])) _
    refine XS.aloadN X_4.here hx rfl (hb hby d8_33) rfl rfl ?_
    show Steps p.tables e below (T_4.setTop (mkF m 34 #[.val (.ref a), .val (.ref ca), .val (.int (0 : Int32)), .val (.int (38 : Int32)), .val .null, .unset] [(.ref ca)])) _
    refine XS.iloadN X_4.here hx rfl (hb hby d8_34) rfl ?_
    show Steps p.tables e below (T_4.setTop (mkF m 35 #[.val (.ref a), .val (.ref ca), .val (.int (0 : Int32)), .val (.int (38 : Int32)), .val .null, .unset] [(.int (0 : Int32)), (.ref ca)])) _
    refine XS.iloadN X_4.here hx rfl (hb hby d8_35) rfl ?_
    exact ktg)
  have alt := E1.lt
  obtain ⟨_, _, ⟨T_6, L_6, k_6, n_6⟩, -, X_6, ⟨Lc_6, hQ_6, l_6, y_6, z_6⟩, st_6⟩ := Jvm.LawKit.callS X_4 hx (y := (⟨"java/lang/StringUTF16", "compress", "([CII)[B"⟩ : MethodName)) hown (mvT hZ (hw _ (List.mem_of_getElem? (i := 50) rfl))) (mvT hZ (hw _ (List.mem_of_getElem? (i := 51) rfl))) (mvT hZ (hw _ (List.mem_of_getElem? (i := 52) rfl))) (mvT hZ (hw _ (List.mem_of_getElem? (i := 53) rfl))) (by decide) (backOf (W := 0) (rmcp l Z a0 hw [] ca kc cl h0 n0 Z0 A1 hcl hq) hZ (hw _ (List.mem_of_getElem? (i := 53) rfl)) (hw _ (List.mem_of_getElem? (i := 52) rfl)) (by decide) (by decide)) (g := (mkF m 36 #[.val (.ref a), .val (.ref ca), .val (.int (0 : Int32)), .val (.int (38 : Int32)), .val .null, .unset] [(.int (38 : Int32)), (.int (0 : Int32)), (.ref ca)])) rfl (by rw [hml]; rfl) (argsL := [(.ref ca), (.int (0 : Int32)), (.int (38 : Int32))]) (rest := []) (lenOf pd_15 rfl) rfl (by show 2 * 0 + _ ≤ _; exact Nat.le_of_eq rfl) (hb hby d8_36) (fun _ _ => ⟨rfl, e_4, (by decide : 0 + 1 ≤ _), (by decide : 0 + 38 ≤ _)⟩)
  dsimp only [Pt.U, Pt.locs, Pt.cells, Pt.slots] at X_6 l_6 y_6 z_6 st_6 hQ_6
  subst l_6 y_6 z_6
  obtain ⟨ba, kb, rfl, Nq_6, Kq_6, sba, gba, b0⟩ := hQ_6
  have N_7 := Fr.app N0 Nq_6
  have pre_6 : Rch p.tables e below (s₁.setTop (entryFrame m #[(.ref a), (.ref ca), (.int (0 : Int32)), (.int (38 : Int32)), .null] 6)) (T_6.setTop (mkF m 39 #[.val (.ref a), .val (.ref ca), .val (.int (0 : Int32)), .val (.int (38 : Int32)), .val .null, .unset] [(.ref ba)])) := fun tgt ktg => pre_5 tgt (st_6 tgt ktg)
  have f_8 : Exa Z T_6.heap a "java/lang/String" := E1.keep Kq_6
  have f_9 : Fld Z T_6.heap a "java/lang/String" "value" "[B" .null := F1.keep Kq_6 nin0
  have f_10 : Fld Z T_6.heap a "java/lang/String" "coder" "B" (.int (0 : Int32)) := F2.keep Kq_6 nin0
  have f_11 : Arv Z T_6.heap ca kc .char (38 : Int32) (cl.map Value.int) (.int (0 : Int32)) := A1.keep Kq_6 nin0
  have f_12 : Sta Z T_6.heap "java/lang/String" "COMPACT_STRINGS" "Z" (.int cs) := own_sta_keep S1 Kq_6 ns0
  have z_13 : n0 ≤ T_6.heap.size := Nat.le_trans Z0 Kq_6.1
  have K_14 : Keep h0 T_6.heap [a] := K0.trans Kq_6 (all0 (P := fun x => x ∈ [a] ∨ h0.size ≤ x))
  have nab : a ≠ ba := Nat.ne_of_lt (Nat.lt_of_lt_of_le alt sba)
  have pre_15 : Rch p.tables e below (s₁.setTop (entryFrame m #[(.ref a), (.ref ca), (.int (0 : Int32)), (.int (38 : Int32)), .null] 6)) (T_6.setTop (mkF m 45 #[.val (.ref a), .val (.ref ca), .val (.int (0 : Int32)), .val (.int (38 : Int32)), .val .null, .val (.ref ba)] [(.int (38 : Int32)), (.ref ba), (.ref a)])) := fun tgt ktg => pre_6 tgt (by
    show Steps p.tables e below (T_6.setTop (mkF m 39 #[.val (.ref a), .val (.ref ca), .val (.int (0 : Int32)), .val (.int (38 : Int32)), .val .null, .unset] [(.ref ba)])) _
    refine XS.astore X_6.here hx rfl (hb hby d8_39) rfl rfl (l' := #[.val (.ref a), .val (.ref ca), .val (.int (0 : Int32)), .val (.int (38 : Int32)), .val .null, .val (.ref ba)]) rfl ?_
    show Steps p.tables e below (T_6.setTop (mkF m 41 #[.val (.ref a), .val (.ref ca), .val (.int (0 : Int32)), .val (.int (38 : Int32)), .val .null, .val (.ref ba)] [])) _
    refine XS.aloadN X_6.here hx rfl (hb hby d8_41) rfl rfl ?_
    show Steps p.tables e below (T_6.setTop (mkF m 42 #[.val (.ref a), .val (.ref ca), .val (.int (0 : Int32)), .val (.int (38 : Int32)), .val .null, .val (.ref ba)] [(.ref a)])) _
    refine XS.aload X_6.here hx rfl (hb hby d8_42) rfl rfl ?_
    show Steps p.tables e below (T_6.setTop (mkF m 44 #[.val (.ref a), .val (.ref ca), .val (.int (0 : Int32)), .val (.int (38 : Int32)), .val .null, .val (.ref ba)] [(.ref ba), (.ref a)])) _
    refine XS.iloadN X_6.here hx rfl (hb hby d8_44) rfl ?_
    exact ktg)
  obtain ⟨_, _, ⟨T_16, L_16, k_16, n_16⟩, -, X_16, ⟨Lc_16, hQ_16, l_16, y_16, z_16⟩, st_16⟩ := Jvm.LawKit.callS X_6 hx (y := (⟨"java/lang/StringUTF16", "coderFromArrayLen", "([BI)B"⟩ : MethodName)) hown (mvT hZ (hw _ (List.mem_of_getElem? (i := 57) rfl))) (mvT hZ (hw _ (List.mem_of_getElem? (i := 58) rfl))) (mvT hZ (hw _ (List.mem_of_getElem? (i := 52) rfl))) (mvT hZ (hw _ (List.mem_of_getElem? (i := 59) rfl))) (by decide) (backOf (W := 1) (rmcf l Z a0 hw [] ba kb ((bl cl).map Value.int) T_6.heap n0 z_13 b0) hZ (hw _ (List.mem_of_getElem? (i := 59) rfl)) (hw _ (List.mem_of_getElem? (i := 52) rfl)) (by decide) (by decide)) (g := (mkF m 45 #[.val (.ref a), .val (.ref ca), .val (.int (0 : Int32)), .val (.int (38 : Int32)), .val .null, .val (.ref ba)] [(.int (38 : Int32)), (.ref ba), (.ref a)])) rfl (by rw [hml]; rfl) (argsL := [(.ref ba), (.int (38 : Int32))]) (rest := [(.ref a)]) (lenOf pd_16 rfl) rfl (by show 2 * 0 + _ ≤ _; exact Nat.le_of_eq rfl) (hb hby d8_45) (fun _ _ => ⟨rfl, rfl, (by decide : 1 + 0 ≤ _), (by decide : 38 + 0 ≤ _)⟩)
  dsimp only [Pt.U, Pt.locs, Pt.cells, Pt.slots] at X_16 l_16 y_16 z_16 st_16 hQ_16
  subst l_16 y_16 z_16
  obtain ⟨rfl, Nq_16, eh_16⟩ := hQ_16
  have N_17 := Fr.app N_7 Nq_16
  have pre_16 : Rch p.tables e below (s₁.setTop (entryFrame m #[(.ref a), (.ref ca), (.int (0 : Int32)), (.int (38 : Int32)), .null] 6)) (T_16.setTop (mkF m 48 #[.val (.ref a), .val (.ref ca), .val (.int (0 : Int32)), .val (.int (38 : Int32)), .val .null, .val (.ref ba)] [(.int (0 : Int32)), (.ref a)])) := fun tgt ktg => pre_15 tgt (st_16 tgt ktg)
  obtain ⟨T_18, h_18, X_18, e_18, W_18, st_18⟩ := putFN X_16 hx hZ hown (hw _ (List.mem_of_getElem? (i := 24) rfl)) Via.refl eh_16 f_10 f_8 (Or.inr ⟨(hw _ (List.mem_of_getElem? (i := 9) rfl)), rfl, hnm⟩) (hw _ (List.mem_of_getElem? (i := 6) rfl)) (ty := .byte) (v' := (.int (0 : Int32))) (by decide) rfl (by decide) (g := (mkF m 48 #[.val (.ref a), .val (.ref ca), .val (.int (0 : Int32)), .val (.int (38 : Int32)), .val .null, .val (.ref ba)] [(.int (0 : Int32)), (.ref a)])) rfl rfl (hb hby d8_48)
  have pre_18 : Rch p.tables e below (s₁.setTop (entryFrame m #[(.ref a), (.ref ca), (.int (0 : Int32)), (.int (38 : Int32)), .null] 6)) (T_18.setTop (mkF m 51 #[.val (.ref a), .val (.ref ca), .val (.int (0 : Int32)), .val (.int (38 : Int32)), .val .null, .val (.ref ba)] [])) := fun tgt ktg => pre_16 tgt (st_18 tgt ktg)
  have f_19 : Exa Z h_18 a "java/lang/String" := f_8.wr W_18
  have f_20 : Fld Z h_18 a "java/lang/String" "value" "[B" .null := f_9.other W_18 (Or.inr (slot_ne (Or.inr (hw _ (List.mem_of_getElem? (i := 8) rfl))) (Or.inr (hw _ (List.mem_of_getElem? (i := 9) rfl))) (by decide) (t := (.array .byte)) (t' := .byte) (by decide) (by decide)))
  have f_21 : Sta Z h_18 "java/lang/String" "COMPACT_STRINGS" "Z" (.int cs) := f_12.wr W_18
  have f_22 : Arv Z h_18 ba kb .byte (38 : Int32) ((bl cl).map Value.int) (.int (0 : Int32)) := b0.other W_18 (Ne.symm nab)
  have z_23 : n0 ≤ h_18.size := Nat.le_trans z_13 (Keep.of_wr W_18).1
  have K_24 : Keep h0 h_18 [a] := K_14.wr W_18 (Or.inl (List.mem_of_getElem? (i := 0) rfl))
  have f_25 : Fld Z h_18 a "java/lang/String" "coder" "B" (.int (0 : Int32)) := f_10.same W_18
  have N_26 := Fr.snoc X_18 N_17 ga
  have pre_27 : Rch p.tables e below (s₁.setTop (entryFrame m #[(.ref a), (.ref ca), (.int (0 : Int32)), (.int (38 : Int32)), .null] 6)) (T_18.setTop (mkF m 54 #[.val (.ref a), .val (.ref ca), .val (.int (0 : Int32)), .val (.int (38 : Int32)), .val .null, .val (.ref ba)] [(.ref ba), (.ref a)])) := fun tgt ktg => pre_18 tgt (by
    show Steps p.tables e below (T_18.setTop (mkF m 51 #[.val (.ref a), .val (.ref ca), .val (.int (0 : Int32)), .val (.int (38 : Int32)), .val .null, .val (.ref ba)] [])) _
    refine XS.aloadN X_18.here hx rfl (hb hby d8_51) rfl rfl ?_
    show Steps p.tables e below (T_18.setTop (mkF m 52 #[.val (.ref a), .val (.ref ca), .val (.int (0 : Int32)), .val (.int (38 : Int32)), .val .null, .val (.ref ba)] [(.ref a)])) _
    refine XS.aload X_18.here hx rfl (hb hby d8_52) rfl rfl ?_
    exact ktg)
  obtain ⟨T_28, h_28, X_28, e_28, W_28, st_28⟩ := putF X_18 hx hZ hown (host := "") (Or.inl (hw _ (List.mem_of_getElem? (i := 25) rfl))) Via.refl e_18 f_20 f_19 (Or.inr ⟨(hw _ (List.mem_of_getElem? (i := 8) rfl)), rfl, hnm⟩) (hw _ (List.mem_of_getElem? (i := 6) rfl)) (ty := (.array .byte)) (by decide) rfl rfl (g := (mkF m 54 #[.val (.ref a), .val (.ref ca), .val (.int (0 : Int32)), .val (.int (38 : Int32)), .val .null, .val (.ref ba)] [(.ref ba), (.ref a)])) rfl rfl (hb hby d8_54)
  have pre_28 : Rch p.tables e below (s₁.setTop (entryFrame m #[(.ref a), (.ref ca), (.int (0 : Int32)), (.int (38 : Int32)), .null] 6)) (T_28.setTop (mkF m 57 #[.val (.ref a), .val (.ref ca), .val (.int (0 : Int32)), .val (.int (38 : Int32)), .val .null, .val (.ref ba)] [])) := fun tgt ktg => pre_27 tgt (st_28 tgt ktg)
  have f_29 : Exa Z h_28 a "java/lang/String" := f_19.wr W_28
  have f_30 : Sta Z h_28 "java/lang/String" "COMPACT_STRINGS" "Z" (.int cs) := f_21.wr W_28
  have f_31 : Arv Z h_28 ba kb .byte (38 : Int32) ((bl cl).map Value.int) (.int (0 : Int32)) := f_22.other W_28 (Ne.symm nab)
  have f_32 : Fld Z h_28 a "java/lang/String" "coder" "B" (.int (0 : Int32)) := f_25.other W_28 (Or.inr (slot_ne (Or.inr (hw _ (List.mem_of_getElem? (i := 9) rfl))) (Or.inr (hw _ (List.mem_of_getElem? (i := 8) rfl))) (by decide) (t := .byte) (t' := (.array .byte)) (by decide) (by decide)))
  have z_33 : n0 ≤ h_28.size := Nat.le_trans z_23 (Keep.of_wr W_28).1
  have K_34 : Keep h0 h_28 [a] := K_24.wr W_28 (Or.inl (List.mem_of_getElem? (i := 0) rfl))
  have f_35 : Fld Z h_28 a "java/lang/String" "value" "[B" (.ref ba) := f_20.same W_28
  have N_36 := Fr.snoc X_28 N_26 ga
  obtain ⟨fs, hr, hrun, hended, hW, hsame⟩ := X_28.leave (v := none) (fun _ => rfl)
  refine ⟨_, _, pre_28 _ ?_, hrun, hended, _, _, rfl, ?_, ⟨_, rfl⟩, hW, hsame.mono (by decide) (by decide)⟩
  · show Steps p.tables e below (T_28.setTop (mkF m 57 #[.val (.ref a), .val (.ref ca), .val (.int (0 : Int32)), .val (.int (38 : Int32)), .val .null, .val (.ref ba)] [])) _
    exact X_28.returnOut hx Bd.returns (hb hby d8_57) hr
  · show Qsv Z a ca kc cl h0 n0 _ T_28.heap _
    rw [e_28]
    exact ⟨ba, kb, rfl, N_36, K_34, f_29, f_32, f_35, f_31⟩
theorem d7_0 : decode jdk_42_method_3_code 0 = .ok (.aload_n 0, 1) := by decide +kernel
theorem d7_1 : decode jdk_42_method_3_code 1 = .ok (.aload_n 1, 1) := by decide +kernel
theorem d7_2 : decode jdk_42_method_3_code 2 = .ok (.iconst 0, 1) := by decide +kernel
theorem d7_3 : decode jdk_42_method_3_code 3 = .ok (.aload_n 1, 1) := by decide +kernel
theorem d7_4 : decode jdk_42_method_3_code 4 = .ok (.arraylength, 1) := by decide +kernel
theorem d7_5 : decode jdk_42_method_3_code 5 = .ok (.aconst_null, 1) := by decide +kernel
theorem d7_6 : decode jdk_42_method_3_code 6 = .ok (.invokespecial 27, 3) := by decide +kernel
theorem pd_17 : parseMethodDescriptor "([CIILjava/lang/Void;)V" = some ⟨[(.array .char), .int, .int, (.object "java/lang/Void")], none⟩ := by decide +kernel
theorem d7_9 : decode jdk_42_method_3_code 9 = .ok (.return_, 1) := by decide +kernel
theorem ef_sc (m : MethodId) (x0 : Addr) (x1 : Addr) : entryFrame m #[(.ref x0), (.ref x1)] 2 = mkF m 0 #[.val (.ref x0), .val (.ref x1)] [] := by first | (simp [entryFrame, mkF, argsToLocals, Value.category]; done) | rfl
def Qsc (Z : State) (a : Addr) (ca : Addr) (kc : ClassId) (cl : List Int32) (h0 : Heap) (n0 : Nat) (v : Option Value) (h : Heap) (L : List Loc) : Prop := ∃ (ba : Addr) (kb : ClassId), v = none ∧ Fr n0 L ∧ Keep h0 h [a] ∧ Exa Z h a "java/lang/String" ∧ Fld Z h a "java/lang/String" "coder" "B" (.int (0 : Int32)) ∧ Fld Z h a "java/lang/String" "value" "[B" (.ref ba) ∧ Arv Z h ba kb .byte (38 : Int32) ((bl cl).map Value.int) (.int (0 : Int32))
set_option maxRecDepth 65536 in
set_option maxHeartbeats 40000000 in
theorem rmsc (l : Launch) (Z : State) (a0 : Array Value) (hw : ∀ d ∈ tables_1, d.before a0 Z = true) (ws : List Jvm.Cond) (a : Addr) (ca : Addr) (kc : ClassId) (cl : List Int32) (h0 : Heap) (n0 : Nat) (Z0 : n0 ≤ h0.size) (E1 : Exa Z h0 a "java/lang/String") (F1 : Fld Z h0 a "java/lang/String" "value" "[B" .null) (F2 : Fld Z h0 a "java/lang/String" "coder" "B" (.int (0 : Int32))) (A1 : Arv Z h0 ca kc .char (38 : Int32) (cl.map Value.int) (.int (0 : Int32))) (nca : ca ≠ a) (ga : n0 ≤ a) (hcl : cl.length = 38) (hq : ∀ q ∈ cl, ¬ (255 : Int32) < q) (cs : Int32) (hcs : ¬ cs = 0) (S1 : Sta Z h0 "java/lang/String" "COMPACT_STRINGS" "Z" (.int cs)) :
    MetFree l (⟨"java/lang/String", "<init>", "([C)V"⟩ : MethodName) (head1 (Jvm.Cond.code (⟨"java/lang/String", "<init>", "([C)V"⟩ : MethodName) jdk_42_method_3_code 2 none :: ws) ({ frames := 3, cells := 1, slots := 38, locals := 57 } : Room)) (fun aA U => aA = #[(.ref a), (.ref ca)] ∧ Z.Warmed39 U.vm ∧ U.heap = h0) (fun _ _ _ _ _ => True) (fun _ U oO U' => ∃ vV LL, oO = .returned vV ∧ Qsc Z a ca kc cl h0 n0 vV U'.heap LL ∧ FrameEnd U oO U' LL ({ frames := 3, cells := 1, slots := 38, locals := 57 } : Room).cells ({ frames := 3, cells := 1, slots := 38, locals := 57 } : Room).slots) := by
  refine MetFree.of_bodySF (plainFor_of_name pn_1) hisR ?_
  intro p e s m args below meth c s₁ Bd hml0 hP hK
  obtain ⟨rfl, hZ, hh⟩ := hP
  have hx := Bd.exec
  have hby := Bd.bytes
  have hml : c.maxLocals = 2 := hml0
  have hown : s.vm.findClass "java/lang/String" = some m.cls := findClass_of_methodNamed Bd.named
  have hnm := (name_of_methodNamed Bd.named Bd.method).1
  have X0 : Stand p l e ({ frames := 3, cells := 1, slots := 38, locals := 57 } : Room) s m #[(.ref a), (.ref ca)] below meth c s₁ [] 0 0 := Stand.of_body Bd
  have e0 : s₁.heap = h0 := by rw [← hh, Bd.state]; rfl
  have N0 := Fr.nil n0
  have K0 : Keep h0 h0 [a] := Keep.refl _ _
  have pre0 : Rch p.tables e below (s₁.setTop (entryFrame m #[(.ref a), (.ref ca)] 2)) (s₁.setTop (mkF m 0 #[.val (.ref a), .val (.ref ca)] [])) := fun tgt ktg => castTop (ef_sc m a ca) ktg
  have pre_1 : Rch p.tables e below (s₁.setTop (entryFrame m #[(.ref a), (.ref ca)] 2)) (s₁.setTop (mkF m 4 #[.val (.ref a), .val (.ref ca)] [(.ref ca), (.int (0 : Int32)), (.ref ca), (.ref a)])) := fun tgt ktg => pre0 tgt (by
    show Steps p.tables e below (s₁.setTop (mkF m 0 #[.val (.ref a), .val (.ref ca)] [])) _
    refine XS.aloadN X0.here hx rfl (hb hby d7_0) rfl rfl ?_
    show Steps p.tables e below (s₁.setTop (mkF m 1 #[.val (.ref a), .val (.ref ca)] [(.ref a)])) _
    refine XS.aloadN X0.here hx rfl (hb hby d7_1) rfl rfl ?_
    show Steps p.tables e below (s₁.setTop (mkF m 2 #[.val (.ref a), .val (.ref ca)] [(.ref ca), (.ref a)])) _
    refine XS.iconst X0.here hx rfl (hb hby d7_2) ?_
    show Steps p.tables e below (s₁.setTop (mkF m 3 #[.val (.ref a), .val (.ref ca)] [(.int (0 : Int32)), (.ref ca), (.ref a)])) _
    refine XS.aloadN X0.here hx rfl (hb hby d7_3) rfl rfl ?_
    exact ktg)
  obtain ⟨cl__2, Ar__2, q__2, S__2, N__2, H__2, G__2⟩ := id A1
  have pre_3 : Rch p.tables e below (s₁.setTop (entryFrame m #[(.ref a), (.ref ca)] 2)) (s₁.setTop (mkF m 5 #[.val (.ref a), .val (.ref ca)] [(.int (38 : Int32)), (.int (0 : Int32)), (.ref ca), (.ref a)])) := fun tgt ktg => pre_1 tgt (X0.arraylength hx (by rw [e0]; exact Ar__2.1) (State.isArrayOf_alike hZ.alike Ar__2.2.1) (g := (mkF m 4 #[.val (.ref a), .val (.ref ca)] [(.ref ca), (.int (0 : Int32)), (.ref ca), (.ref a)])) rfl rfl (hb hby d7_4) _ (by rw [len_of S__2 N__2]; exact ktg))
  have pre_4 : Rch p.tables e below (s₁.setTop (entryFrame m #[(.ref a), (.ref ca)] 2)) (s₁.setTop (mkF m 6 #[.val (.ref a), .val (.ref ca)] [.null, (.int (38 : Int32)), (.int (0 : Int32)), (.ref ca), (.ref a)])) := fun tgt ktg => pre_3 tgt (by
    show Steps p.tables e below (s₁.setTop (mkF m 5 #[.val (.ref a), .val (.ref ca)] [(.int (38 : Int32)), (.int (0 : Int32)), (.ref ca), (.ref a)])) _
    refine XS.aconstNull X0.here hx rfl (hb hby d7_5) ?_
    exact ktg)
  obtain ⟨_, _, ⟨T_5, L_5, k_5, n_5⟩, -, X_5, ⟨Lc_5, hQ_5, l_5, y_5, z_5⟩, st_5⟩ := X0.specialBack hx (y := (⟨"java/lang/String", "<init>", "([CIILjava/lang/Void;)V"⟩ : MethodName)) rfl hown (mvT hZ (hw _ (List.mem_of_getElem? (i := 43) rfl))) (mvT hZ (hw _ (List.mem_of_getElem? (i := 44) rfl))) (mvT hZ (hw _ (List.mem_of_getElem? (i := 46) rfl))) (by decide) (backOf (W := 0) (rmsv l Z a0 hw [] a ca kc cl h0 n0 Z0 E1 F1 F2 A1 nca ga hcl hq cs hcs S1) hZ (hw _ (List.mem_of_getElem? (i := 46) rfl)) (hw _ (List.mem_of_getElem? (i := 5) rfl)) (by decide) (by decide)) (g := (mkF m 6 #[.val (.ref a), .val (.ref ca)] [.null, (.int (38 : Int32)), (.int (0 : Int32)), (.ref ca), (.ref a)])) rfl (by rw [hml]; rfl) (Steps.refl _) (a := a) (argsL := [(.ref ca), (.int (0 : Int32)), (.int (38 : Int32)), .null]) (rest := []) (lenOf pd_17 rfl) rfl (by show 2 * 0 + _ ≤ _; exact Nat.le_of_eq rfl) (hb hby d7_6) (fun _ _ => ⟨rfl, e0, (by decide : 0 + 1 ≤ _), (by decide : 0 + 38 ≤ _)⟩)
  dsimp only [Pt.U, Pt.locs, Pt.cells, Pt.slots] at X_5 l_5 y_5 z_5 st_5 hQ_5
  subst l_5 y_5 z_5
  obtain ⟨ba, kb, rfl, Nq_5, Kq_5, b1, b2, b3, b4⟩ := hQ_5
  have N_6 := Fr.app N0 Nq_5
  have pre_5 : Rch p.tables e below (s₁.setTop (entryFrame m #[(.ref a), (.ref ca)] 2)) (T_5.setTop (mkF m 9 #[.val (.ref a), .val (.ref ca)] [])) := fun tgt ktg => pre_4 tgt (st_5.trans ktg)
  have z_7 : n0 ≤ T_5.heap.size := Nat.le_trans Z0 Kq_5.1
  have K_8 : Keep h0 T_5.heap [a] := K0.trans Kq_5 (allS (P := fun x => x ∈ [a] ∨ h0.size ≤ x) (Or.inl (List.mem_of_getElem? (i := 0) rfl)) (all0 (P := fun x => x ∈ [a] ∨ h0.size ≤ x)))
  obtain ⟨fs, hr, hrun, hended, hW, hsame⟩ := X_5.leave (v := none) (fun _ => rfl)
  refine ⟨_, _, pre_5 _ ?_, hrun, hended, _, _, rfl, ?_, ⟨_, rfl⟩, hW, hsame.mono (by decide) (by decide)⟩
  · show Steps p.tables e below (T_5.setTop (mkF m 9 #[.val (.ref a), .val (.ref ca)] [])) _
    exact X_5.returnOut hx Bd.returns (hb hby d7_9) hr
  · show Qsc Z a ca kc cl h0 n0 _ T_5.heap _
    exact ⟨ba, kb, rfl, N_6, K_8, b1, b2, b3, b4⟩
theorem own_narc {q : Int32} (h0 : ¬ q < 0) (h : ¬ (255 : Int32) < q) : nar .char q = q := by
  have e := Jvm.Kit.i32_mask q 255 (k := 8) (by decide) (by decide)
  have e0 : (0 : Int32).toInt = 0 := by decide
  have e255 : (255 : Int32).toInt = 255 := by decide
  rw [Int32.lt_iff_toInt_lt] at *
  have m : q &&& (255 : Int32) = q := Int32.toInt_inj.mp (by omega)
  have c := i2c_mask q
  rw [m] at c; exact c
theorem own_byte {x q : Int32} (h : q = ((x &&& (255 : Int32)).toUInt32.toUInt16.toUInt32.toInt32)) : ¬ q < 0 ∧ ¬ (255 : Int32) < q := by
  rw [i2c_mask] at h; subst h
  have e := Jvm.Kit.i32_mask x 255 (k := 8) (by decide) (by decide)
  have e0 : (0 : Int32).toInt = 0 := by decide
  have e255 : (255 : Int32).toInt = 255 := by decide
  rw [Int32.lt_iff_toInt_lt, Int32.lt_iff_toInt_lt]; omega
theorem own_m36 {x k : Int32} (h : k = ((x &&& (65535 : Int32)) % (36 : Int32))) : ∃ n, n < 36 ∧ k = Int32.ofNat n := by
  have e := Jvm.Kit.i32_mask x 65535 (k := 16) (by decide) (by decide)
  have e36 : (36 : Int32).toInt = 36 := by decide
  have t := Int32.toInt_mod (x &&& 65535) 36
  rw [← h, e36, Int.tmod_eq_emod_of_nonneg (by omega)] at t
  refine ⟨k.toInt.toNat, by omega, Int32.toInt_inj.mp ?_⟩
  rw [Int32.toInt_ofNat_of_lt (by omega)]; omega
theorem own_mkr : ∀ n : Fin 36, ¬ mkl.getD n.val 0 < 0 ∧ ¬ (255 : Int32) < mkl.getD n.val 0 ∧ (mkl.getD n.val 0 &&& 255) = mkl.getD n.val 0 ∧ (mkl.getD n.val 0).toInt8.toInt32 = mkl.getD n.val 0 ∧ mkl.getD n.val 0 < 128 ∧ mkl.getD n.val 0 ≠ 82 ∧ inm (mkl.getD n.val 0) = 1 := by decide +kernel
/-- two bytes are one where the chars are -/
theorem own_bij {j q : Int32} (hj : ¬ j < 0 ∧ ¬ (255 : Int32) < j) (hq : ¬ q < 0 ∧ ¬ (255 : Int32) < q) : (q.toInt8.toInt32 = j.toInt8.toInt32) ↔ j = q := by
  constructor
  · intro h
    obtain ⟨hj0, hj1⟩ := hj
    obtain ⟨hq0, hq1⟩ := hq
    have e0 : (0 : Int32).toInt = 0 := by decide
    have e255 : (255 : Int32).toInt = 255 := by decide
    rw [Int32.lt_iff_toInt_lt] at hj0 hj1 hq0 hq1
    have h2 := congrArg Int32.toInt h
    rw [Int8.toInt_toInt32, Int8.toInt_toInt32, Int32.toInt_toInt8, Int32.toInt_toInt8, Int.bmod_def, Int.bmod_def] at h2
    refine Int32.toInt_inj.mp ?_
    split at h2 <;> split at h2 <;> omega
  · intro h; rw [h]
/-- the body's chars, none of them changed -/
def cl0 (c0 c1 : Int32) : List Int32 := c0 :: (mkl ++ [c1])
theorem own_cl0 (c0 c1 : Int32) : (cl0 c0 c1).length = 38 := rfl
theorem own_cll (c0 c1 x : Int32) (k : Nat) : ((cl0 c0 c1).set k x).length = 38 := by rw [List.length_set]; rfl
theorem own_clm {c0 c1 : Int32} {k : Nat} (hk : k < 36) : (cl0 c0 c1).getD (k + 1) 0 = mkl.getD k 0 := by
  have hl : k < mkl.length := hk
  show (mkl ++ [c1]).getD k 0 = mkl.getD k 0
  rw [List.getD_eq_getElem?_getD, List.getD_eq_getElem?_getD, List.getElem?_append_left hl]
theorem own_clq {c0 c1 x : Int32} {k : Nat} (h0 : ¬ (255 : Int32) < c0) (h1 : ¬ (255 : Int32) < c1) (hx : ¬ (255 : Int32) < x) : ∀ q ∈ (cl0 c0 c1).set k x, ¬ (255 : Int32) < q := by
  intro q hq
  rcases List.mem_or_eq_of_mem_set hq with h | h
  · rcases List.mem_cons.mp h with h | h
    · rw [h]; exact h0
    · rcases List.mem_append.mp h with h | h
      · exact (by decide +kernel : ∀ q ∈ mkl, ¬ (255 : Int32) < q) q h
      · rw [List.mem_singleton.mp h]; exact h1
  · rw [h]; exact hx
theorem own_blg (l : List Int32) (i : Nat) : (bl l).getD i 0 = (l.getD i 0).toInt8.toInt32 := by
  unfold bl
  rw [List.getD_eq_getElem?_getD, List.getD_eq_getElem?_getD, List.getElem?_map]
  cases l[i]? with
  | none => rfl
  | some x => rfl
theorem own_bll (l : List Int32) : (bl l).length = l.length := by simp [bl]
theorem own_stg {l : List Int32} {i j : Nat} {x : Int32} (hi : i < l.length) : (l.set i x).getD j 0 = if j = i then x else l.getD j 0 := by
  by_cases e : j = i
  · subst e; simp [hi]
  · rw [if_neg e]; simp [List.getD_eq_getElem?_getD, List.getElem?_set, Ne.symm e]
/-- where the char is the marker's own nothing changes -/
theorem own_same0 {c0 c1 : Int32} {n : Nat} (hn : n < 36) : (cl0 c0 c1).set (n + 1) (mkl.getD n 0) = cl0 c0 c1 := by
  refine List.ext_getElem (by simp) ?_
  intro j h1 h2
  have a := own_stg (l := cl0 c0 c1) (i := n + 1) (j := j) (x := mkl.getD n 0) (by rw [own_cl0]; omega)
  rw [List.getD_eq_getElem?_getD, List.getElem?_eq_getElem h1] at a
  have b : (cl0 c0 c1).getD j 0 = (cl0 c0 c1)[j] := by rw [List.getD_eq_getElem?_getD, List.getElem?_eq_getElem h2]; rfl
  by_cases e : j = n + 1
  · subst e
    rw [if_pos rfl] at a
    rw [← b, own_clm hn]; exact a
  · rw [if_neg e, b] at a; exact a
theorem own_hasm (c0 c1 : Int32) : Has (bl (cl0 c0 c1)) mkl := by
  refine ⟨1, by rw [own_bll, own_cl0]; decide, fun k hk => ?_⟩
  rw [own_blg, Nat.add_comm, own_clm hk]
  exact (own_mkr ⟨k, hk⟩).2.2.2.1
theorem own_hm {c0 c1 x ap : Int32} {n : Nat} (hn : n < 36) (hap : ap = mkl.getD n 0) (hx : ¬ x < 0 ∧ ¬ (255 : Int32) < x) : Has (bl ((cl0 c0 c1).set (n + 1) x)) mkl ↔ x = ap := by
  constructor
  · rintro ⟨i, hi, oc⟩
    have e36 : mkl.length = 36 := rfl
    rw [own_bll, List.length_set, own_cl0, e36] at hi
    have g : ∀ k, k < 36 → (if i + k = n + 1 then x else (cl0 c0 c1).getD (i + k) 0).toInt8.toInt32 = mkl.getD k 0 := fun k hk => by
      have q := oc k hk
      rw [own_blg, own_stg (by rw [own_cl0]; omega)] at q; exact q
    have hi3 : i = 0 ∨ i = 1 ∨ i = 2 := by omega
    rcases hi3 with rfl | rfl | rfl
    · exfalso
      by_cases e : n = 0
      · subst e
        have q := g 2 (by decide)
        rw [if_neg (by decide), own_clm (k := 1) (by decide)] at q
        revert q; decide
      · have q := g 1 (by decide)
        rw [if_neg (by omega), own_clm (k := 0) (by decide)] at q
        revert q; decide
    · have q := g n hn
      rw [if_pos (by omega), ← hap] at q
      have r := own_mkr ⟨n, hn⟩
      rw [show mkl.getD (Fin.val ⟨n, hn⟩) 0 = ap from hap.symm] at r
      rw [← r.2.2.2.1] at q
      exact ((own_bij ⟨r.1, r.2.1⟩ hx).mp q).symm
    · exfalso
      by_cases e : n = 1
      · subst e
        have q := g 1 (by decide)
        rw [if_neg (by decide), own_clm (k := 2) (by decide)] at q
        revert q; decide
      · have q := g 0 (by decide)
        rw [if_neg (by omega), own_clm (k := 1) (by decide)] at q
        revert q; decide
  · intro h
    rw [h, hap, own_same0 hn]; exact own_hasm c0 c1
theorem own_hone (bs : List Int32) (b : Int32) : Has bs [b] ↔ ∃ i, i < bs.length ∧ bs.getD i 0 = b := by
  constructor
  · rintro ⟨i, hi, oc⟩; exact ⟨i, hi, oc 0 (by show 0 < 1; decide)⟩
  · rintro ⟨i, hi, oc⟩
    refine ⟨i, hi, fun k hk => ?_⟩
    have : k = 0 := by have : k < 1 := hk; omega
    subst this; exact oc
theorem own_inmI {y : Int32} (hy : ¬ y < 0 ∧ ¬ (255 : Int32) < y) : ¬ inm y = 0 ↔ ∃ n, n < 36 ∧ mkl.getD n 0 = y.toInt8.toInt32 := by
  obtain ⟨h0, h1⟩ := hy
  have e0 : (0 : Int32).toInt = 0 := by decide
  have e255 : (255 : Int32).toInt = 255 := by decide
  rw [Int32.lt_iff_toInt_lt] at h0 h1
  have hy : y = Int32.ofNat y.toInt.toNat := Int32.toInt_inj.mp (by rw [Int32.toInt_ofNat_of_lt (by omega)]; omega)
  have hl : y.toInt.toNat < 256 := by omega
  generalize y.toInt.toNat = n at hy hl
  subst hy
  constructor
  · intro h
    have q := (by decide +kernel : ∀ n : Fin 256, ¬ inm (Int32.ofNat n.val) = 0 → (mkl.contains (Int32.ofNat n.val).toInt8.toInt32) = true) ⟨n, hl⟩ h
    obtain ⟨i, hi, e⟩ := List.getElem_of_mem (List.contains_iff_mem.mp q)
    exact ⟨i, hi, by rw [List.getD_eq_getElem?_getD, List.getElem?_eq_getElem hi]; exact e⟩
  · rintro ⟨i, hi, e⟩
    have hl' : i < mkl.length := hi
    have q : (mkl.contains (Int32.ofNat n).toInt8.toInt32) = true := List.contains_iff_mem.mpr (by rw [← e, List.getD_eq_getElem?_getD, List.getElem?_eq_getElem hl']; exact List.getElem_mem _)
    exact (by decide +kernel : ∀ n : Fin 256, (mkl.contains (Int32.ofNat n.val).toInt8.toInt32) = true → ¬ inm (Int32.ofNat n.val) = 0) ⟨n, hl⟩ q
theorem own_k1 {c0 c1 x ap y : Int32} {n : Nat} (hn : n < 36) (hap : ap = mkl.getD n 0) (hc0 : ¬ c0 < 0 ∧ ¬ (255 : Int32) < c0) (hc1 : ¬ c1 < 0 ∧ ¬ (255 : Int32) < c1) (hy : ¬ y < 0 ∧ ¬ (255 : Int32) < y) (hx : x = ap) : Has (bl ((cl0 c0 c1).set (n + 1) x)) [y.toInt8.toInt32] ↔ ¬ hch y c0 c1 x ap = 0 := by
  have iap : inm ap = 1 := by rw [hap]; exact (own_mkr ⟨n, hn⟩).2.2.2.2.2.2
  have a : ¬ hch y c0 c1 x ap = 0 ↔ y = c0 ∨ y = c1 ∨ ¬ inm y = 0 := by
    subst hx
    unfold hch
    by_cases h1 : y = c0
    · simp [h1]
    · by_cases h2 : y = c1
      · simp [h2]
      · by_cases h3 : y = x
        · rw [if_neg h1, if_neg h2, if_pos h3]; rw [h3, iap]; simp
        · by_cases h4 : inm y = 0
          · rw [if_neg h1, if_neg h2, if_neg h3, if_pos h4]; simp [h1, h2, h4]
          · rw [if_neg h1, if_neg h2, if_neg h3, if_neg h4, if_neg (fun q => h3 q.symm)]; simp [h4]
  rw [a, hx, hap, own_same0 hn, own_hone, own_bll, own_cl0, own_inmI hy]
  constructor
  · rintro ⟨i, hi, e⟩
    rw [own_blg] at e
    by_cases i0 : i = 0
    · subst i0; exact Or.inl ((own_bij hy hc0).mp e)
    · by_cases i1 : i = 37
      · subst i1; exact Or.inr (Or.inl ((own_bij hy hc1).mp e))
      · obtain ⟨k, rfl⟩ : ∃ k, i = k + 1 := ⟨i - 1, by omega⟩
        rw [own_clm (by omega), (own_mkr ⟨k, by omega⟩).2.2.2.1] at e
        exact Or.inr (Or.inr ⟨k, by omega, e⟩)
  · rintro (h | h | ⟨k, hk, e⟩)
    · exact ⟨0, by decide, by rw [own_blg, h]; rfl⟩
    · exact ⟨37, by decide, by rw [own_blg, h]; rfl⟩
    · exact ⟨k + 1, by omega, by rw [own_blg, own_clm hk, (own_mkr ⟨k, hk⟩).2.2.2.1]; exact e⟩
theorem own_k3 {c0 c1 x ap r : Int32} {n : Nat} (hn : n < 36) (hap : ap = mkl.getD n 0) (hr : r = 1) (hx : x = ap) : Has (bl ((cl0 c0 c1).set (n + 1) x)) [83, 101, 110, 100, 101, 114] ↔ ¬ r = 0 := by
  rw [hx, hap, own_same0 hn]
  refine ⟨fun _ => by rw [hr]; decide, fun _ => ⟨18, by rw [own_bll, own_cl0]; decide, fun k hk => ?_⟩⟩
  have h6 : k < 6 := hk
  rw [own_blg, show 18 + k = (17 + k) + 1 by omega, own_clm (by omega)]
  exact (by decide +kernel : ∀ k : Fin 6, (mkl.getD (17 + k.val) 0).toInt8.toInt32 = ([83, 101, 110, 100, 101, 114] : List Int32).getD k.val 0) ⟨k, h6⟩
theorem own_k4 {c0 c1 x ap : Int32} {n : Nat} (hn : n < 36) (hap : ap = mkl.getD n 0) (hx : x = ap) : Has (bl ((cl0 c0 c1).set (n + 1) x)) [82, 101, 99, 101, 105, 118, 101, 114] ↔ ¬ (0 : Int32) = 0 := by
  rw [hx, hap, own_same0 hn]
  refine ⟨?_, fun h => absurd rfl h⟩
  rintro ⟨i, hi, oc⟩
  exfalso
  rw [own_bll, own_cl0] at hi
  have hi8 : i + 8 ≤ 38 := hi
  by_cases i0 : i = 0
  · subst i0
    have q := oc 1 (by decide)
    rw [own_blg, show 0 + 1 = 0 + 1 from rfl, own_clm (by decide)] at q
    revert q; decide
  · obtain ⟨k, rfl⟩ : ∃ k, i = k + 1 := ⟨i - 1, by omega⟩
    have q := oc 0 (by decide)
    rw [own_blg, Nat.add_zero, own_clm (by omega), (own_mkr ⟨k, by omega⟩).2.2.2.1] at q
    exact (own_mkr ⟨k, by omega⟩).2.2.2.2.2.1 q
theorem own_k6 (bs : List Int32) : Has bs bs ↔ ¬ (1 : Int32) = 0 := ⟨fun _ => by decide, fun _ => ⟨0, by omega, fun k _ => by rw [Nat.zero_add]⟩⟩
theorem own_k7 (bs : List Int32) : Has bs [] ↔ ¬ (1 : Int32) = 0 := ⟨fun _ => by decide, fun _ => ⟨0, by simp, fun k hk => absurd hk (Nat.not_lt_zero _)⟩⟩
theorem own_fin {rr st mi rin ex x ap : Int32} {A B : Prop} (hR : (rr = 1 ∧ st = 400 ∧ A ∧ B) ∨ (rr = 0 ∧ ¬ (st = 400 ∧ A ∧ B))) (hA : A ↔ x = ap) (hB : x = ap → (B ↔ ¬ rin = 0)) (hmi : mi = (if x = ap then (1 : Int32) else (0 : Int32)))
    (hex : ex = (if st = (400 : Int32) then (if mi = (0 : Int32) then (0 : Int32) else (if rin = (0 : Int32) then (0 : Int32) else (1 : Int32))) else (0 : Int32))) : rr = ex := by
  rcases hR with ⟨h1, h2, h3, h4⟩ | ⟨h1, h2⟩
  · have hx := hA.mp h3
    have hr := (hB hx).mp h4
    rw [hex, h1, if_pos h2, hmi, if_pos hx, if_neg (by decide), if_neg hr]
  · rw [hex, h1]
    by_cases hs : st = 400
    · rw [if_pos hs]
      by_cases hx : x = ap
      · have hr : rin = 0 := Classical.byContradiction fun q => h2 ⟨hs, hA.mpr hx, (hB hx).mpr q⟩
        rw [hmi, if_pos hx, if_neg (by decide), if_pos hr]
      · rw [hmi, if_neg hx, if_pos rfl]
    · rw [if_neg hs]
set_option maxRecDepth 65536 in
set_option maxHeartbeats 40000000 in
theorem pcfl0 {p : Program} {l : Launch} {e : Env} {s : State} {m : MethodId} {args : Array Value} {below : List Frame} {meth : Method} {c : Code} {T0 : State} {locs : List Loc} {cells slots : Nat} {Z : State} {a0 : Array Value} {h0 : Heap} {n0 : Nat} {p0 p1 p2 p3 st co kd ap xx c0 c1 yd : Int32} {pn qn : Nat} {ms ca : Addr} {kc : ClassId}
    (X0 : Stand p l e room_1 s m args below meth c T0 locs cells slots) (hx : p.tables.exec = Jvm.exec) (hZ : Z.Warmed39 s.vm) (hw : ∀ d ∈ tables_1, d.before a0 Z = true) (hby : c.code = code) (hml : c.maxLocals = 22) (hown : s.vm.findClass "ResponseIsSenderFaultPinLaw" = some m.cls) (hce : cells ≤ room_1.cells) (hsl : slots ≤ room_1.slots) (e0 : T0.heap = h0) (N0 : Fr n0 locs) (Z0 : n0 ≤ h0.size) (A0 : Arv Z h0 ca kc .char (38 : Int32) [(.int (0 : Int32)), (.int (0 : Int32)), (.int (0 : Int32)), (.int (0 : Int32)), (.int (0 : Int32)), (.int (0 : Int32)), (.int (0 : Int32)), (.int (0 : Int32)), (.int (0 : Int32)), (.int (0 : Int32)), (.int (0 : Int32)), (.int (0 : Int32)), (.int (0 : Int32)), (.int (0 : Int32)), (.int (0 : Int32)), (.int (0 : Int32)), (.int (0 : Int32)), (.int (0 : Int32)), (.int (0 : Int32)), (.int (0 : Int32)), (.int (0 : Int32)), (.int (0 : Int32)), (.int (0 : Int32)), (.int (0 : Int32)), (.int (0 : Int32)), (.int (0 : Int32)), (.int (0 : Int32)), (.int (0 : Int32)), (.int (0 : Int32)), (.int (0 : Int32)), (.int (0 : Int32)), (.int (0 : Int32)), (.int (0 : Int32)), (.int (0 : Int32)), (.int (0 : Int32)), (.int (0 : Int32)), (.int (0 : Int32)), (.int (0 : Int32))] (.int (0 : Int32))) (gca : n0 ≤ ca) (hc0 : ¬ c0 < 0 ∧ ¬ (255 : Int32) < c0) (hc1 : ¬ c1 < 0 ∧ ¬ (255 : Int32) < c1) :
    ∃ (T' : State) (h' : Heap) (L' : List Loc), Stand p l e room_1 s m args below meth c T' L' cells slots ∧ T'.heap = h' ∧ Fr n0 L' ∧ Keep h0 h' [ca] ∧ n0 ≤ h'.size ∧ (Arv Z h' ca kc .char (38 : Int32) [(.int c0), (.int (60 : Int32)), (.int (115 : Int32)), (.int (111 : Int32)), (.int (97 : Int32)), (.int (112 : Int32)), (.int (58 : Int32)), (.int (86 : Int32)), (.int (97 : Int32)), (.int (108 : Int32)), (.int (0 : Int32)), (.int (0 : Int32)), (.int (0 : Int32)), (.int (0 : Int32)), (.int (0 : Int32)), (.int (0 : Int32)), (.int (0 : Int32)), (.int (0 : Int32)), (.int (0 : Int32)), (.int (0 : Int32)), (.int (0 : Int32)), (.int (0 : Int32)), (.int (0 : Int32)), (.int (0 : Int32)), (.int (0 : Int32)), (.int (0 : Int32)), (.int (0 : Int32)), (.int (0 : Int32)), (.int (0 : Int32)), (.int (0 : Int32)), (.int (0 : Int32)), (.int (0 : Int32)), (.int (0 : Int32)), (.int (0 : Int32)), (.int (0 : Int32)), (.int (0 : Int32)), (.int (0 : Int32)), (.int (0 : Int32))] (.int (0 : Int32))) ∧ Rch p.tables e below (T0.setTop (mkF m 126 #[.val (.int p0), .val (.int p1), .val (.int p2), .val (.int p3), .val (.ref ms), .val (.int st), .val (.int co), .val (.int kd), .val (.int (Int32.ofNat pn)), .val (.int (Int32.ofNat qn)), .val (.int ap), .val (.int xx), .val (.int c0), .val (.int c1), .val (.int yd), .unset, .unset, .unset, .unset, .unset, .unset, .unset] [(.ref ca)])) (T'.setTop (mkF m 180 #[.val (.int p0), .val (.int p1), .val (.int p2), .val (.int p3), .val (.ref ms), .val (.int st), .val (.int co), .val (.int kd), .val (.int (Int32.ofNat pn)), .val (.int (Int32.ofNat qn)), .val (.int ap), .val (.int xx), .val (.int c0), .val (.int c1), .val (.int yd), .unset, .unset, .unset, .unset, .unset, .unset, .unset] [(.ref ca)])) := by
  have K0 : Keep h0 h0 [ca] := Keep.refl _ _
  have pre0 : Rch p.tables e below (T0.setTop (mkF m 126 #[.val (.int p0), .val (.int p1), .val (.int p2), .val (.int p3), .val (.ref ms), .val (.int st), .val (.int co), .val (.int kd), .val (.int (Int32.ofNat pn)), .val (.int (Int32.ofNat qn)), .val (.int ap), .val (.int xx), .val (.int c0), .val (.int c1), .val (.int yd), .unset, .unset, .unset, .unset, .unset, .unset, .unset] [(.ref ca)])) (T0.setTop (mkF m 126 #[.val (.int p0), .val (.int p1), .val (.int p2), .val (.int p3), .val (.ref ms), .val (.int st), .val (.int co), .val (.int kd), .val (.int (Int32.ofNat pn)), .val (.int (Int32.ofNat qn)), .val (.int ap), .val (.int xx), .val (.int c0), .val (.int c1), .val (.int yd), .unset, .unset, .unset, .unset, .unset, .unset, .unset] [(.ref ca)])) := fun tgt ktg => ktg
  have pre_1 : Rch p.tables e below (T0.setTop (mkF m 126 #[.val (.int p0), .val (.int p1), .val (.int p2), .val (.int p3), .val (.ref ms), .val (.int st), .val (.int co), .val (.int kd), .val (.int (Int32.ofNat pn)), .val (.int (Int32.ofNat qn)), .val (.int ap), .val (.int xx), .val (.int c0), .val (.int c1), .val (.int yd), .unset, .unset, .unset, .unset, .unset, .unset, .unset] [(.ref ca)])) (T0.setTop (mkF m 130 #[.val (.int p0), .val (.int p1), .val (.int p2), .val (.int p3), .val (.ref ms), .val (.int st), .val (.int co), .val (.int kd), .val (.int (Int32.ofNat pn)), .val (.int (Int32.ofNat qn)), .val (.int ap), .val (.int xx), .val (.int c0), .val (.int c1), .val (.int yd), .unset, .unset, .unset, .unset, .unset, .unset, .unset] [(.int c0), (.int (0 : Int32)), (.ref ca), (.ref ca)])) := fun tgt ktg => pre0 tgt (by
    show Steps p.tables e below (T0.setTop (mkF m 126 #[.val (.int p0), .val (.int p1), .val (.int p2), .val (.int p3), .val (.ref ms), .val (.int st), .val (.int co), .val (.int kd), .val (.int (Int32.ofNat pn)), .val (.int (Int32.ofNat qn)), .val (.int ap), .val (.int xx), .val (.int c0), .val (.int c1), .val (.int yd), .unset, .unset, .unset, .unset, .unset, .unset, .unset] [(.ref ca)])) _
    refine XS.dup X0.here hx rfl (hb hby at_126) rfl rfl ?_
    show Steps p.tables e below (T0.setTop (mkF m 127 #[.val (.int p0), .val (.int p1), .val (.int p2), .val (.int p3), .val (.ref ms), .val (.int st), .val (.int co), .val (.int kd), .val (.int (Int32.ofNat pn)), .val (.int (Int32.ofNat qn)), .val (.int ap), .val (.int xx), .val (.int c0), .val (.int c1), .val (.int yd), .unset, .unset, .unset, .unset, .unset, .unset, .unset] [(.ref ca), (.ref ca)])) _
    refine XS.iconst X0.here hx rfl (hb hby at_127) ?_
    show Steps p.tables e below (T0.setTop (mkF m 128 #[.val (.int p0), .val (.int p1), .val (.int p2), .val (.int p3), .val (.ref ms), .val (.int st), .val (.int co), .val (.int kd), .val (.int (Int32.ofNat pn)), .val (.int (Int32.ofNat qn)), .val (.int ap), .val (.int xx), .val (.int c0), .val (.int c1), .val (.int yd), .unset, .unset, .unset, .unset, .unset, .unset, .unset] [(.int (0 : Int32)), (.ref ca), (.ref ca)])) _
    refine XS.iload X0.here hx rfl (hb hby at_128) rfl ?_
    exact ktg)
  obtain ⟨cl__2, Ar__2, q__2, S__2, N__2, H__2, G__2⟩ := id A0
  have hin__2 : ¬ ((0 : Int32) < 0 ∨ cl__2.slots.size ≤ ((0 : Int32)).toNatClampNeg) := inb_of S__2 ⟨by decide, by decide⟩
  obtain ⟨T_3, h_3, X_3, e_3, W_3, st_3⟩ := stC X0 hx hZ e0 Ar__2 (j := (0 : Int32)) hin__2 (g := (mkF m 130 #[.val (.int p0), .val (.int p1), .val (.int p2), .val (.int p3), .val (.ref ms), .val (.int st), .val (.int co), .val (.int kd), .val (.int (Int32.ofNat pn)), .val (.int (Int32.ofNat qn)), .val (.int ap), .val (.int xx), .val (.int c0), .val (.int c1), .val (.int yd), .unset, .unset, .unset, .unset, .unset, .unset, .unset] [(.int c0), (.int (0 : Int32)), (.ref ca), (.ref ca)])) rfl rfl (hb hby at_130)
  have pre_3 : Rch p.tables e below (T0.setTop (mkF m 126 #[.val (.int p0), .val (.int p1), .val (.int p2), .val (.int p3), .val (.ref ms), .val (.int st), .val (.int co), .val (.int kd), .val (.int (Int32.ofNat pn)), .val (.int (Int32.ofNat qn)), .val (.int ap), .val (.int xx), .val (.int c0), .val (.int c1), .val (.int yd), .unset, .unset, .unset, .unset, .unset, .unset, .unset] [(.ref ca)])) (T_3.setTop (mkF m 131 #[.val (.int p0), .val (.int p1), .val (.int p2), .val (.int p3), .val (.ref ms), .val (.int st), .val (.int co), .val (.int kd), .val (.int (Int32.ofNat pn)), .val (.int (Int32.ofNat qn)), .val (.int ap), .val (.int xx), .val (.int c0), .val (.int c1), .val (.int yd), .unset, .unset, .unset, .unset, .unset, .unset, .unset] [(.ref ca)])) := fun tgt ktg => pre_1 tgt (st_3 tgt ktg)
  have z_4 : n0 ≤ h_3.size := Nat.le_trans Z0 (Keep.of_wr W_3).1
  have K_5 : Keep h0 h_3 [ca] := K0.wr W_3 (Or.inl (List.mem_of_getElem? (i := 0) rfl))
  have f_6 : Arv Z h_3 ca kc .char (38 : Int32) [(.int (nar .char c0)), (.int (0 : Int32)), (.int (0 : Int32)), (.int (0 : Int32)), (.int (0 : Int32)), (.int (0 : Int32)), (.int (0 : Int32)), (.int (0 : Int32)), (.int (0 : Int32)), (.int (0 : Int32)), (.int (0 : Int32)), (.int (0 : Int32)), (.int (0 : Int32)), (.int (0 : Int32)), (.int (0 : Int32)), (.int (0 : Int32)), (.int (0 : Int32)), (.int (0 : Int32)), (.int (0 : Int32)), (.int (0 : Int32)), (.int (0 : Int32)), (.int (0 : Int32)), (.int (0 : Int32)), (.int (0 : Int32)), (.int (0 : Int32)), (.int (0 : Int32)), (.int (0 : Int32)), (.int (0 : Int32)), (.int (0 : Int32)), (.int (0 : Int32)), (.int (0 : Int32)), (.int (0 : Int32)), (.int (0 : Int32)), (.int (0 : Int32)), (.int (0 : Int32)), (.int (0 : Int32)), (.int (0 : Int32)), (.int (0 : Int32))] (.int (0 : Int32)) := Arv.set Ar__2 q__2 S__2 N__2 H__2 G__2 (fits_nar_char _) W_3 0 rfl (Nat.le_of_ble_eq_true rfl)
  have N_7 := Fr.snoc X_3 N0 gca
  rw [own_narc hc0.1 hc0.2] at f_6
  have pre_8 : Rch p.tables e below (T0.setTop (mkF m 126 #[.val (.int p0), .val (.int p1), .val (.int p2), .val (.int p3), .val (.ref ms), .val (.int st), .val (.int co), .val (.int kd), .val (.int (Int32.ofNat pn)), .val (.int (Int32.ofNat qn)), .val (.int ap), .val (.int xx), .val (.int c0), .val (.int c1), .val (.int yd), .unset, .unset, .unset, .unset, .unset, .unset, .unset] [(.ref ca)])) (T_3.setTop (mkF m 135 #[.val (.int p0), .val (.int p1), .val (.int p2), .val (.int p3), .val (.ref ms), .val (.int st), .val (.int co), .val (.int kd), .val (.int (Int32.ofNat pn)), .val (.int (Int32.ofNat qn)), .val (.int ap), .val (.int xx), .val (.int c0), .val (.int c1), .val (.int yd), .unset, .unset, .unset, .unset, .unset, .unset, .unset] [(.int (60 : Int32)), (.int (1 : Int32)), (.ref ca), (.ref ca)])) := fun tgt ktg => pre_3 tgt (by
    show Steps p.tables e below (T_3.setTop (mkF m 131 #[.val (.int p0), .val (.int p1), .val (.int p2), .val (.int p3), .val (.ref ms), .val (.int st), .val (.int co), .val (.int kd), .val (.int (Int32.ofNat pn)), .val (.int (Int32.ofNat qn)), .val (.int ap), .val (.int xx), .val (.int c0), .val (.int c1), .val (.int yd), .unset, .unset, .unset, .unset, .unset, .unset, .unset] [(.ref ca)])) _
    refine XS.dup X_3.here hx rfl (hb hby at_131) rfl rfl ?_
    show Steps p.tables e below (T_3.setTop (mkF m 132 #[.val (.int p0), .val (.int p1), .val (.int p2), .val (.int p3), .val (.ref ms), .val (.int st), .val (.int co), .val (.int kd), .val (.int (Int32.ofNat pn)), .val (.int (Int32.ofNat qn)), .val (.int ap), .val (.int xx), .val (.int c0), .val (.int c1), .val (.int yd), .unset, .unset, .unset, .unset, .unset, .unset, .unset] [(.ref ca), (.ref ca)])) _
    refine XS.iconst X_3.here hx rfl (hb hby at_132) ?_
    show Steps p.tables e below (T_3.setTop (mkF m 133 #[.val (.int p0), .val (.int p1), .val (.int p2), .val (.int p3), .val (.ref ms), .val (.int st), .val (.int co), .val (.int kd), .val (.int (Int32.ofNat pn)), .val (.int (Int32.ofNat qn)), .val (.int ap), .val (.int xx), .val (.int c0), .val (.int c1), .val (.int yd), .unset, .unset, .unset, .unset, .unset, .unset, .unset] [(.int (1 : Int32)), (.ref ca), (.ref ca)])) _
    refine XS.bipush X_3.here hx rfl (hb hby at_133) ?_
    exact ktg)
  obtain ⟨cl__9, Ar__9, q__9, S__9, N__9, H__9, G__9⟩ := id f_6
  have hin__9 : ¬ ((1 : Int32) < 0 ∨ cl__9.slots.size ≤ ((1 : Int32)).toNatClampNeg) := inb_of S__9 ⟨by decide, by decide⟩
  obtain ⟨T_10, h_10, X_10, e_10, W_10, st_10⟩ := stC X_3 hx hZ e_3 Ar__9 (j := (1 : Int32)) hin__9 (g := (mkF m 135 #[.val (.int p0), .val (.int p1), .val (.int p2), .val (.int p3), .val (.ref ms), .val (.int st), .val (.int co), .val (.int kd), .val (.int (Int32.ofNat pn)), .val (.int (Int32.ofNat qn)), .val (.int ap), .val (.int xx), .val (.int c0), .val (.int c1), .val (.int yd), .unset, .unset, .unset, .unset, .unset, .unset, .unset] [(.int (60 : Int32)), (.int (1 : Int32)), (.ref ca), (.ref ca)])) rfl rfl (hb hby at_135)
  have pre_10 : Rch p.tables e below (T0.setTop (mkF m 126 #[.val (.int p0), .val (.int p1), .val (.int p2), .val (.int p3), .val (.ref ms), .val (.int st), .val (.int co), .val (.int kd), .val (.int (Int32.ofNat pn)), .val (.int (Int32.ofNat qn)), .val (.int ap), .val (.int xx), .val (.int c0), .val (.int c1), .val (.int yd), .unset, .unset, .unset, .unset, .unset, .unset, .unset] [(.ref ca)])) (T_10.setTop (mkF m 136 #[.val (.int p0), .val (.int p1), .val (.int p2), .val (.int p3), .val (.ref ms), .val (.int st), .val (.int co), .val (.int kd), .val (.int (Int32.ofNat pn)), .val (.int (Int32.ofNat qn)), .val (.int ap), .val (.int xx), .val (.int c0), .val (.int c1), .val (.int yd), .unset, .unset, .unset, .unset, .unset, .unset, .unset] [(.ref ca)])) := fun tgt ktg => pre_8 tgt (st_10 tgt ktg)
  have z_11 : n0 ≤ h_10.size := Nat.le_trans z_4 (Keep.of_wr W_10).1
  have K_12 : Keep h0 h_10 [ca] := K_5.wr W_10 (Or.inl (List.mem_of_getElem? (i := 0) rfl))
  have f_13 : Arv Z h_10 ca kc .char (38 : Int32) [(.int c0), (.int (nar .char (60 : Int32))), (.int (0 : Int32)), (.int (0 : Int32)), (.int (0 : Int32)), (.int (0 : Int32)), (.int (0 : Int32)), (.int (0 : Int32)), (.int (0 : Int32)), (.int (0 : Int32)), (.int (0 : Int32)), (.int (0 : Int32)), (.int (0 : Int32)), (.int (0 : Int32)), (.int (0 : Int32)), (.int (0 : Int32)), (.int (0 : Int32)), (.int (0 : Int32)), (.int (0 : Int32)), (.int (0 : Int32)), (.int (0 : Int32)), (.int (0 : Int32)), (.int (0 : Int32)), (.int (0 : Int32)), (.int (0 : Int32)), (.int (0 : Int32)), (.int (0 : Int32)), (.int (0 : Int32)), (.int (0 : Int32)), (.int (0 : Int32)), (.int (0 : Int32)), (.int (0 : Int32)), (.int (0 : Int32)), (.int (0 : Int32)), (.int (0 : Int32)), (.int (0 : Int32)), (.int (0 : Int32)), (.int (0 : Int32))] (.int (0 : Int32)) := Arv.set Ar__9 q__9 S__9 N__9 H__9 G__9 (fits_nar_char _) W_10 1 rfl (Nat.le_of_ble_eq_true rfl)
  have N_14 := Fr.snoc X_10 N_7 gca
  rw [(by decide : nar .char (60 : Int32) = (60 : Int32))] at f_13
  have pre_15 : Rch p.tables e below (T0.setTop (mkF m 126 #[.val (.int p0), .val (.int p1), .val (.int p2), .val (.int p3), .val (.ref ms), .val (.int st), .val (.int co), .val (.int kd), .val (.int (Int32.ofNat pn)), .val (.int (Int32.ofNat qn)), .val (.int ap), .val (.int xx), .val (.int c0), .val (.int c1), .val (.int yd), .unset, .unset, .unset, .unset, .unset, .unset, .unset] [(.ref ca)])) (T_10.setTop (mkF m 140 #[.val (.int p0), .val (.int p1), .val (.int p2), .val (.int p3), .val (.ref ms), .val (.int st), .val (.int co), .val (.int kd), .val (.int (Int32.ofNat pn)), .val (.int (Int32.ofNat qn)), .val (.int ap), .val (.int xx), .val (.int c0), .val (.int c1), .val (.int yd), .unset, .unset, .unset, .unset, .unset, .unset, .unset] [(.int (115 : Int32)), (.int (2 : Int32)), (.ref ca), (.ref ca)])) := fun tgt ktg => pre_10 tgt (by
    show Steps p.tables e below (T_10.setTop (mkF m 136 #[.val (.int p0), .val (.int p1), .val (.int p2), .val (.int p3), .val (.ref ms), .val (.int st), .val (.int co), .val (.int kd), .val (.int (Int32.ofNat pn)), .val (.int (Int32.ofNat qn)), .val (.int ap), .val (.int xx), .val (.int c0), .val (.int c1), .val (.int yd), .unset, .unset, .unset, .unset, .unset, .unset, .unset] [(.ref ca)])) _
    refine XS.dup X_10.here hx rfl (hb hby at_136) rfl rfl ?_
    show Steps p.tables e below (T_10.setTop (mkF m 137 #[.val (.int p0), .val (.int p1), .val (.int p2), .val (.int p3), .val (.ref ms), .val (.int st), .val (.int co), .val (.int kd), .val (.int (Int32.ofNat pn)), .val (.int (Int32.ofNat qn)), .val (.int ap), .val (.int xx), .val (.int c0), .val (.int c1), .val (.int yd), .unset, .unset, .unset, .unset, .unset, .unset, .unset] [(.ref ca), (.ref ca)])) _
    refine XS.iconst X_10.here hx rfl (hb hby at_137) ?_
    show Steps p.tables e below (T_10.setTop (mkF m 138 #[.val (.int p0), .val (.int p1), .val (.int p2), .val (.int p3), .val (.ref ms), .val (.int st), .val (.int co), .val (.int kd), .val (.int (Int32.ofNat pn)), .val (.int (Int32.ofNat qn)), .val (.int ap), .val (.int xx), .val (.int c0), .val (.int c1), .val (.int yd), .unset, .unset, .unset, .unset, .unset, .unset, .unset] [(.int (2 : Int32)), (.ref ca), (.ref ca)])) _
    refine XS.bipush X_10.here hx rfl (hb hby at_138) ?_
    exact ktg)
  obtain ⟨cl__16, Ar__16, q__16, S__16, N__16, H__16, G__16⟩ := id f_13
  have hin__16 : ¬ ((2 : Int32) < 0 ∨ cl__16.slots.size ≤ ((2 : Int32)).toNatClampNeg) := inb_of S__16 ⟨by decide, by decide⟩
  obtain ⟨T_17, h_17, X_17, e_17, W_17, st_17⟩ := stC X_10 hx hZ e_10 Ar__16 (j := (2 : Int32)) hin__16 (g := (mkF m 140 #[.val (.int p0), .val (.int p1), .val (.int p2), .val (.int p3), .val (.ref ms), .val (.int st), .val (.int co), .val (.int kd), .val (.int (Int32.ofNat pn)), .val (.int (Int32.ofNat qn)), .val (.int ap), .val (.int xx), .val (.int c0), .val (.int c1), .val (.int yd), .unset, .unset, .unset, .unset, .unset, .unset, .unset] [(.int (115 : Int32)), (.int (2 : Int32)), (.ref ca), (.ref ca)])) rfl rfl (hb hby at_140)
  have pre_17 : Rch p.tables e below (T0.setTop (mkF m 126 #[.val (.int p0), .val (.int p1), .val (.int p2), .val (.int p3), .val (.ref ms), .val (.int st), .val (.int co), .val (.int kd), .val (.int (Int32.ofNat pn)), .val (.int (Int32.ofNat qn)), .val (.int ap), .val (.int xx), .val (.int c0), .val (.int c1), .val (.int yd), .unset, .unset, .unset, .unset, .unset, .unset, .unset] [(.ref ca)])) (T_17.setTop (mkF m 141 #[.val (.int p0), .val (.int p1), .val (.int p2), .val (.int p3), .val (.ref ms), .val (.int st), .val (.int co), .val (.int kd), .val (.int (Int32.ofNat pn)), .val (.int (Int32.ofNat qn)), .val (.int ap), .val (.int xx), .val (.int c0), .val (.int c1), .val (.int yd), .unset, .unset, .unset, .unset, .unset, .unset, .unset] [(.ref ca)])) := fun tgt ktg => pre_15 tgt (st_17 tgt ktg)
  have z_18 : n0 ≤ h_17.size := Nat.le_trans z_11 (Keep.of_wr W_17).1
  have K_19 : Keep h0 h_17 [ca] := K_12.wr W_17 (Or.inl (List.mem_of_getElem? (i := 0) rfl))
  have f_20 : Arv Z h_17 ca kc .char (38 : Int32) [(.int c0), (.int (60 : Int32)), (.int (nar .char (115 : Int32))), (.int (0 : Int32)), (.int (0 : Int32)), (.int (0 : Int32)), (.int (0 : Int32)), (.int (0 : Int32)), (.int (0 : Int32)), (.int (0 : Int32)), (.int (0 : Int32)), (.int (0 : Int32)), (.int (0 : Int32)), (.int (0 : Int32)), (.int (0 : Int32)), (.int (0 : Int32)), (.int (0 : Int32)), (.int (0 : Int32)), (.int (0 : Int32)), (.int (0 : Int32)), (.int (0 : Int32)), (.int (0 : Int32)), (.int (0 : Int32)), (.int (0 : Int32)), (.int (0 : Int32)), (.int (0 : Int32)), (.int (0 : Int32)), (.int (0 : Int32)), (.int (0 : Int32)), (.int (0 : Int32)), (.int (0 : Int32)), (.int (0 : Int32)), (.int (0 : Int32)), (.int (0 : Int32)), (.int (0 : Int32)), (.int (0 : Int32)), (.int (0 : Int32)), (.int (0 : Int32))] (.int (0 : Int32)) := Arv.set Ar__16 q__16 S__16 N__16 H__16 G__16 (fits_nar_char _) W_17 2 rfl (Nat.le_of_ble_eq_true rfl)
  have N_21 := Fr.snoc X_17 N_14 gca
  rw [(by decide : nar .char (115 : Int32) = (115 : Int32))] at f_20
  have pre_22 : Rch p.tables e below (T0.setTop (mkF m 126 #[.val (.int p0), .val (.int p1), .val (.int p2), .val (.int p3), .val (.ref ms), .val (.int st), .val (.int co), .val (.int kd), .val (.int (Int32.ofNat pn)), .val (.int (Int32.ofNat qn)), .val (.int ap), .val (.int xx), .val (.int c0), .val (.int c1), .val (.int yd), .unset, .unset, .unset, .unset, .unset, .unset, .unset] [(.ref ca)])) (T_17.setTop (mkF m 145 #[.val (.int p0), .val (.int p1), .val (.int p2), .val (.int p3), .val (.ref ms), .val (.int st), .val (.int co), .val (.int kd), .val (.int (Int32.ofNat pn)), .val (.int (Int32.ofNat qn)), .val (.int ap), .val (.int xx), .val (.int c0), .val (.int c1), .val (.int yd), .unset, .unset, .unset, .unset, .unset, .unset, .unset] [(.int (111 : Int32)), (.int (3 : Int32)), (.ref ca), (.ref ca)])) := fun tgt ktg => pre_17 tgt (by
    show Steps p.tables e below (T_17.setTop (mkF m 141 #[.val (.int p0), .val (.int p1), .val (.int p2), .val (.int p3), .val (.ref ms), .val (.int st), .val (.int co), .val (.int kd), .val (.int (Int32.ofNat pn)), .val (.int (Int32.ofNat qn)), .val (.int ap), .val (.int xx), .val (.int c0), .val (.int c1), .val (.int yd), .unset, .unset, .unset, .unset, .unset, .unset, .unset] [(.ref ca)])) _
    refine XS.dup X_17.here hx rfl (hb hby at_141) rfl rfl ?_
    show Steps p.tables e below (T_17.setTop (mkF m 142 #[.val (.int p0), .val (.int p1), .val (.int p2), .val (.int p3), .val (.ref ms), .val (.int st), .val (.int co), .val (.int kd), .val (.int (Int32.ofNat pn)), .val (.int (Int32.ofNat qn)), .val (.int ap), .val (.int xx), .val (.int c0), .val (.int c1), .val (.int yd), .unset, .unset, .unset, .unset, .unset, .unset, .unset] [(.ref ca), (.ref ca)])) _
    refine XS.iconst X_17.here hx rfl (hb hby at_142) ?_
    show Steps p.tables e below (T_17.setTop (mkF m 143 #[.val (.int p0), .val (.int p1), .val (.int p2), .val (.int p3), .val (.ref ms), .val (.int st), .val (.int co), .val (.int kd), .val (.int (Int32.ofNat pn)), .val (.int (Int32.ofNat qn)), .val (.int ap), .val (.int xx), .val (.int c0), .val (.int c1), .val (.int yd), .unset, .unset, .unset, .unset, .unset, .unset, .unset] [(.int (3 : Int32)), (.ref ca), (.ref ca)])) _
    refine XS.bipush X_17.here hx rfl (hb hby at_143) ?_
    exact ktg)
  obtain ⟨cl__23, Ar__23, q__23, S__23, N__23, H__23, G__23⟩ := id f_20
  have hin__23 : ¬ ((3 : Int32) < 0 ∨ cl__23.slots.size ≤ ((3 : Int32)).toNatClampNeg) := inb_of S__23 ⟨by decide, by decide⟩
  obtain ⟨T_24, h_24, X_24, e_24, W_24, st_24⟩ := stC X_17 hx hZ e_17 Ar__23 (j := (3 : Int32)) hin__23 (g := (mkF m 145 #[.val (.int p0), .val (.int p1), .val (.int p2), .val (.int p3), .val (.ref ms), .val (.int st), .val (.int co), .val (.int kd), .val (.int (Int32.ofNat pn)), .val (.int (Int32.ofNat qn)), .val (.int ap), .val (.int xx), .val (.int c0), .val (.int c1), .val (.int yd), .unset, .unset, .unset, .unset, .unset, .unset, .unset] [(.int (111 : Int32)), (.int (3 : Int32)), (.ref ca), (.ref ca)])) rfl rfl (hb hby at_145)
  have pre_24 : Rch p.tables e below (T0.setTop (mkF m 126 #[.val (.int p0), .val (.int p1), .val (.int p2), .val (.int p3), .val (.ref ms), .val (.int st), .val (.int co), .val (.int kd), .val (.int (Int32.ofNat pn)), .val (.int (Int32.ofNat qn)), .val (.int ap), .val (.int xx), .val (.int c0), .val (.int c1), .val (.int yd), .unset, .unset, .unset, .unset, .unset, .unset, .unset] [(.ref ca)])) (T_24.setTop (mkF m 146 #[.val (.int p0), .val (.int p1), .val (.int p2), .val (.int p3), .val (.ref ms), .val (.int st), .val (.int co), .val (.int kd), .val (.int (Int32.ofNat pn)), .val (.int (Int32.ofNat qn)), .val (.int ap), .val (.int xx), .val (.int c0), .val (.int c1), .val (.int yd), .unset, .unset, .unset, .unset, .unset, .unset, .unset] [(.ref ca)])) := fun tgt ktg => pre_22 tgt (st_24 tgt ktg)
  have z_25 : n0 ≤ h_24.size := Nat.le_trans z_18 (Keep.of_wr W_24).1
  have K_26 : Keep h0 h_24 [ca] := K_19.wr W_24 (Or.inl (List.mem_of_getElem? (i := 0) rfl))
  have f_27 : Arv Z h_24 ca kc .char (38 : Int32) [(.int c0), (.int (60 : Int32)), (.int (115 : Int32)), (.int (nar .char (111 : Int32))), (.int (0 : Int32)), (.int (0 : Int32)), (.int (0 : Int32)), (.int (0 : Int32)), (.int (0 : Int32)), (.int (0 : Int32)), (.int (0 : Int32)), (.int (0 : Int32)), (.int (0 : Int32)), (.int (0 : Int32)), (.int (0 : Int32)), (.int (0 : Int32)), (.int (0 : Int32)), (.int (0 : Int32)), (.int (0 : Int32)), (.int (0 : Int32)), (.int (0 : Int32)), (.int (0 : Int32)), (.int (0 : Int32)), (.int (0 : Int32)), (.int (0 : Int32)), (.int (0 : Int32)), (.int (0 : Int32)), (.int (0 : Int32)), (.int (0 : Int32)), (.int (0 : Int32)), (.int (0 : Int32)), (.int (0 : Int32)), (.int (0 : Int32)), (.int (0 : Int32)), (.int (0 : Int32)), (.int (0 : Int32)), (.int (0 : Int32)), (.int (0 : Int32))] (.int (0 : Int32)) := Arv.set Ar__23 q__23 S__23 N__23 H__23 G__23 (fits_nar_char _) W_24 3 rfl (Nat.le_of_ble_eq_true rfl)
  have N_28 := Fr.snoc X_24 N_21 gca
  rw [(by decide : nar .char (111 : Int32) = (111 : Int32))] at f_27
  have pre_29 : Rch p.tables e below (T0.setTop (mkF m 126 #[.val (.int p0), .val (.int p1), .val (.int p2), .val (.int p3), .val (.ref ms), .val (.int st), .val (.int co), .val (.int kd), .val (.int (Int32.ofNat pn)), .val (.int (Int32.ofNat qn)), .val (.int ap), .val (.int xx), .val (.int c0), .val (.int c1), .val (.int yd), .unset, .unset, .unset, .unset, .unset, .unset, .unset] [(.ref ca)])) (T_24.setTop (mkF m 150 #[.val (.int p0), .val (.int p1), .val (.int p2), .val (.int p3), .val (.ref ms), .val (.int st), .val (.int co), .val (.int kd), .val (.int (Int32.ofNat pn)), .val (.int (Int32.ofNat qn)), .val (.int ap), .val (.int xx), .val (.int c0), .val (.int c1), .val (.int yd), .unset, .unset, .unset, .unset, .unset, .unset, .unset] [(.int (97 : Int32)), (.int (4 : Int32)), (.ref ca), (.ref ca)])) := fun tgt ktg => pre_24 tgt (by
    show Steps p.tables e below (T_24.setTop (mkF m 146 #[.val (.int p0), .val (.int p1), .val (.int p2), .val (.int p3), .val (.ref ms), .val (.int st), .val (.int co), .val (.int kd), .val (.int (Int32.ofNat pn)), .val (.int (Int32.ofNat qn)), .val (.int ap), .val (.int xx), .val (.int c0), .val (.int c1), .val (.int yd), .unset, .unset, .unset, .unset, .unset, .unset, .unset] [(.ref ca)])) _
    refine XS.dup X_24.here hx rfl (hb hby at_146) rfl rfl ?_
    show Steps p.tables e below (T_24.setTop (mkF m 147 #[.val (.int p0), .val (.int p1), .val (.int p2), .val (.int p3), .val (.ref ms), .val (.int st), .val (.int co), .val (.int kd), .val (.int (Int32.ofNat pn)), .val (.int (Int32.ofNat qn)), .val (.int ap), .val (.int xx), .val (.int c0), .val (.int c1), .val (.int yd), .unset, .unset, .unset, .unset, .unset, .unset, .unset] [(.ref ca), (.ref ca)])) _
    refine XS.iconst X_24.here hx rfl (hb hby at_147) ?_
    show Steps p.tables e below (T_24.setTop (mkF m 148 #[.val (.int p0), .val (.int p1), .val (.int p2), .val (.int p3), .val (.ref ms), .val (.int st), .val (.int co), .val (.int kd), .val (.int (Int32.ofNat pn)), .val (.int (Int32.ofNat qn)), .val (.int ap), .val (.int xx), .val (.int c0), .val (.int c1), .val (.int yd), .unset, .unset, .unset, .unset, .unset, .unset, .unset] [(.int (4 : Int32)), (.ref ca), (.ref ca)])) _
    refine XS.bipush X_24.here hx rfl (hb hby at_148) ?_
    exact ktg)
  obtain ⟨cl__30, Ar__30, q__30, S__30, N__30, H__30, G__30⟩ := id f_27
  have hin__30 : ¬ ((4 : Int32) < 0 ∨ cl__30.slots.size ≤ ((4 : Int32)).toNatClampNeg) := inb_of S__30 ⟨by decide, by decide⟩
  obtain ⟨T_31, h_31, X_31, e_31, W_31, st_31⟩ := stC X_24 hx hZ e_24 Ar__30 (j := (4 : Int32)) hin__30 (g := (mkF m 150 #[.val (.int p0), .val (.int p1), .val (.int p2), .val (.int p3), .val (.ref ms), .val (.int st), .val (.int co), .val (.int kd), .val (.int (Int32.ofNat pn)), .val (.int (Int32.ofNat qn)), .val (.int ap), .val (.int xx), .val (.int c0), .val (.int c1), .val (.int yd), .unset, .unset, .unset, .unset, .unset, .unset, .unset] [(.int (97 : Int32)), (.int (4 : Int32)), (.ref ca), (.ref ca)])) rfl rfl (hb hby at_150)
  have pre_31 : Rch p.tables e below (T0.setTop (mkF m 126 #[.val (.int p0), .val (.int p1), .val (.int p2), .val (.int p3), .val (.ref ms), .val (.int st), .val (.int co), .val (.int kd), .val (.int (Int32.ofNat pn)), .val (.int (Int32.ofNat qn)), .val (.int ap), .val (.int xx), .val (.int c0), .val (.int c1), .val (.int yd), .unset, .unset, .unset, .unset, .unset, .unset, .unset] [(.ref ca)])) (T_31.setTop (mkF m 151 #[.val (.int p0), .val (.int p1), .val (.int p2), .val (.int p3), .val (.ref ms), .val (.int st), .val (.int co), .val (.int kd), .val (.int (Int32.ofNat pn)), .val (.int (Int32.ofNat qn)), .val (.int ap), .val (.int xx), .val (.int c0), .val (.int c1), .val (.int yd), .unset, .unset, .unset, .unset, .unset, .unset, .unset] [(.ref ca)])) := fun tgt ktg => pre_29 tgt (st_31 tgt ktg)
  have z_32 : n0 ≤ h_31.size := Nat.le_trans z_25 (Keep.of_wr W_31).1
  have K_33 : Keep h0 h_31 [ca] := K_26.wr W_31 (Or.inl (List.mem_of_getElem? (i := 0) rfl))
  have f_34 : Arv Z h_31 ca kc .char (38 : Int32) [(.int c0), (.int (60 : Int32)), (.int (115 : Int32)), (.int (111 : Int32)), (.int (nar .char (97 : Int32))), (.int (0 : Int32)), (.int (0 : Int32)), (.int (0 : Int32)), (.int (0 : Int32)), (.int (0 : Int32)), (.int (0 : Int32)), (.int (0 : Int32)), (.int (0 : Int32)), (.int (0 : Int32)), (.int (0 : Int32)), (.int (0 : Int32)), (.int (0 : Int32)), (.int (0 : Int32)), (.int (0 : Int32)), (.int (0 : Int32)), (.int (0 : Int32)), (.int (0 : Int32)), (.int (0 : Int32)), (.int (0 : Int32)), (.int (0 : Int32)), (.int (0 : Int32)), (.int (0 : Int32)), (.int (0 : Int32)), (.int (0 : Int32)), (.int (0 : Int32)), (.int (0 : Int32)), (.int (0 : Int32)), (.int (0 : Int32)), (.int (0 : Int32)), (.int (0 : Int32)), (.int (0 : Int32)), (.int (0 : Int32)), (.int (0 : Int32))] (.int (0 : Int32)) := Arv.set Ar__30 q__30 S__30 N__30 H__30 G__30 (fits_nar_char _) W_31 4 rfl (Nat.le_of_ble_eq_true rfl)
  have N_35 := Fr.snoc X_31 N_28 gca
  rw [(by decide : nar .char (97 : Int32) = (97 : Int32))] at f_34
  have pre_36 : Rch p.tables e below (T0.setTop (mkF m 126 #[.val (.int p0), .val (.int p1), .val (.int p2), .val (.int p3), .val (.ref ms), .val (.int st), .val (.int co), .val (.int kd), .val (.int (Int32.ofNat pn)), .val (.int (Int32.ofNat qn)), .val (.int ap), .val (.int xx), .val (.int c0), .val (.int c1), .val (.int yd), .unset, .unset, .unset, .unset, .unset, .unset, .unset] [(.ref ca)])) (T_31.setTop (mkF m 155 #[.val (.int p0), .val (.int p1), .val (.int p2), .val (.int p3), .val (.ref ms), .val (.int st), .val (.int co), .val (.int kd), .val (.int (Int32.ofNat pn)), .val (.int (Int32.ofNat qn)), .val (.int ap), .val (.int xx), .val (.int c0), .val (.int c1), .val (.int yd), .unset, .unset, .unset, .unset, .unset, .unset, .unset] [(.int (112 : Int32)), (.int (5 : Int32)), (.ref ca), (.ref ca)])) := fun tgt ktg => pre_31 tgt (by
    show Steps p.tables e below (T_31.setTop (mkF m 151 #[.val (.int p0), .val (.int p1), .val (.int p2), .val (.int p3), .val (.ref ms), .val (.int st), .val (.int co), .val (.int kd), .val (.int (Int32.ofNat pn)), .val (.int (Int32.ofNat qn)), .val (.int ap), .val (.int xx), .val (.int c0), .val (.int c1), .val (.int yd), .unset, .unset, .unset, .unset, .unset, .unset, .unset] [(.ref ca)])) _
    refine XS.dup X_31.here hx rfl (hb hby at_151) rfl rfl ?_
    show Steps p.tables e below (T_31.setTop (mkF m 152 #[.val (.int p0), .val (.int p1), .val (.int p2), .val (.int p3), .val (.ref ms), .val (.int st), .val (.int co), .val (.int kd), .val (.int (Int32.ofNat pn)), .val (.int (Int32.ofNat qn)), .val (.int ap), .val (.int xx), .val (.int c0), .val (.int c1), .val (.int yd), .unset, .unset, .unset, .unset, .unset, .unset, .unset] [(.ref ca), (.ref ca)])) _
    refine XS.iconst X_31.here hx rfl (hb hby at_152) ?_
    show Steps p.tables e below (T_31.setTop (mkF m 153 #[.val (.int p0), .val (.int p1), .val (.int p2), .val (.int p3), .val (.ref ms), .val (.int st), .val (.int co), .val (.int kd), .val (.int (Int32.ofNat pn)), .val (.int (Int32.ofNat qn)), .val (.int ap), .val (.int xx), .val (.int c0), .val (.int c1), .val (.int yd), .unset, .unset, .unset, .unset, .unset, .unset, .unset] [(.int (5 : Int32)), (.ref ca), (.ref ca)])) _
    refine XS.bipush X_31.here hx rfl (hb hby at_153) ?_
    exact ktg)
  obtain ⟨cl__37, Ar__37, q__37, S__37, N__37, H__37, G__37⟩ := id f_34
  have hin__37 : ¬ ((5 : Int32) < 0 ∨ cl__37.slots.size ≤ ((5 : Int32)).toNatClampNeg) := inb_of S__37 ⟨by decide, by decide⟩
  obtain ⟨T_38, h_38, X_38, e_38, W_38, st_38⟩ := stC X_31 hx hZ e_31 Ar__37 (j := (5 : Int32)) hin__37 (g := (mkF m 155 #[.val (.int p0), .val (.int p1), .val (.int p2), .val (.int p3), .val (.ref ms), .val (.int st), .val (.int co), .val (.int kd), .val (.int (Int32.ofNat pn)), .val (.int (Int32.ofNat qn)), .val (.int ap), .val (.int xx), .val (.int c0), .val (.int c1), .val (.int yd), .unset, .unset, .unset, .unset, .unset, .unset, .unset] [(.int (112 : Int32)), (.int (5 : Int32)), (.ref ca), (.ref ca)])) rfl rfl (hb hby at_155)
  have pre_38 : Rch p.tables e below (T0.setTop (mkF m 126 #[.val (.int p0), .val (.int p1), .val (.int p2), .val (.int p3), .val (.ref ms), .val (.int st), .val (.int co), .val (.int kd), .val (.int (Int32.ofNat pn)), .val (.int (Int32.ofNat qn)), .val (.int ap), .val (.int xx), .val (.int c0), .val (.int c1), .val (.int yd), .unset, .unset, .unset, .unset, .unset, .unset, .unset] [(.ref ca)])) (T_38.setTop (mkF m 156 #[.val (.int p0), .val (.int p1), .val (.int p2), .val (.int p3), .val (.ref ms), .val (.int st), .val (.int co), .val (.int kd), .val (.int (Int32.ofNat pn)), .val (.int (Int32.ofNat qn)), .val (.int ap), .val (.int xx), .val (.int c0), .val (.int c1), .val (.int yd), .unset, .unset, .unset, .unset, .unset, .unset, .unset] [(.ref ca)])) := fun tgt ktg => pre_36 tgt (st_38 tgt ktg)
  have z_39 : n0 ≤ h_38.size := Nat.le_trans z_32 (Keep.of_wr W_38).1
  have K_40 : Keep h0 h_38 [ca] := K_33.wr W_38 (Or.inl (List.mem_of_getElem? (i := 0) rfl))
  have f_41 : Arv Z h_38 ca kc .char (38 : Int32) [(.int c0), (.int (60 : Int32)), (.int (115 : Int32)), (.int (111 : Int32)), (.int (97 : Int32)), (.int (nar .char (112 : Int32))), (.int (0 : Int32)), (.int (0 : Int32)), (.int (0 : Int32)), (.int (0 : Int32)), (.int (0 : Int32)), (.int (0 : Int32)), (.int (0 : Int32)), (.int (0 : Int32)), (.int (0 : Int32)), (.int (0 : Int32)), (.int (0 : Int32)), (.int (0 : Int32)), (.int (0 : Int32)), (.int (0 : Int32)), (.int (0 : Int32)), (.int (0 : Int32)), (.int (0 : Int32)), (.int (0 : Int32)), (.int (0 : Int32)), (.int (0 : Int32)), (.int (0 : Int32)), (.int (0 : Int32)), (.int (0 : Int32)), (.int (0 : Int32)), (.int (0 : Int32)), (.int (0 : Int32)), (.int (0 : Int32)), (.int (0 : Int32)), (.int (0 : Int32)), (.int (0 : Int32)), (.int (0 : Int32)), (.int (0 : Int32))] (.int (0 : Int32)) := Arv.set Ar__37 q__37 S__37 N__37 H__37 G__37 (fits_nar_char _) W_38 5 rfl (Nat.le_of_ble_eq_true rfl)
  have N_42 := Fr.snoc X_38 N_35 gca
  rw [(by decide : nar .char (112 : Int32) = (112 : Int32))] at f_41
  have pre_43 : Rch p.tables e below (T0.setTop (mkF m 126 #[.val (.int p0), .val (.int p1), .val (.int p2), .val (.int p3), .val (.ref ms), .val (.int st), .val (.int co), .val (.int kd), .val (.int (Int32.ofNat pn)), .val (.int (Int32.ofNat qn)), .val (.int ap), .val (.int xx), .val (.int c0), .val (.int c1), .val (.int yd), .unset, .unset, .unset, .unset, .unset, .unset, .unset] [(.ref ca)])) (T_38.setTop (mkF m 161 #[.val (.int p0), .val (.int p1), .val (.int p2), .val (.int p3), .val (.ref ms), .val (.int st), .val (.int co), .val (.int kd), .val (.int (Int32.ofNat pn)), .val (.int (Int32.ofNat qn)), .val (.int ap), .val (.int xx), .val (.int c0), .val (.int c1), .val (.int yd), .unset, .unset, .unset, .unset, .unset, .unset, .unset] [(.int (58 : Int32)), (.int (6 : Int32)), (.ref ca), (.ref ca)])) := fun tgt ktg => pre_38 tgt (by
    show Steps p.tables e below (T_38.setTop (mkF m 156 #[.val (.int p0), .val (.int p1), .val (.int p2), .val (.int p3), .val (.ref ms), .val (.int st), .val (.int co), .val (.int kd), .val (.int (Int32.ofNat pn)), .val (.int (Int32.ofNat qn)), .val (.int ap), .val (.int xx), .val (.int c0), .val (.int c1), .val (.int yd), .unset, .unset, .unset, .unset, .unset, .unset, .unset] [(.ref ca)])) _
    refine XS.dup X_38.here hx rfl (hb hby at_156) rfl rfl ?_
    show Steps p.tables e below (T_38.setTop (mkF m 157 #[.val (.int p0), .val (.int p1), .val (.int p2), .val (.int p3), .val (.ref ms), .val (.int st), .val (.int co), .val (.int kd), .val (.int (Int32.ofNat pn)), .val (.int (Int32.ofNat qn)), .val (.int ap), .val (.int xx), .val (.int c0), .val (.int c1), .val (.int yd), .unset, .unset, .unset, .unset, .unset, .unset, .unset] [(.ref ca), (.ref ca)])) _
    refine XS.bipush X_38.here hx rfl (hb hby at_157) ?_
    show Steps p.tables e below (T_38.setTop (mkF m 159 #[.val (.int p0), .val (.int p1), .val (.int p2), .val (.int p3), .val (.ref ms), .val (.int st), .val (.int co), .val (.int kd), .val (.int (Int32.ofNat pn)), .val (.int (Int32.ofNat qn)), .val (.int ap), .val (.int xx), .val (.int c0), .val (.int c1), .val (.int yd), .unset, .unset, .unset, .unset, .unset, .unset, .unset] [(.int (6 : Int32)), (.ref ca), (.ref ca)])) _
    refine XS.bipush X_38.here hx rfl (hb hby at_159) ?_
    exact ktg)
  obtain ⟨cl__44, Ar__44, q__44, S__44, N__44, H__44, G__44⟩ := id f_41
  have hin__44 : ¬ ((6 : Int32) < 0 ∨ cl__44.slots.size ≤ ((6 : Int32)).toNatClampNeg) := inb_of S__44 ⟨by decide, by decide⟩
  obtain ⟨T_45, h_45, X_45, e_45, W_45, st_45⟩ := stC X_38 hx hZ e_38 Ar__44 (j := (6 : Int32)) hin__44 (g := (mkF m 161 #[.val (.int p0), .val (.int p1), .val (.int p2), .val (.int p3), .val (.ref ms), .val (.int st), .val (.int co), .val (.int kd), .val (.int (Int32.ofNat pn)), .val (.int (Int32.ofNat qn)), .val (.int ap), .val (.int xx), .val (.int c0), .val (.int c1), .val (.int yd), .unset, .unset, .unset, .unset, .unset, .unset, .unset] [(.int (58 : Int32)), (.int (6 : Int32)), (.ref ca), (.ref ca)])) rfl rfl (hb hby at_161)
  have pre_45 : Rch p.tables e below (T0.setTop (mkF m 126 #[.val (.int p0), .val (.int p1), .val (.int p2), .val (.int p3), .val (.ref ms), .val (.int st), .val (.int co), .val (.int kd), .val (.int (Int32.ofNat pn)), .val (.int (Int32.ofNat qn)), .val (.int ap), .val (.int xx), .val (.int c0), .val (.int c1), .val (.int yd), .unset, .unset, .unset, .unset, .unset, .unset, .unset] [(.ref ca)])) (T_45.setTop (mkF m 162 #[.val (.int p0), .val (.int p1), .val (.int p2), .val (.int p3), .val (.ref ms), .val (.int st), .val (.int co), .val (.int kd), .val (.int (Int32.ofNat pn)), .val (.int (Int32.ofNat qn)), .val (.int ap), .val (.int xx), .val (.int c0), .val (.int c1), .val (.int yd), .unset, .unset, .unset, .unset, .unset, .unset, .unset] [(.ref ca)])) := fun tgt ktg => pre_43 tgt (st_45 tgt ktg)
  have z_46 : n0 ≤ h_45.size := Nat.le_trans z_39 (Keep.of_wr W_45).1
  have K_47 : Keep h0 h_45 [ca] := K_40.wr W_45 (Or.inl (List.mem_of_getElem? (i := 0) rfl))
  have f_48 : Arv Z h_45 ca kc .char (38 : Int32) [(.int c0), (.int (60 : Int32)), (.int (115 : Int32)), (.int (111 : Int32)), (.int (97 : Int32)), (.int (112 : Int32)), (.int (nar .char (58 : Int32))), (.int (0 : Int32)), (.int (0 : Int32)), (.int (0 : Int32)), (.int (0 : Int32)), (.int (0 : Int32)), (.int (0 : Int32)), (.int (0 : Int32)), (.int (0 : Int32)), (.int (0 : Int32)), (.int (0 : Int32)), (.int (0 : Int32)), (.int (0 : Int32)), (.int (0 : Int32)), (.int (0 : Int32)), (.int (0 : Int32)), (.int (0 : Int32)), (.int (0 : Int32)), (.int (0 : Int32)), (.int (0 : Int32)), (.int (0 : Int32)), (.int (0 : Int32)), (.int (0 : Int32)), (.int (0 : Int32)), (.int (0 : Int32)), (.int (0 : Int32)), (.int (0 : Int32)), (.int (0 : Int32)), (.int (0 : Int32)), (.int (0 : Int32)), (.int (0 : Int32)), (.int (0 : Int32))] (.int (0 : Int32)) := Arv.set Ar__44 q__44 S__44 N__44 H__44 G__44 (fits_nar_char _) W_45 6 rfl (Nat.le_of_ble_eq_true rfl)
  have N_49 := Fr.snoc X_45 N_42 gca
  rw [(by decide : nar .char (58 : Int32) = (58 : Int32))] at f_48
  have pre_50 : Rch p.tables e below (T0.setTop (mkF m 126 #[.val (.int p0), .val (.int p1), .val (.int p2), .val (.int p3), .val (.ref ms), .val (.int st), .val (.int co), .val (.int kd), .val (.int (Int32.ofNat pn)), .val (.int (Int32.ofNat qn)), .val (.int ap), .val (.int xx), .val (.int c0), .val (.int c1), .val (.int yd), .unset, .unset, .unset, .unset, .unset, .unset, .unset] [(.ref ca)])) (T_45.setTop (mkF m 167 #[.val (.int p0), .val (.int p1), .val (.int p2), .val (.int p3), .val (.ref ms), .val (.int st), .val (.int co), .val (.int kd), .val (.int (Int32.ofNat pn)), .val (.int (Int32.ofNat qn)), .val (.int ap), .val (.int xx), .val (.int c0), .val (.int c1), .val (.int yd), .unset, .unset, .unset, .unset, .unset, .unset, .unset] [(.int (86 : Int32)), (.int (7 : Int32)), (.ref ca), (.ref ca)])) := fun tgt ktg => pre_45 tgt (by
    show Steps p.tables e below (T_45.setTop (mkF m 162 #[.val (.int p0), .val (.int p1), .val (.int p2), .val (.int p3), .val (.ref ms), .val (.int st), .val (.int co), .val (.int kd), .val (.int (Int32.ofNat pn)), .val (.int (Int32.ofNat qn)), .val (.int ap), .val (.int xx), .val (.int c0), .val (.int c1), .val (.int yd), .unset, .unset, .unset, .unset, .unset, .unset, .unset] [(.ref ca)])) _
    refine XS.dup X_45.here hx rfl (hb hby at_162) rfl rfl ?_
    show Steps p.tables e below (T_45.setTop (mkF m 163 #[.val (.int p0), .val (.int p1), .val (.int p2), .val (.int p3), .val (.ref ms), .val (.int st), .val (.int co), .val (.int kd), .val (.int (Int32.ofNat pn)), .val (.int (Int32.ofNat qn)), .val (.int ap), .val (.int xx), .val (.int c0), .val (.int c1), .val (.int yd), .unset, .unset, .unset, .unset, .unset, .unset, .unset] [(.ref ca), (.ref ca)])) _
    refine XS.bipush X_45.here hx rfl (hb hby at_163) ?_
    show Steps p.tables e below (T_45.setTop (mkF m 165 #[.val (.int p0), .val (.int p1), .val (.int p2), .val (.int p3), .val (.ref ms), .val (.int st), .val (.int co), .val (.int kd), .val (.int (Int32.ofNat pn)), .val (.int (Int32.ofNat qn)), .val (.int ap), .val (.int xx), .val (.int c0), .val (.int c1), .val (.int yd), .unset, .unset, .unset, .unset, .unset, .unset, .unset] [(.int (7 : Int32)), (.ref ca), (.ref ca)])) _
    refine XS.bipush X_45.here hx rfl (hb hby at_165) ?_
    exact ktg)
  obtain ⟨cl__51, Ar__51, q__51, S__51, N__51, H__51, G__51⟩ := id f_48
  have hin__51 : ¬ ((7 : Int32) < 0 ∨ cl__51.slots.size ≤ ((7 : Int32)).toNatClampNeg) := inb_of S__51 ⟨by decide, by decide⟩
  obtain ⟨T_52, h_52, X_52, e_52, W_52, st_52⟩ := stC X_45 hx hZ e_45 Ar__51 (j := (7 : Int32)) hin__51 (g := (mkF m 167 #[.val (.int p0), .val (.int p1), .val (.int p2), .val (.int p3), .val (.ref ms), .val (.int st), .val (.int co), .val (.int kd), .val (.int (Int32.ofNat pn)), .val (.int (Int32.ofNat qn)), .val (.int ap), .val (.int xx), .val (.int c0), .val (.int c1), .val (.int yd), .unset, .unset, .unset, .unset, .unset, .unset, .unset] [(.int (86 : Int32)), (.int (7 : Int32)), (.ref ca), (.ref ca)])) rfl rfl (hb hby at_167)
  have pre_52 : Rch p.tables e below (T0.setTop (mkF m 126 #[.val (.int p0), .val (.int p1), .val (.int p2), .val (.int p3), .val (.ref ms), .val (.int st), .val (.int co), .val (.int kd), .val (.int (Int32.ofNat pn)), .val (.int (Int32.ofNat qn)), .val (.int ap), .val (.int xx), .val (.int c0), .val (.int c1), .val (.int yd), .unset, .unset, .unset, .unset, .unset, .unset, .unset] [(.ref ca)])) (T_52.setTop (mkF m 168 #[.val (.int p0), .val (.int p1), .val (.int p2), .val (.int p3), .val (.ref ms), .val (.int st), .val (.int co), .val (.int kd), .val (.int (Int32.ofNat pn)), .val (.int (Int32.ofNat qn)), .val (.int ap), .val (.int xx), .val (.int c0), .val (.int c1), .val (.int yd), .unset, .unset, .unset, .unset, .unset, .unset, .unset] [(.ref ca)])) := fun tgt ktg => pre_50 tgt (st_52 tgt ktg)
  have z_53 : n0 ≤ h_52.size := Nat.le_trans z_46 (Keep.of_wr W_52).1
  have K_54 : Keep h0 h_52 [ca] := K_47.wr W_52 (Or.inl (List.mem_of_getElem? (i := 0) rfl))
  have f_55 : Arv Z h_52 ca kc .char (38 : Int32) [(.int c0), (.int (60 : Int32)), (.int (115 : Int32)), (.int (111 : Int32)), (.int (97 : Int32)), (.int (112 : Int32)), (.int (58 : Int32)), (.int (nar .char (86 : Int32))), (.int (0 : Int32)), (.int (0 : Int32)), (.int (0 : Int32)), (.int (0 : Int32)), (.int (0 : Int32)), (.int (0 : Int32)), (.int (0 : Int32)), (.int (0 : Int32)), (.int (0 : Int32)), (.int (0 : Int32)), (.int (0 : Int32)), (.int (0 : Int32)), (.int (0 : Int32)), (.int (0 : Int32)), (.int (0 : Int32)), (.int (0 : Int32)), (.int (0 : Int32)), (.int (0 : Int32)), (.int (0 : Int32)), (.int (0 : Int32)), (.int (0 : Int32)), (.int (0 : Int32)), (.int (0 : Int32)), (.int (0 : Int32)), (.int (0 : Int32)), (.int (0 : Int32)), (.int (0 : Int32)), (.int (0 : Int32)), (.int (0 : Int32)), (.int (0 : Int32))] (.int (0 : Int32)) := Arv.set Ar__51 q__51 S__51 N__51 H__51 G__51 (fits_nar_char _) W_52 7 rfl (Nat.le_of_ble_eq_true rfl)
  have N_56 := Fr.snoc X_52 N_49 gca
  rw [(by decide : nar .char (86 : Int32) = (86 : Int32))] at f_55
  have pre_57 : Rch p.tables e below (T0.setTop (mkF m 126 #[.val (.int p0), .val (.int p1), .val (.int p2), .val (.int p3), .val (.ref ms), .val (.int st), .val (.int co), .val (.int kd), .val (.int (Int32.ofNat pn)), .val (.int (Int32.ofNat qn)), .val (.int ap), .val (.int xx), .val (.int c0), .val (.int c1), .val (.int yd), .unset, .unset, .unset, .unset, .unset, .unset, .unset] [(.ref ca)])) (T_52.setTop (mkF m 173 #[.val (.int p0), .val (.int p1), .val (.int p2), .val (.int p3), .val (.ref ms), .val (.int st), .val (.int co), .val (.int kd), .val (.int (Int32.ofNat pn)), .val (.int (Int32.ofNat qn)), .val (.int ap), .val (.int xx), .val (.int c0), .val (.int c1), .val (.int yd), .unset, .unset, .unset, .unset, .unset, .unset, .unset] [(.int (97 : Int32)), (.int (8 : Int32)), (.ref ca), (.ref ca)])) := fun tgt ktg => pre_52 tgt (by
    show Steps p.tables e below (T_52.setTop (mkF m 168 #[.val (.int p0), .val (.int p1), .val (.int p2), .val (.int p3), .val (.ref ms), .val (.int st), .val (.int co), .val (.int kd), .val (.int (Int32.ofNat pn)), .val (.int (Int32.ofNat qn)), .val (.int ap), .val (.int xx), .val (.int c0), .val (.int c1), .val (.int yd), .unset, .unset, .unset, .unset, .unset, .unset, .unset] [(.ref ca)])) _
    refine XS.dup X_52.here hx rfl (hb hby at_168) rfl rfl ?_
    show Steps p.tables e below (T_52.setTop (mkF m 169 #[.val (.int p0), .val (.int p1), .val (.int p2), .val (.int p3), .val (.ref ms), .val (.int st), .val (.int co), .val (.int kd), .val (.int (Int32.ofNat pn)), .val (.int (Int32.ofNat qn)), .val (.int ap), .val (.int xx), .val (.int c0), .val (.int c1), .val (.int yd), .unset, .unset, .unset, .unset, .unset, .unset, .unset] [(.ref ca), (.ref ca)])) _
    refine XS.bipush X_52.here hx rfl (hb hby at_169) ?_
    show Steps p.tables e below (T_52.setTop (mkF m 171 #[.val (.int p0), .val (.int p1), .val (.int p2), .val (.int p3), .val (.ref ms), .val (.int st), .val (.int co), .val (.int kd), .val (.int (Int32.ofNat pn)), .val (.int (Int32.ofNat qn)), .val (.int ap), .val (.int xx), .val (.int c0), .val (.int c1), .val (.int yd), .unset, .unset, .unset, .unset, .unset, .unset, .unset] [(.int (8 : Int32)), (.ref ca), (.ref ca)])) _
    refine XS.bipush X_52.here hx rfl (hb hby at_171) ?_
    exact ktg)
  obtain ⟨cl__58, Ar__58, q__58, S__58, N__58, H__58, G__58⟩ := id f_55
  have hin__58 : ¬ ((8 : Int32) < 0 ∨ cl__58.slots.size ≤ ((8 : Int32)).toNatClampNeg) := inb_of S__58 ⟨by decide, by decide⟩
  obtain ⟨T_59, h_59, X_59, e_59, W_59, st_59⟩ := stC X_52 hx hZ e_52 Ar__58 (j := (8 : Int32)) hin__58 (g := (mkF m 173 #[.val (.int p0), .val (.int p1), .val (.int p2), .val (.int p3), .val (.ref ms), .val (.int st), .val (.int co), .val (.int kd), .val (.int (Int32.ofNat pn)), .val (.int (Int32.ofNat qn)), .val (.int ap), .val (.int xx), .val (.int c0), .val (.int c1), .val (.int yd), .unset, .unset, .unset, .unset, .unset, .unset, .unset] [(.int (97 : Int32)), (.int (8 : Int32)), (.ref ca), (.ref ca)])) rfl rfl (hb hby at_173)
  have pre_59 : Rch p.tables e below (T0.setTop (mkF m 126 #[.val (.int p0), .val (.int p1), .val (.int p2), .val (.int p3), .val (.ref ms), .val (.int st), .val (.int co), .val (.int kd), .val (.int (Int32.ofNat pn)), .val (.int (Int32.ofNat qn)), .val (.int ap), .val (.int xx), .val (.int c0), .val (.int c1), .val (.int yd), .unset, .unset, .unset, .unset, .unset, .unset, .unset] [(.ref ca)])) (T_59.setTop (mkF m 174 #[.val (.int p0), .val (.int p1), .val (.int p2), .val (.int p3), .val (.ref ms), .val (.int st), .val (.int co), .val (.int kd), .val (.int (Int32.ofNat pn)), .val (.int (Int32.ofNat qn)), .val (.int ap), .val (.int xx), .val (.int c0), .val (.int c1), .val (.int yd), .unset, .unset, .unset, .unset, .unset, .unset, .unset] [(.ref ca)])) := fun tgt ktg => pre_57 tgt (st_59 tgt ktg)
  have z_60 : n0 ≤ h_59.size := Nat.le_trans z_53 (Keep.of_wr W_59).1
  have K_61 : Keep h0 h_59 [ca] := K_54.wr W_59 (Or.inl (List.mem_of_getElem? (i := 0) rfl))
  have f_62 : Arv Z h_59 ca kc .char (38 : Int32) [(.int c0), (.int (60 : Int32)), (.int (115 : Int32)), (.int (111 : Int32)), (.int (97 : Int32)), (.int (112 : Int32)), (.int (58 : Int32)), (.int (86 : Int32)), (.int (nar .char (97 : Int32))), (.int (0 : Int32)), (.int (0 : Int32)), (.int (0 : Int32)), (.int (0 : Int32)), (.int (0 : Int32)), (.int (0 : Int32)), (.int (0 : Int32)), (.int (0 : Int32)), (.int (0 : Int32)), (.int (0 : Int32)), (.int (0 : Int32)), (.int (0 : Int32)), (.int (0 : Int32)), (.int (0 : Int32)), (.int (0 : Int32)), (.int (0 : Int32)), (.int (0 : Int32)), (.int (0 : Int32)), (.int (0 : Int32)), (.int (0 : Int32)), (.int (0 : Int32)), (.int (0 : Int32)), (.int (0 : Int32)), (.int (0 : Int32)), (.int (0 : Int32)), (.int (0 : Int32)), (.int (0 : Int32)), (.int (0 : Int32)), (.int (0 : Int32))] (.int (0 : Int32)) := Arv.set Ar__58 q__58 S__58 N__58 H__58 G__58 (fits_nar_char _) W_59 8 rfl (Nat.le_of_ble_eq_true rfl)
  have N_63 := Fr.snoc X_59 N_56 gca
  rw [(by decide : nar .char (97 : Int32) = (97 : Int32))] at f_62
  have pre_64 : Rch p.tables e below (T0.setTop (mkF m 126 #[.val (.int p0), .val (.int p1), .val (.int p2), .val (.int p3), .val (.ref ms), .val (.int st), .val (.int co), .val (.int kd), .val (.int (Int32.ofNat pn)), .val (.int (Int32.ofNat qn)), .val (.int ap), .val (.int xx), .val (.int c0), .val (.int c1), .val (.int yd), .unset, .unset, .unset, .unset, .unset, .unset, .unset] [(.ref ca)])) (T_59.setTop (mkF m 179 #[.val (.int p0), .val (.int p1), .val (.int p2), .val (.int p3), .val (.ref ms), .val (.int st), .val (.int co), .val (.int kd), .val (.int (Int32.ofNat pn)), .val (.int (Int32.ofNat qn)), .val (.int ap), .val (.int xx), .val (.int c0), .val (.int c1), .val (.int yd), .unset, .unset, .unset, .unset, .unset, .unset, .unset] [(.int (108 : Int32)), (.int (9 : Int32)), (.ref ca), (.ref ca)])) := fun tgt ktg => pre_59 tgt (by
    show Steps p.tables e below (T_59.setTop (mkF m 174 #[.val (.int p0), .val (.int p1), .val (.int p2), .val (.int p3), .val (.ref ms), .val (.int st), .val (.int co), .val (.int kd), .val (.int (Int32.ofNat pn)), .val (.int (Int32.ofNat qn)), .val (.int ap), .val (.int xx), .val (.int c0), .val (.int c1), .val (.int yd), .unset, .unset, .unset, .unset, .unset, .unset, .unset] [(.ref ca)])) _
    refine XS.dup X_59.here hx rfl (hb hby at_174) rfl rfl ?_
    show Steps p.tables e below (T_59.setTop (mkF m 175 #[.val (.int p0), .val (.int p1), .val (.int p2), .val (.int p3), .val (.ref ms), .val (.int st), .val (.int co), .val (.int kd), .val (.int (Int32.ofNat pn)), .val (.int (Int32.ofNat qn)), .val (.int ap), .val (.int xx), .val (.int c0), .val (.int c1), .val (.int yd), .unset, .unset, .unset, .unset, .unset, .unset, .unset] [(.ref ca), (.ref ca)])) _
    refine XS.bipush X_59.here hx rfl (hb hby at_175) ?_
    show Steps p.tables e below (T_59.setTop (mkF m 177 #[.val (.int p0), .val (.int p1), .val (.int p2), .val (.int p3), .val (.ref ms), .val (.int st), .val (.int co), .val (.int kd), .val (.int (Int32.ofNat pn)), .val (.int (Int32.ofNat qn)), .val (.int ap), .val (.int xx), .val (.int c0), .val (.int c1), .val (.int yd), .unset, .unset, .unset, .unset, .unset, .unset, .unset] [(.int (9 : Int32)), (.ref ca), (.ref ca)])) _
    refine XS.bipush X_59.here hx rfl (hb hby at_177) ?_
    exact ktg)
  obtain ⟨cl__65, Ar__65, q__65, S__65, N__65, H__65, G__65⟩ := id f_62
  have hin__65 : ¬ ((9 : Int32) < 0 ∨ cl__65.slots.size ≤ ((9 : Int32)).toNatClampNeg) := inb_of S__65 ⟨by decide, by decide⟩
  obtain ⟨T_66, h_66, X_66, e_66, W_66, st_66⟩ := stC X_59 hx hZ e_59 Ar__65 (j := (9 : Int32)) hin__65 (g := (mkF m 179 #[.val (.int p0), .val (.int p1), .val (.int p2), .val (.int p3), .val (.ref ms), .val (.int st), .val (.int co), .val (.int kd), .val (.int (Int32.ofNat pn)), .val (.int (Int32.ofNat qn)), .val (.int ap), .val (.int xx), .val (.int c0), .val (.int c1), .val (.int yd), .unset, .unset, .unset, .unset, .unset, .unset, .unset] [(.int (108 : Int32)), (.int (9 : Int32)), (.ref ca), (.ref ca)])) rfl rfl (hb hby at_179)
  have pre_66 : Rch p.tables e below (T0.setTop (mkF m 126 #[.val (.int p0), .val (.int p1), .val (.int p2), .val (.int p3), .val (.ref ms), .val (.int st), .val (.int co), .val (.int kd), .val (.int (Int32.ofNat pn)), .val (.int (Int32.ofNat qn)), .val (.int ap), .val (.int xx), .val (.int c0), .val (.int c1), .val (.int yd), .unset, .unset, .unset, .unset, .unset, .unset, .unset] [(.ref ca)])) (T_66.setTop (mkF m 180 #[.val (.int p0), .val (.int p1), .val (.int p2), .val (.int p3), .val (.ref ms), .val (.int st), .val (.int co), .val (.int kd), .val (.int (Int32.ofNat pn)), .val (.int (Int32.ofNat qn)), .val (.int ap), .val (.int xx), .val (.int c0), .val (.int c1), .val (.int yd), .unset, .unset, .unset, .unset, .unset, .unset, .unset] [(.ref ca)])) := fun tgt ktg => pre_64 tgt (st_66 tgt ktg)
  have z_67 : n0 ≤ h_66.size := Nat.le_trans z_60 (Keep.of_wr W_66).1
  have K_68 : Keep h0 h_66 [ca] := K_61.wr W_66 (Or.inl (List.mem_of_getElem? (i := 0) rfl))
  have f_69 : Arv Z h_66 ca kc .char (38 : Int32) [(.int c0), (.int (60 : Int32)), (.int (115 : Int32)), (.int (111 : Int32)), (.int (97 : Int32)), (.int (112 : Int32)), (.int (58 : Int32)), (.int (86 : Int32)), (.int (97 : Int32)), (.int (nar .char (108 : Int32))), (.int (0 : Int32)), (.int (0 : Int32)), (.int (0 : Int32)), (.int (0 : Int32)), (.int (0 : Int32)), (.int (0 : Int32)), (.int (0 : Int32)), (.int (0 : Int32)), (.int (0 : Int32)), (.int (0 : Int32)), (.int (0 : Int32)), (.int (0 : Int32)), (.int (0 : Int32)), (.int (0 : Int32)), (.int (0 : Int32)), (.int (0 : Int32)), (.int (0 : Int32)), (.int (0 : Int32)), (.int (0 : Int32)), (.int (0 : Int32)), (.int (0 : Int32)), (.int (0 : Int32)), (.int (0 : Int32)), (.int (0 : Int32)), (.int (0 : Int32)), (.int (0 : Int32)), (.int (0 : Int32)), (.int (0 : Int32))] (.int (0 : Int32)) := Arv.set Ar__65 q__65 S__65 N__65 H__65 G__65 (fits_nar_char _) W_66 9 rfl (Nat.le_of_ble_eq_true rfl)
  have N_70 := Fr.snoc X_66 N_63 gca
  rw [(by decide : nar .char (108 : Int32) = (108 : Int32))] at f_69
  exact ⟨T_66, h_66, _, X_66, e_66, N_70, K_68, z_67, f_69, pre_66⟩
set_option maxRecDepth 65536 in
set_option maxHeartbeats 40000000 in
theorem pcfl10 {p : Program} {l : Launch} {e : Env} {s : State} {m : MethodId} {args : Array Value} {below : List Frame} {meth : Method} {c : Code} {T0 : State} {locs : List Loc} {cells slots : Nat} {Z : State} {a0 : Array Value} {h0 : Heap} {n0 : Nat} {p0 p1 p2 p3 st co kd ap xx c0 c1 yd : Int32} {pn qn : Nat} {ms ca : Addr} {kc : ClassId}
    (X0 : Stand p l e room_1 s m args below meth c T0 locs cells slots) (hx : p.tables.exec = Jvm.exec) (hZ : Z.Warmed39 s.vm) (hw : ∀ d ∈ tables_1, d.before a0 Z = true) (hby : c.code = code) (hml : c.maxLocals = 22) (hown : s.vm.findClass "ResponseIsSenderFaultPinLaw" = some m.cls) (hce : cells ≤ room_1.cells) (hsl : slots ≤ room_1.slots) (e0 : T0.heap = h0) (N0 : Fr n0 locs) (Z0 : n0 ≤ h0.size) (A0 : Arv Z h0 ca kc .char (38 : Int32) [(.int c0), (.int (60 : Int32)), (.int (115 : Int32)), (.int (111 : Int32)), (.int (97 : Int32)), (.int (112 : Int32)), (.int (58 : Int32)), (.int (86 : Int32)), (.int (97 : Int32)), (.int (108 : Int32)), (.int (0 : Int32)), (.int (0 : Int32)), (.int (0 : Int32)), (.int (0 : Int32)), (.int (0 : Int32)), (.int (0 : Int32)), (.int (0 : Int32)), (.int (0 : Int32)), (.int (0 : Int32)), (.int (0 : Int32)), (.int (0 : Int32)), (.int (0 : Int32)), (.int (0 : Int32)), (.int (0 : Int32)), (.int (0 : Int32)), (.int (0 : Int32)), (.int (0 : Int32)), (.int (0 : Int32)), (.int (0 : Int32)), (.int (0 : Int32)), (.int (0 : Int32)), (.int (0 : Int32)), (.int (0 : Int32)), (.int (0 : Int32)), (.int (0 : Int32)), (.int (0 : Int32)), (.int (0 : Int32)), (.int (0 : Int32))] (.int (0 : Int32))) (gca : n0 ≤ ca) (hc0 : ¬ c0 < 0 ∧ ¬ (255 : Int32) < c0) (hc1 : ¬ c1 < 0 ∧ ¬ (255 : Int32) < c1) :
    ∃ (T' : State) (h' : Heap) (L' : List Loc), Stand p l e room_1 s m args below meth c T' L' cells slots ∧ T'.heap = h' ∧ Fr n0 L' ∧ Keep h0 h' [ca] ∧ n0 ≤ h'.size ∧ (Arv Z h' ca kc .char (38 : Int32) [(.int c0), (.int (60 : Int32)), (.int (115 : Int32)), (.int (111 : Int32)), (.int (97 : Int32)), (.int (112 : Int32)), (.int (58 : Int32)), (.int (86 : Int32)), (.int (97 : Int32)), (.int (108 : Int32)), (.int (117 : Int32)), (.int (101 : Int32)), (.int (62 : Int32)), (.int (115 : Int32)), (.int (111 : Int32)), (.int (97 : Int32)), (.int (112 : Int32)), (.int (58 : Int32)), (.int (83 : Int32)), (.int (101 : Int32)), (.int (0 : Int32)), (.int (0 : Int32)), (.int (0 : Int32)), (.int (0 : Int32)), (.int (0 : Int32)), (.int (0 : Int32)), (.int (0 : Int32)), (.int (0 : Int32)), (.int (0 : Int32)), (.int (0 : Int32)), (.int (0 : Int32)), (.int (0 : Int32)), (.int (0 : Int32)), (.int (0 : Int32)), (.int (0 : Int32)), (.int (0 : Int32)), (.int (0 : Int32)), (.int (0 : Int32))] (.int (0 : Int32))) ∧ Rch p.tables e below (T0.setTop (mkF m 180 #[.val (.int p0), .val (.int p1), .val (.int p2), .val (.int p3), .val (.ref ms), .val (.int st), .val (.int co), .val (.int kd), .val (.int (Int32.ofNat pn)), .val (.int (Int32.ofNat qn)), .val (.int ap), .val (.int xx), .val (.int c0), .val (.int c1), .val (.int yd), .unset, .unset, .unset, .unset, .unset, .unset, .unset] [(.ref ca)])) (T'.setTop (mkF m 240 #[.val (.int p0), .val (.int p1), .val (.int p2), .val (.int p3), .val (.ref ms), .val (.int st), .val (.int co), .val (.int kd), .val (.int (Int32.ofNat pn)), .val (.int (Int32.ofNat qn)), .val (.int ap), .val (.int xx), .val (.int c0), .val (.int c1), .val (.int yd), .unset, .unset, .unset, .unset, .unset, .unset, .unset] [(.ref ca)])) := by
  have K0 : Keep h0 h0 [ca] := Keep.refl _ _
  have pre0 : Rch p.tables e below (T0.setTop (mkF m 180 #[.val (.int p0), .val (.int p1), .val (.int p2), .val (.int p3), .val (.ref ms), .val (.int st), .val (.int co), .val (.int kd), .val (.int (Int32.ofNat pn)), .val (.int (Int32.ofNat qn)), .val (.int ap), .val (.int xx), .val (.int c0), .val (.int c1), .val (.int yd), .unset, .unset, .unset, .unset, .unset, .unset, .unset] [(.ref ca)])) (T0.setTop (mkF m 180 #[.val (.int p0), .val (.int p1), .val (.int p2), .val (.int p3), .val (.ref ms), .val (.int st), .val (.int co), .val (.int kd), .val (.int (Int32.ofNat pn)), .val (.int (Int32.ofNat qn)), .val (.int ap), .val (.int xx), .val (.int c0), .val (.int c1), .val (.int yd), .unset, .unset, .unset, .unset, .unset, .unset, .unset] [(.ref ca)])) := fun tgt ktg => ktg
  have pre_1 : Rch p.tables e below (T0.setTop (mkF m 180 #[.val (.int p0), .val (.int p1), .val (.int p2), .val (.int p3), .val (.ref ms), .val (.int st), .val (.int co), .val (.int kd), .val (.int (Int32.ofNat pn)), .val (.int (Int32.ofNat qn)), .val (.int ap), .val (.int xx), .val (.int c0), .val (.int c1), .val (.int yd), .unset, .unset, .unset, .unset, .unset, .unset, .unset] [(.ref ca)])) (T0.setTop (mkF m 185 #[.val (.int p0), .val (.int p1), .val (.int p2), .val (.int p3), .val (.ref ms), .val (.int st), .val (.int co), .val (.int kd), .val (.int (Int32.ofNat pn)), .val (.int (Int32.ofNat qn)), .val (.int ap), .val (.int xx), .val (.int c0), .val (.int c1), .val (.int yd), .unset, .unset, .unset, .unset, .unset, .unset, .unset] [(.int (117 : Int32)), (.int (10 : Int32)), (.ref ca), (.ref ca)])) := fun tgt ktg => pre0 tgt (by
    show Steps p.tables e below (T0.setTop (mkF m 180 #[.val (.int p0), .val (.int p1), .val (.int p2), .val (.int p3), .val (.ref ms), .val (.int st), .val (.int co), .val (.int kd), .val (.int (Int32.ofNat pn)), .val (.int (Int32.ofNat qn)), .val (.int ap), .val (.int xx), .val (.int c0), .val (.int c1), .val (.int yd), .unset, .unset, .unset, .unset, .unset, .unset, .unset] [(.ref ca)])) _
    refine XS.dup X0.here hx rfl (hb hby at_180) rfl rfl ?_
    show Steps p.tables e below (T0.setTop (mkF m 181 #[.val (.int p0), .val (.int p1), .val (.int p2), .val (.int p3), .val (.ref ms), .val (.int st), .val (.int co), .val (.int kd), .val (.int (Int32.ofNat pn)), .val (.int (Int32.ofNat qn)), .val (.int ap), .val (.int xx), .val (.int c0), .val (.int c1), .val (.int yd), .unset, .unset, .unset, .unset, .unset, .unset, .unset] [(.ref ca), (.ref ca)])) _
    refine XS.bipush X0.here hx rfl (hb hby at_181) ?_
    show Steps p.tables e below (T0.setTop (mkF m 183 #[.val (.int p0), .val (.int p1), .val (.int p2), .val (.int p3), .val (.ref ms), .val (.int st), .val (.int co), .val (.int kd), .val (.int (Int32.ofNat pn)), .val (.int (Int32.ofNat qn)), .val (.int ap), .val (.int xx), .val (.int c0), .val (.int c1), .val (.int yd), .unset, .unset, .unset, .unset, .unset, .unset, .unset] [(.int (10 : Int32)), (.ref ca), (.ref ca)])) _
    refine XS.bipush X0.here hx rfl (hb hby at_183) ?_
    exact ktg)
  obtain ⟨cl__2, Ar__2, q__2, S__2, N__2, H__2, G__2⟩ := id A0
  have hin__2 : ¬ ((10 : Int32) < 0 ∨ cl__2.slots.size ≤ ((10 : Int32)).toNatClampNeg) := inb_of S__2 ⟨by decide, by decide⟩
  obtain ⟨T_3, h_3, X_3, e_3, W_3, st_3⟩ := stC X0 hx hZ e0 Ar__2 (j := (10 : Int32)) hin__2 (g := (mkF m 185 #[.val (.int p0), .val (.int p1), .val (.int p2), .val (.int p3), .val (.ref ms), .val (.int st), .val (.int co), .val (.int kd), .val (.int (Int32.ofNat pn)), .val (.int (Int32.ofNat qn)), .val (.int ap), .val (.int xx), .val (.int c0), .val (.int c1), .val (.int yd), .unset, .unset, .unset, .unset, .unset, .unset, .unset] [(.int (117 : Int32)), (.int (10 : Int32)), (.ref ca), (.ref ca)])) rfl rfl (hb hby at_185)
  have pre_3 : Rch p.tables e below (T0.setTop (mkF m 180 #[.val (.int p0), .val (.int p1), .val (.int p2), .val (.int p3), .val (.ref ms), .val (.int st), .val (.int co), .val (.int kd), .val (.int (Int32.ofNat pn)), .val (.int (Int32.ofNat qn)), .val (.int ap), .val (.int xx), .val (.int c0), .val (.int c1), .val (.int yd), .unset, .unset, .unset, .unset, .unset, .unset, .unset] [(.ref ca)])) (T_3.setTop (mkF m 186 #[.val (.int p0), .val (.int p1), .val (.int p2), .val (.int p3), .val (.ref ms), .val (.int st), .val (.int co), .val (.int kd), .val (.int (Int32.ofNat pn)), .val (.int (Int32.ofNat qn)), .val (.int ap), .val (.int xx), .val (.int c0), .val (.int c1), .val (.int yd), .unset, .unset, .unset, .unset, .unset, .unset, .unset] [(.ref ca)])) := fun tgt ktg => pre_1 tgt (st_3 tgt ktg)
  have z_4 : n0 ≤ h_3.size := Nat.le_trans Z0 (Keep.of_wr W_3).1
  have K_5 : Keep h0 h_3 [ca] := K0.wr W_3 (Or.inl (List.mem_of_getElem? (i := 0) rfl))
  have f_6 : Arv Z h_3 ca kc .char (38 : Int32) [(.int c0), (.int (60 : Int32)), (.int (115 : Int32)), (.int (111 : Int32)), (.int (97 : Int32)), (.int (112 : Int32)), (.int (58 : Int32)), (.int (86 : Int32)), (.int (97 : Int32)), (.int (108 : Int32)), (.int (nar .char (117 : Int32))), (.int (0 : Int32)), (.int (0 : Int32)), (.int (0 : Int32)), (.int (0 : Int32)), (.int (0 : Int32)), (.int (0 : Int32)), (.int (0 : Int32)), (.int (0 : Int32)), (.int (0 : Int32)), (.int (0 : Int32)), (.int (0 : Int32)), (.int (0 : Int32)), (.int (0 : Int32)), (.int (0 : Int32)), (.int (0 : Int32)), (.int (0 : Int32)), (.int (0 : Int32)), (.int (0 : Int32)), (.int (0 : Int32)), (.int (0 : Int32)), (.int (0 : Int32)), (.int (0 : Int32)), (.int (0 : Int32)), (.int (0 : Int32)), (.int (0 : Int32)), (.int (0 : Int32)), (.int (0 : Int32))] (.int (0 : Int32)) := Arv.set Ar__2 q__2 S__2 N__2 H__2 G__2 (fits_nar_char _) W_3 10 rfl (Nat.le_of_ble_eq_true rfl)
  have N_7 := Fr.snoc X_3 N0 gca
  rw [(by decide : nar .char (117 : Int32) = (117 : Int32))] at f_6
  have pre_8 : Rch p.tables e below (T0.setTop (mkF m 180 #[.val (.int p0), .val (.int p1), .val (.int p2), .val (.int p3), .val (.ref ms), .val (.int st), .val (.int co), .val (.int kd), .val (.int (Int32.ofNat pn)), .val (.int (Int32.ofNat qn)), .val (.int ap), .val (.int xx), .val (.int c0), .val (.int c1), .val (.int yd), .unset, .unset, .unset, .unset, .unset, .unset, .unset] [(.ref ca)])) (T_3.setTop (mkF m 191 #[.val (.int p0), .val (.int p1), .val (.int p2), .val (.int p3), .val (.ref ms), .val (.int st), .val (.int co), .val (.int kd), .val (.int (Int32.ofNat pn)), .val (.int (Int32.ofNat qn)), .val (.int ap), .val (.int xx), .val (.int c0), .val (.int c1), .val (.int yd), .unset, .unset, .unset, .unset, .unset, .unset, .unset] [(.int (101 : Int32)), (.int (11 : Int32)), (.ref ca), (.ref ca)])) := fun tgt ktg => pre_3 tgt (by
    show Steps p.tables e below (T_3.setTop (mkF m 186 #[.val (.int p0), .val (.int p1), .val (.int p2), .val (.int p3), .val (.ref ms), .val (.int st), .val (.int co), .val (.int kd), .val (.int (Int32.ofNat pn)), .val (.int (Int32.ofNat qn)), .val (.int ap), .val (.int xx), .val (.int c0), .val (.int c1), .val (.int yd), .unset, .unset, .unset, .unset, .unset, .unset, .unset] [(.ref ca)])) _
    refine XS.dup X_3.here hx rfl (hb hby at_186) rfl rfl ?_
    show Steps p.tables e below (T_3.setTop (mkF m 187 #[.val (.int p0), .val (.int p1), .val (.int p2), .val (.int p3), .val (.ref ms), .val (.int st), .val (.int co), .val (.int kd), .val (.int (Int32.ofNat pn)), .val (.int (Int32.ofNat qn)), .val (.int ap), .val (.int xx), .val (.int c0), .val (.int c1), .val (.int yd), .unset, .unset, .unset, .unset, .unset, .unset, .unset] [(.ref ca), (.ref ca)])) _
    refine XS.bipush X_3.here hx rfl (hb hby at_187) ?_
    show Steps p.tables e below (T_3.setTop (mkF m 189 #[.val (.int p0), .val (.int p1), .val (.int p2), .val (.int p3), .val (.ref ms), .val (.int st), .val (.int co), .val (.int kd), .val (.int (Int32.ofNat pn)), .val (.int (Int32.ofNat qn)), .val (.int ap), .val (.int xx), .val (.int c0), .val (.int c1), .val (.int yd), .unset, .unset, .unset, .unset, .unset, .unset, .unset] [(.int (11 : Int32)), (.ref ca), (.ref ca)])) _
    refine XS.bipush X_3.here hx rfl (hb hby at_189) ?_
    exact ktg)
  obtain ⟨cl__9, Ar__9, q__9, S__9, N__9, H__9, G__9⟩ := id f_6
  have hin__9 : ¬ ((11 : Int32) < 0 ∨ cl__9.slots.size ≤ ((11 : Int32)).toNatClampNeg) := inb_of S__9 ⟨by decide, by decide⟩
  obtain ⟨T_10, h_10, X_10, e_10, W_10, st_10⟩ := stC X_3 hx hZ e_3 Ar__9 (j := (11 : Int32)) hin__9 (g := (mkF m 191 #[.val (.int p0), .val (.int p1), .val (.int p2), .val (.int p3), .val (.ref ms), .val (.int st), .val (.int co), .val (.int kd), .val (.int (Int32.ofNat pn)), .val (.int (Int32.ofNat qn)), .val (.int ap), .val (.int xx), .val (.int c0), .val (.int c1), .val (.int yd), .unset, .unset, .unset, .unset, .unset, .unset, .unset] [(.int (101 : Int32)), (.int (11 : Int32)), (.ref ca), (.ref ca)])) rfl rfl (hb hby at_191)
  have pre_10 : Rch p.tables e below (T0.setTop (mkF m 180 #[.val (.int p0), .val (.int p1), .val (.int p2), .val (.int p3), .val (.ref ms), .val (.int st), .val (.int co), .val (.int kd), .val (.int (Int32.ofNat pn)), .val (.int (Int32.ofNat qn)), .val (.int ap), .val (.int xx), .val (.int c0), .val (.int c1), .val (.int yd), .unset, .unset, .unset, .unset, .unset, .unset, .unset] [(.ref ca)])) (T_10.setTop (mkF m 192 #[.val (.int p0), .val (.int p1), .val (.int p2), .val (.int p3), .val (.ref ms), .val (.int st), .val (.int co), .val (.int kd), .val (.int (Int32.ofNat pn)), .val (.int (Int32.ofNat qn)), .val (.int ap), .val (.int xx), .val (.int c0), .val (.int c1), .val (.int yd), .unset, .unset, .unset, .unset, .unset, .unset, .unset] [(.ref ca)])) := fun tgt ktg => pre_8 tgt (st_10 tgt ktg)
  have z_11 : n0 ≤ h_10.size := Nat.le_trans z_4 (Keep.of_wr W_10).1
  have K_12 : Keep h0 h_10 [ca] := K_5.wr W_10 (Or.inl (List.mem_of_getElem? (i := 0) rfl))
  have f_13 : Arv Z h_10 ca kc .char (38 : Int32) [(.int c0), (.int (60 : Int32)), (.int (115 : Int32)), (.int (111 : Int32)), (.int (97 : Int32)), (.int (112 : Int32)), (.int (58 : Int32)), (.int (86 : Int32)), (.int (97 : Int32)), (.int (108 : Int32)), (.int (117 : Int32)), (.int (nar .char (101 : Int32))), (.int (0 : Int32)), (.int (0 : Int32)), (.int (0 : Int32)), (.int (0 : Int32)), (.int (0 : Int32)), (.int (0 : Int32)), (.int (0 : Int32)), (.int (0 : Int32)), (.int (0 : Int32)), (.int (0 : Int32)), (.int (0 : Int32)), (.int (0 : Int32)), (.int (0 : Int32)), (.int (0 : Int32)), (.int (0 : Int32)), (.int (0 : Int32)), (.int (0 : Int32)), (.int (0 : Int32)), (.int (0 : Int32)), (.int (0 : Int32)), (.int (0 : Int32)), (.int (0 : Int32)), (.int (0 : Int32)), (.int (0 : Int32)), (.int (0 : Int32)), (.int (0 : Int32))] (.int (0 : Int32)) := Arv.set Ar__9 q__9 S__9 N__9 H__9 G__9 (fits_nar_char _) W_10 11 rfl (Nat.le_of_ble_eq_true rfl)
  have N_14 := Fr.snoc X_10 N_7 gca
  rw [(by decide : nar .char (101 : Int32) = (101 : Int32))] at f_13
  have pre_15 : Rch p.tables e below (T0.setTop (mkF m 180 #[.val (.int p0), .val (.int p1), .val (.int p2), .val (.int p3), .val (.ref ms), .val (.int st), .val (.int co), .val (.int kd), .val (.int (Int32.ofNat pn)), .val (.int (Int32.ofNat qn)), .val (.int ap), .val (.int xx), .val (.int c0), .val (.int c1), .val (.int yd), .unset, .unset, .unset, .unset, .unset, .unset, .unset] [(.ref ca)])) (T_10.setTop (mkF m 197 #[.val (.int p0), .val (.int p1), .val (.int p2), .val (.int p3), .val (.ref ms), .val (.int st), .val (.int co), .val (.int kd), .val (.int (Int32.ofNat pn)), .val (.int (Int32.ofNat qn)), .val (.int ap), .val (.int xx), .val (.int c0), .val (.int c1), .val (.int yd), .unset, .unset, .unset, .unset, .unset, .unset, .unset] [(.int (62 : Int32)), (.int (12 : Int32)), (.ref ca), (.ref ca)])) := fun tgt ktg => pre_10 tgt (by
    show Steps p.tables e below (T_10.setTop (mkF m 192 #[.val (.int p0), .val (.int p1), .val (.int p2), .val (.int p3), .val (.ref ms), .val (.int st), .val (.int co), .val (.int kd), .val (.int (Int32.ofNat pn)), .val (.int (Int32.ofNat qn)), .val (.int ap), .val (.int xx), .val (.int c0), .val (.int c1), .val (.int yd), .unset, .unset, .unset, .unset, .unset, .unset, .unset] [(.ref ca)])) _
    refine XS.dup X_10.here hx rfl (hb hby at_192) rfl rfl ?_
    show Steps p.tables e below (T_10.setTop (mkF m 193 #[.val (.int p0), .val (.int p1), .val (.int p2), .val (.int p3), .val (.ref ms), .val (.int st), .val (.int co), .val (.int kd), .val (.int (Int32.ofNat pn)), .val (.int (Int32.ofNat qn)), .val (.int ap), .val (.int xx), .val (.int c0), .val (.int c1), .val (.int yd), .unset, .unset, .unset, .unset, .unset, .unset, .unset] [(.ref ca), (.ref ca)])) _
    refine XS.bipush X_10.here hx rfl (hb hby at_193) ?_
    show Steps p.tables e below (T_10.setTop (mkF m 195 #[.val (.int p0), .val (.int p1), .val (.int p2), .val (.int p3), .val (.ref ms), .val (.int st), .val (.int co), .val (.int kd), .val (.int (Int32.ofNat pn)), .val (.int (Int32.ofNat qn)), .val (.int ap), .val (.int xx), .val (.int c0), .val (.int c1), .val (.int yd), .unset, .unset, .unset, .unset, .unset, .unset, .unset] [(.int (12 : Int32)), (.ref ca), (.ref ca)])) _
    refine XS.bipush X_10.here hx rfl (hb hby at_195) ?_
    exact ktg)
  obtain ⟨cl__16, Ar__16, q__16, S__16, N__16, H__16, G__16⟩ := id f_13
  have hin__16 : ¬ ((12 : Int32) < 0 ∨ cl__16.slots.size ≤ ((12 : Int32)).toNatClampNeg) := inb_of S__16 ⟨by decide, by decide⟩
  obtain ⟨T_17, h_17, X_17, e_17, W_17, st_17⟩ := stC X_10 hx hZ e_10 Ar__16 (j := (12 : Int32)) hin__16 (g := (mkF m 197 #[.val (.int p0), .val (.int p1), .val (.int p2), .val (.int p3), .val (.ref ms), .val (.int st), .val (.int co), .val (.int kd), .val (.int (Int32.ofNat pn)), .val (.int (Int32.ofNat qn)), .val (.int ap), .val (.int xx), .val (.int c0), .val (.int c1), .val (.int yd), .unset, .unset, .unset, .unset, .unset, .unset, .unset] [(.int (62 : Int32)), (.int (12 : Int32)), (.ref ca), (.ref ca)])) rfl rfl (hb hby at_197)
  have pre_17 : Rch p.tables e below (T0.setTop (mkF m 180 #[.val (.int p0), .val (.int p1), .val (.int p2), .val (.int p3), .val (.ref ms), .val (.int st), .val (.int co), .val (.int kd), .val (.int (Int32.ofNat pn)), .val (.int (Int32.ofNat qn)), .val (.int ap), .val (.int xx), .val (.int c0), .val (.int c1), .val (.int yd), .unset, .unset, .unset, .unset, .unset, .unset, .unset] [(.ref ca)])) (T_17.setTop (mkF m 198 #[.val (.int p0), .val (.int p1), .val (.int p2), .val (.int p3), .val (.ref ms), .val (.int st), .val (.int co), .val (.int kd), .val (.int (Int32.ofNat pn)), .val (.int (Int32.ofNat qn)), .val (.int ap), .val (.int xx), .val (.int c0), .val (.int c1), .val (.int yd), .unset, .unset, .unset, .unset, .unset, .unset, .unset] [(.ref ca)])) := fun tgt ktg => pre_15 tgt (st_17 tgt ktg)
  have z_18 : n0 ≤ h_17.size := Nat.le_trans z_11 (Keep.of_wr W_17).1
  have K_19 : Keep h0 h_17 [ca] := K_12.wr W_17 (Or.inl (List.mem_of_getElem? (i := 0) rfl))
  have f_20 : Arv Z h_17 ca kc .char (38 : Int32) [(.int c0), (.int (60 : Int32)), (.int (115 : Int32)), (.int (111 : Int32)), (.int (97 : Int32)), (.int (112 : Int32)), (.int (58 : Int32)), (.int (86 : Int32)), (.int (97 : Int32)), (.int (108 : Int32)), (.int (117 : Int32)), (.int (101 : Int32)), (.int (nar .char (62 : Int32))), (.int (0 : Int32)), (.int (0 : Int32)), (.int (0 : Int32)), (.int (0 : Int32)), (.int (0 : Int32)), (.int (0 : Int32)), (.int (0 : Int32)), (.int (0 : Int32)), (.int (0 : Int32)), (.int (0 : Int32)), (.int (0 : Int32)), (.int (0 : Int32)), (.int (0 : Int32)), (.int (0 : Int32)), (.int (0 : Int32)), (.int (0 : Int32)), (.int (0 : Int32)), (.int (0 : Int32)), (.int (0 : Int32)), (.int (0 : Int32)), (.int (0 : Int32)), (.int (0 : Int32)), (.int (0 : Int32)), (.int (0 : Int32)), (.int (0 : Int32))] (.int (0 : Int32)) := Arv.set Ar__16 q__16 S__16 N__16 H__16 G__16 (fits_nar_char _) W_17 12 rfl (Nat.le_of_ble_eq_true rfl)
  have N_21 := Fr.snoc X_17 N_14 gca
  rw [(by decide : nar .char (62 : Int32) = (62 : Int32))] at f_20
  have pre_22 : Rch p.tables e below (T0.setTop (mkF m 180 #[.val (.int p0), .val (.int p1), .val (.int p2), .val (.int p3), .val (.ref ms), .val (.int st), .val (.int co), .val (.int kd), .val (.int (Int32.ofNat pn)), .val (.int (Int32.ofNat qn)), .val (.int ap), .val (.int xx), .val (.int c0), .val (.int c1), .val (.int yd), .unset, .unset, .unset, .unset, .unset, .unset, .unset] [(.ref ca)])) (T_17.setTop (mkF m 203 #[.val (.int p0), .val (.int p1), .val (.int p2), .val (.int p3), .val (.ref ms), .val (.int st), .val (.int co), .val (.int kd), .val (.int (Int32.ofNat pn)), .val (.int (Int32.ofNat qn)), .val (.int ap), .val (.int xx), .val (.int c0), .val (.int c1), .val (.int yd), .unset, .unset, .unset, .unset, .unset, .unset, .unset] [(.int (115 : Int32)), (.int (13 : Int32)), (.ref ca), (.ref ca)])) := fun tgt ktg => pre_17 tgt (by
    show Steps p.tables e below (T_17.setTop (mkF m 198 #[.val (.int p0), .val (.int p1), .val (.int p2), .val (.int p3), .val (.ref ms), .val (.int st), .val (.int co), .val (.int kd), .val (.int (Int32.ofNat pn)), .val (.int (Int32.ofNat qn)), .val (.int ap), .val (.int xx), .val (.int c0), .val (.int c1), .val (.int yd), .unset, .unset, .unset, .unset, .unset, .unset, .unset] [(.ref ca)])) _
    refine XS.dup X_17.here hx rfl (hb hby at_198) rfl rfl ?_
    show Steps p.tables e below (T_17.setTop (mkF m 199 #[.val (.int p0), .val (.int p1), .val (.int p2), .val (.int p3), .val (.ref ms), .val (.int st), .val (.int co), .val (.int kd), .val (.int (Int32.ofNat pn)), .val (.int (Int32.ofNat qn)), .val (.int ap), .val (.int xx), .val (.int c0), .val (.int c1), .val (.int yd), .unset, .unset, .unset, .unset, .unset, .unset, .unset] [(.ref ca), (.ref ca)])) _
    refine XS.bipush X_17.here hx rfl (hb hby at_199) ?_
    show Steps p.tables e below (T_17.setTop (mkF m 201 #[.val (.int p0), .val (.int p1), .val (.int p2), .val (.int p3), .val (.ref ms), .val (.int st), .val (.int co), .val (.int kd), .val (.int (Int32.ofNat pn)), .val (.int (Int32.ofNat qn)), .val (.int ap), .val (.int xx), .val (.int c0), .val (.int c1), .val (.int yd), .unset, .unset, .unset, .unset, .unset, .unset, .unset] [(.int (13 : Int32)), (.ref ca), (.ref ca)])) _
    refine XS.bipush X_17.here hx rfl (hb hby at_201) ?_
    exact ktg)
  obtain ⟨cl__23, Ar__23, q__23, S__23, N__23, H__23, G__23⟩ := id f_20
  have hin__23 : ¬ ((13 : Int32) < 0 ∨ cl__23.slots.size ≤ ((13 : Int32)).toNatClampNeg) := inb_of S__23 ⟨by decide, by decide⟩
  obtain ⟨T_24, h_24, X_24, e_24, W_24, st_24⟩ := stC X_17 hx hZ e_17 Ar__23 (j := (13 : Int32)) hin__23 (g := (mkF m 203 #[.val (.int p0), .val (.int p1), .val (.int p2), .val (.int p3), .val (.ref ms), .val (.int st), .val (.int co), .val (.int kd), .val (.int (Int32.ofNat pn)), .val (.int (Int32.ofNat qn)), .val (.int ap), .val (.int xx), .val (.int c0), .val (.int c1), .val (.int yd), .unset, .unset, .unset, .unset, .unset, .unset, .unset] [(.int (115 : Int32)), (.int (13 : Int32)), (.ref ca), (.ref ca)])) rfl rfl (hb hby at_203)
  have pre_24 : Rch p.tables e below (T0.setTop (mkF m 180 #[.val (.int p0), .val (.int p1), .val (.int p2), .val (.int p3), .val (.ref ms), .val (.int st), .val (.int co), .val (.int kd), .val (.int (Int32.ofNat pn)), .val (.int (Int32.ofNat qn)), .val (.int ap), .val (.int xx), .val (.int c0), .val (.int c1), .val (.int yd), .unset, .unset, .unset, .unset, .unset, .unset, .unset] [(.ref ca)])) (T_24.setTop (mkF m 204 #[.val (.int p0), .val (.int p1), .val (.int p2), .val (.int p3), .val (.ref ms), .val (.int st), .val (.int co), .val (.int kd), .val (.int (Int32.ofNat pn)), .val (.int (Int32.ofNat qn)), .val (.int ap), .val (.int xx), .val (.int c0), .val (.int c1), .val (.int yd), .unset, .unset, .unset, .unset, .unset, .unset, .unset] [(.ref ca)])) := fun tgt ktg => pre_22 tgt (st_24 tgt ktg)
  have z_25 : n0 ≤ h_24.size := Nat.le_trans z_18 (Keep.of_wr W_24).1
  have K_26 : Keep h0 h_24 [ca] := K_19.wr W_24 (Or.inl (List.mem_of_getElem? (i := 0) rfl))
  have f_27 : Arv Z h_24 ca kc .char (38 : Int32) [(.int c0), (.int (60 : Int32)), (.int (115 : Int32)), (.int (111 : Int32)), (.int (97 : Int32)), (.int (112 : Int32)), (.int (58 : Int32)), (.int (86 : Int32)), (.int (97 : Int32)), (.int (108 : Int32)), (.int (117 : Int32)), (.int (101 : Int32)), (.int (62 : Int32)), (.int (nar .char (115 : Int32))), (.int (0 : Int32)), (.int (0 : Int32)), (.int (0 : Int32)), (.int (0 : Int32)), (.int (0 : Int32)), (.int (0 : Int32)), (.int (0 : Int32)), (.int (0 : Int32)), (.int (0 : Int32)), (.int (0 : Int32)), (.int (0 : Int32)), (.int (0 : Int32)), (.int (0 : Int32)), (.int (0 : Int32)), (.int (0 : Int32)), (.int (0 : Int32)), (.int (0 : Int32)), (.int (0 : Int32)), (.int (0 : Int32)), (.int (0 : Int32)), (.int (0 : Int32)), (.int (0 : Int32)), (.int (0 : Int32)), (.int (0 : Int32))] (.int (0 : Int32)) := Arv.set Ar__23 q__23 S__23 N__23 H__23 G__23 (fits_nar_char _) W_24 13 rfl (Nat.le_of_ble_eq_true rfl)
  have N_28 := Fr.snoc X_24 N_21 gca
  rw [(by decide : nar .char (115 : Int32) = (115 : Int32))] at f_27
  have pre_29 : Rch p.tables e below (T0.setTop (mkF m 180 #[.val (.int p0), .val (.int p1), .val (.int p2), .val (.int p3), .val (.ref ms), .val (.int st), .val (.int co), .val (.int kd), .val (.int (Int32.ofNat pn)), .val (.int (Int32.ofNat qn)), .val (.int ap), .val (.int xx), .val (.int c0), .val (.int c1), .val (.int yd), .unset, .unset, .unset, .unset, .unset, .unset, .unset] [(.ref ca)])) (T_24.setTop (mkF m 209 #[.val (.int p0), .val (.int p1), .val (.int p2), .val (.int p3), .val (.ref ms), .val (.int st), .val (.int co), .val (.int kd), .val (.int (Int32.ofNat pn)), .val (.int (Int32.ofNat qn)), .val (.int ap), .val (.int xx), .val (.int c0), .val (.int c1), .val (.int yd), .unset, .unset, .unset, .unset, .unset, .unset, .unset] [(.int (111 : Int32)), (.int (14 : Int32)), (.ref ca), (.ref ca)])) := fun tgt ktg => pre_24 tgt (by
    show Steps p.tables e below (T_24.setTop (mkF m 204 #[.val (.int p0), .val (.int p1), .val (.int p2), .val (.int p3), .val (.ref ms), .val (.int st), .val (.int co), .val (.int kd), .val (.int (Int32.ofNat pn)), .val (.int (Int32.ofNat qn)), .val (.int ap), .val (.int xx), .val (.int c0), .val (.int c1), .val (.int yd), .unset, .unset, .unset, .unset, .unset, .unset, .unset] [(.ref ca)])) _
    refine XS.dup X_24.here hx rfl (hb hby at_204) rfl rfl ?_
    show Steps p.tables e below (T_24.setTop (mkF m 205 #[.val (.int p0), .val (.int p1), .val (.int p2), .val (.int p3), .val (.ref ms), .val (.int st), .val (.int co), .val (.int kd), .val (.int (Int32.ofNat pn)), .val (.int (Int32.ofNat qn)), .val (.int ap), .val (.int xx), .val (.int c0), .val (.int c1), .val (.int yd), .unset, .unset, .unset, .unset, .unset, .unset, .unset] [(.ref ca), (.ref ca)])) _
    refine XS.bipush X_24.here hx rfl (hb hby at_205) ?_
    show Steps p.tables e below (T_24.setTop (mkF m 207 #[.val (.int p0), .val (.int p1), .val (.int p2), .val (.int p3), .val (.ref ms), .val (.int st), .val (.int co), .val (.int kd), .val (.int (Int32.ofNat pn)), .val (.int (Int32.ofNat qn)), .val (.int ap), .val (.int xx), .val (.int c0), .val (.int c1), .val (.int yd), .unset, .unset, .unset, .unset, .unset, .unset, .unset] [(.int (14 : Int32)), (.ref ca), (.ref ca)])) _
    refine XS.bipush X_24.here hx rfl (hb hby at_207) ?_
    exact ktg)
  obtain ⟨cl__30, Ar__30, q__30, S__30, N__30, H__30, G__30⟩ := id f_27
  have hin__30 : ¬ ((14 : Int32) < 0 ∨ cl__30.slots.size ≤ ((14 : Int32)).toNatClampNeg) := inb_of S__30 ⟨by decide, by decide⟩
  obtain ⟨T_31, h_31, X_31, e_31, W_31, st_31⟩ := stC X_24 hx hZ e_24 Ar__30 (j := (14 : Int32)) hin__30 (g := (mkF m 209 #[.val (.int p0), .val (.int p1), .val (.int p2), .val (.int p3), .val (.ref ms), .val (.int st), .val (.int co), .val (.int kd), .val (.int (Int32.ofNat pn)), .val (.int (Int32.ofNat qn)), .val (.int ap), .val (.int xx), .val (.int c0), .val (.int c1), .val (.int yd), .unset, .unset, .unset, .unset, .unset, .unset, .unset] [(.int (111 : Int32)), (.int (14 : Int32)), (.ref ca), (.ref ca)])) rfl rfl (hb hby at_209)
  have pre_31 : Rch p.tables e below (T0.setTop (mkF m 180 #[.val (.int p0), .val (.int p1), .val (.int p2), .val (.int p3), .val (.ref ms), .val (.int st), .val (.int co), .val (.int kd), .val (.int (Int32.ofNat pn)), .val (.int (Int32.ofNat qn)), .val (.int ap), .val (.int xx), .val (.int c0), .val (.int c1), .val (.int yd), .unset, .unset, .unset, .unset, .unset, .unset, .unset] [(.ref ca)])) (T_31.setTop (mkF m 210 #[.val (.int p0), .val (.int p1), .val (.int p2), .val (.int p3), .val (.ref ms), .val (.int st), .val (.int co), .val (.int kd), .val (.int (Int32.ofNat pn)), .val (.int (Int32.ofNat qn)), .val (.int ap), .val (.int xx), .val (.int c0), .val (.int c1), .val (.int yd), .unset, .unset, .unset, .unset, .unset, .unset, .unset] [(.ref ca)])) := fun tgt ktg => pre_29 tgt (st_31 tgt ktg)
  have z_32 : n0 ≤ h_31.size := Nat.le_trans z_25 (Keep.of_wr W_31).1
  have K_33 : Keep h0 h_31 [ca] := K_26.wr W_31 (Or.inl (List.mem_of_getElem? (i := 0) rfl))
  have f_34 : Arv Z h_31 ca kc .char (38 : Int32) [(.int c0), (.int (60 : Int32)), (.int (115 : Int32)), (.int (111 : Int32)), (.int (97 : Int32)), (.int (112 : Int32)), (.int (58 : Int32)), (.int (86 : Int32)), (.int (97 : Int32)), (.int (108 : Int32)), (.int (117 : Int32)), (.int (101 : Int32)), (.int (62 : Int32)), (.int (115 : Int32)), (.int (nar .char (111 : Int32))), (.int (0 : Int32)), (.int (0 : Int32)), (.int (0 : Int32)), (.int (0 : Int32)), (.int (0 : Int32)), (.int (0 : Int32)), (.int (0 : Int32)), (.int (0 : Int32)), (.int (0 : Int32)), (.int (0 : Int32)), (.int (0 : Int32)), (.int (0 : Int32)), (.int (0 : Int32)), (.int (0 : Int32)), (.int (0 : Int32)), (.int (0 : Int32)), (.int (0 : Int32)), (.int (0 : Int32)), (.int (0 : Int32)), (.int (0 : Int32)), (.int (0 : Int32)), (.int (0 : Int32)), (.int (0 : Int32))] (.int (0 : Int32)) := Arv.set Ar__30 q__30 S__30 N__30 H__30 G__30 (fits_nar_char _) W_31 14 rfl (Nat.le_of_ble_eq_true rfl)
  have N_35 := Fr.snoc X_31 N_28 gca
  rw [(by decide : nar .char (111 : Int32) = (111 : Int32))] at f_34
  have pre_36 : Rch p.tables e below (T0.setTop (mkF m 180 #[.val (.int p0), .val (.int p1), .val (.int p2), .val (.int p3), .val (.ref ms), .val (.int st), .val (.int co), .val (.int kd), .val (.int (Int32.ofNat pn)), .val (.int (Int32.ofNat qn)), .val (.int ap), .val (.int xx), .val (.int c0), .val (.int c1), .val (.int yd), .unset, .unset, .unset, .unset, .unset, .unset, .unset] [(.ref ca)])) (T_31.setTop (mkF m 215 #[.val (.int p0), .val (.int p1), .val (.int p2), .val (.int p3), .val (.ref ms), .val (.int st), .val (.int co), .val (.int kd), .val (.int (Int32.ofNat pn)), .val (.int (Int32.ofNat qn)), .val (.int ap), .val (.int xx), .val (.int c0), .val (.int c1), .val (.int yd), .unset, .unset, .unset, .unset, .unset, .unset, .unset] [(.int (97 : Int32)), (.int (15 : Int32)), (.ref ca), (.ref ca)])) := fun tgt ktg => pre_31 tgt (by
    show Steps p.tables e below (T_31.setTop (mkF m 210 #[.val (.int p0), .val (.int p1), .val (.int p2), .val (.int p3), .val (.ref ms), .val (.int st), .val (.int co), .val (.int kd), .val (.int (Int32.ofNat pn)), .val (.int (Int32.ofNat qn)), .val (.int ap), .val (.int xx), .val (.int c0), .val (.int c1), .val (.int yd), .unset, .unset, .unset, .unset, .unset, .unset, .unset] [(.ref ca)])) _
    refine XS.dup X_31.here hx rfl (hb hby at_210) rfl rfl ?_
    show Steps p.tables e below (T_31.setTop (mkF m 211 #[.val (.int p0), .val (.int p1), .val (.int p2), .val (.int p3), .val (.ref ms), .val (.int st), .val (.int co), .val (.int kd), .val (.int (Int32.ofNat pn)), .val (.int (Int32.ofNat qn)), .val (.int ap), .val (.int xx), .val (.int c0), .val (.int c1), .val (.int yd), .unset, .unset, .unset, .unset, .unset, .unset, .unset] [(.ref ca), (.ref ca)])) _
    refine XS.bipush X_31.here hx rfl (hb hby at_211) ?_
    show Steps p.tables e below (T_31.setTop (mkF m 213 #[.val (.int p0), .val (.int p1), .val (.int p2), .val (.int p3), .val (.ref ms), .val (.int st), .val (.int co), .val (.int kd), .val (.int (Int32.ofNat pn)), .val (.int (Int32.ofNat qn)), .val (.int ap), .val (.int xx), .val (.int c0), .val (.int c1), .val (.int yd), .unset, .unset, .unset, .unset, .unset, .unset, .unset] [(.int (15 : Int32)), (.ref ca), (.ref ca)])) _
    refine XS.bipush X_31.here hx rfl (hb hby at_213) ?_
    exact ktg)
  obtain ⟨cl__37, Ar__37, q__37, S__37, N__37, H__37, G__37⟩ := id f_34
  have hin__37 : ¬ ((15 : Int32) < 0 ∨ cl__37.slots.size ≤ ((15 : Int32)).toNatClampNeg) := inb_of S__37 ⟨by decide, by decide⟩
  obtain ⟨T_38, h_38, X_38, e_38, W_38, st_38⟩ := stC X_31 hx hZ e_31 Ar__37 (j := (15 : Int32)) hin__37 (g := (mkF m 215 #[.val (.int p0), .val (.int p1), .val (.int p2), .val (.int p3), .val (.ref ms), .val (.int st), .val (.int co), .val (.int kd), .val (.int (Int32.ofNat pn)), .val (.int (Int32.ofNat qn)), .val (.int ap), .val (.int xx), .val (.int c0), .val (.int c1), .val (.int yd), .unset, .unset, .unset, .unset, .unset, .unset, .unset] [(.int (97 : Int32)), (.int (15 : Int32)), (.ref ca), (.ref ca)])) rfl rfl (hb hby at_215)
  have pre_38 : Rch p.tables e below (T0.setTop (mkF m 180 #[.val (.int p0), .val (.int p1), .val (.int p2), .val (.int p3), .val (.ref ms), .val (.int st), .val (.int co), .val (.int kd), .val (.int (Int32.ofNat pn)), .val (.int (Int32.ofNat qn)), .val (.int ap), .val (.int xx), .val (.int c0), .val (.int c1), .val (.int yd), .unset, .unset, .unset, .unset, .unset, .unset, .unset] [(.ref ca)])) (T_38.setTop (mkF m 216 #[.val (.int p0), .val (.int p1), .val (.int p2), .val (.int p3), .val (.ref ms), .val (.int st), .val (.int co), .val (.int kd), .val (.int (Int32.ofNat pn)), .val (.int (Int32.ofNat qn)), .val (.int ap), .val (.int xx), .val (.int c0), .val (.int c1), .val (.int yd), .unset, .unset, .unset, .unset, .unset, .unset, .unset] [(.ref ca)])) := fun tgt ktg => pre_36 tgt (st_38 tgt ktg)
  have z_39 : n0 ≤ h_38.size := Nat.le_trans z_32 (Keep.of_wr W_38).1
  have K_40 : Keep h0 h_38 [ca] := K_33.wr W_38 (Or.inl (List.mem_of_getElem? (i := 0) rfl))
  have f_41 : Arv Z h_38 ca kc .char (38 : Int32) [(.int c0), (.int (60 : Int32)), (.int (115 : Int32)), (.int (111 : Int32)), (.int (97 : Int32)), (.int (112 : Int32)), (.int (58 : Int32)), (.int (86 : Int32)), (.int (97 : Int32)), (.int (108 : Int32)), (.int (117 : Int32)), (.int (101 : Int32)), (.int (62 : Int32)), (.int (115 : Int32)), (.int (111 : Int32)), (.int (nar .char (97 : Int32))), (.int (0 : Int32)), (.int (0 : Int32)), (.int (0 : Int32)), (.int (0 : Int32)), (.int (0 : Int32)), (.int (0 : Int32)), (.int (0 : Int32)), (.int (0 : Int32)), (.int (0 : Int32)), (.int (0 : Int32)), (.int (0 : Int32)), (.int (0 : Int32)), (.int (0 : Int32)), (.int (0 : Int32)), (.int (0 : Int32)), (.int (0 : Int32)), (.int (0 : Int32)), (.int (0 : Int32)), (.int (0 : Int32)), (.int (0 : Int32)), (.int (0 : Int32)), (.int (0 : Int32))] (.int (0 : Int32)) := Arv.set Ar__37 q__37 S__37 N__37 H__37 G__37 (fits_nar_char _) W_38 15 rfl (Nat.le_of_ble_eq_true rfl)
  have N_42 := Fr.snoc X_38 N_35 gca
  rw [(by decide : nar .char (97 : Int32) = (97 : Int32))] at f_41
  have pre_43 : Rch p.tables e below (T0.setTop (mkF m 180 #[.val (.int p0), .val (.int p1), .val (.int p2), .val (.int p3), .val (.ref ms), .val (.int st), .val (.int co), .val (.int kd), .val (.int (Int32.ofNat pn)), .val (.int (Int32.ofNat qn)), .val (.int ap), .val (.int xx), .val (.int c0), .val (.int c1), .val (.int yd), .unset, .unset, .unset, .unset, .unset, .unset, .unset] [(.ref ca)])) (T_38.setTop (mkF m 221 #[.val (.int p0), .val (.int p1), .val (.int p2), .val (.int p3), .val (.ref ms), .val (.int st), .val (.int co), .val (.int kd), .val (.int (Int32.ofNat pn)), .val (.int (Int32.ofNat qn)), .val (.int ap), .val (.int xx), .val (.int c0), .val (.int c1), .val (.int yd), .unset, .unset, .unset, .unset, .unset, .unset, .unset] [(.int (112 : Int32)), (.int (16 : Int32)), (.ref ca), (.ref ca)])) := fun tgt ktg => pre_38 tgt (by
    show Steps p.tables e below (T_38.setTop (mkF m 216 #[.val (.int p0), .val (.int p1), .val (.int p2), .val (.int p3), .val (.ref ms), .val (.int st), .val (.int co), .val (.int kd), .val (.int (Int32.ofNat pn)), .val (.int (Int32.ofNat qn)), .val (.int ap), .val (.int xx), .val (.int c0), .val (.int c1), .val (.int yd), .unset, .unset, .unset, .unset, .unset, .unset, .unset] [(.ref ca)])) _
    refine XS.dup X_38.here hx rfl (hb hby at_216) rfl rfl ?_
    show Steps p.tables e below (T_38.setTop (mkF m 217 #[.val (.int p0), .val (.int p1), .val (.int p2), .val (.int p3), .val (.ref ms), .val (.int st), .val (.int co), .val (.int kd), .val (.int (Int32.ofNat pn)), .val (.int (Int32.ofNat qn)), .val (.int ap), .val (.int xx), .val (.int c0), .val (.int c1), .val (.int yd), .unset, .unset, .unset, .unset, .unset, .unset, .unset] [(.ref ca), (.ref ca)])) _
    refine XS.bipush X_38.here hx rfl (hb hby at_217) ?_
    show Steps p.tables e below (T_38.setTop (mkF m 219 #[.val (.int p0), .val (.int p1), .val (.int p2), .val (.int p3), .val (.ref ms), .val (.int st), .val (.int co), .val (.int kd), .val (.int (Int32.ofNat pn)), .val (.int (Int32.ofNat qn)), .val (.int ap), .val (.int xx), .val (.int c0), .val (.int c1), .val (.int yd), .unset, .unset, .unset, .unset, .unset, .unset, .unset] [(.int (16 : Int32)), (.ref ca), (.ref ca)])) _
    refine XS.bipush X_38.here hx rfl (hb hby at_219) ?_
    exact ktg)
  obtain ⟨cl__44, Ar__44, q__44, S__44, N__44, H__44, G__44⟩ := id f_41
  have hin__44 : ¬ ((16 : Int32) < 0 ∨ cl__44.slots.size ≤ ((16 : Int32)).toNatClampNeg) := inb_of S__44 ⟨by decide, by decide⟩
  obtain ⟨T_45, h_45, X_45, e_45, W_45, st_45⟩ := stC X_38 hx hZ e_38 Ar__44 (j := (16 : Int32)) hin__44 (g := (mkF m 221 #[.val (.int p0), .val (.int p1), .val (.int p2), .val (.int p3), .val (.ref ms), .val (.int st), .val (.int co), .val (.int kd), .val (.int (Int32.ofNat pn)), .val (.int (Int32.ofNat qn)), .val (.int ap), .val (.int xx), .val (.int c0), .val (.int c1), .val (.int yd), .unset, .unset, .unset, .unset, .unset, .unset, .unset] [(.int (112 : Int32)), (.int (16 : Int32)), (.ref ca), (.ref ca)])) rfl rfl (hb hby at_221)
  have pre_45 : Rch p.tables e below (T0.setTop (mkF m 180 #[.val (.int p0), .val (.int p1), .val (.int p2), .val (.int p3), .val (.ref ms), .val (.int st), .val (.int co), .val (.int kd), .val (.int (Int32.ofNat pn)), .val (.int (Int32.ofNat qn)), .val (.int ap), .val (.int xx), .val (.int c0), .val (.int c1), .val (.int yd), .unset, .unset, .unset, .unset, .unset, .unset, .unset] [(.ref ca)])) (T_45.setTop (mkF m 222 #[.val (.int p0), .val (.int p1), .val (.int p2), .val (.int p3), .val (.ref ms), .val (.int st), .val (.int co), .val (.int kd), .val (.int (Int32.ofNat pn)), .val (.int (Int32.ofNat qn)), .val (.int ap), .val (.int xx), .val (.int c0), .val (.int c1), .val (.int yd), .unset, .unset, .unset, .unset, .unset, .unset, .unset] [(.ref ca)])) := fun tgt ktg => pre_43 tgt (st_45 tgt ktg)
  have z_46 : n0 ≤ h_45.size := Nat.le_trans z_39 (Keep.of_wr W_45).1
  have K_47 : Keep h0 h_45 [ca] := K_40.wr W_45 (Or.inl (List.mem_of_getElem? (i := 0) rfl))
  have f_48 : Arv Z h_45 ca kc .char (38 : Int32) [(.int c0), (.int (60 : Int32)), (.int (115 : Int32)), (.int (111 : Int32)), (.int (97 : Int32)), (.int (112 : Int32)), (.int (58 : Int32)), (.int (86 : Int32)), (.int (97 : Int32)), (.int (108 : Int32)), (.int (117 : Int32)), (.int (101 : Int32)), (.int (62 : Int32)), (.int (115 : Int32)), (.int (111 : Int32)), (.int (97 : Int32)), (.int (nar .char (112 : Int32))), (.int (0 : Int32)), (.int (0 : Int32)), (.int (0 : Int32)), (.int (0 : Int32)), (.int (0 : Int32)), (.int (0 : Int32)), (.int (0 : Int32)), (.int (0 : Int32)), (.int (0 : Int32)), (.int (0 : Int32)), (.int (0 : Int32)), (.int (0 : Int32)), (.int (0 : Int32)), (.int (0 : Int32)), (.int (0 : Int32)), (.int (0 : Int32)), (.int (0 : Int32)), (.int (0 : Int32)), (.int (0 : Int32)), (.int (0 : Int32)), (.int (0 : Int32))] (.int (0 : Int32)) := Arv.set Ar__44 q__44 S__44 N__44 H__44 G__44 (fits_nar_char _) W_45 16 rfl (Nat.le_of_ble_eq_true rfl)
  have N_49 := Fr.snoc X_45 N_42 gca
  rw [(by decide : nar .char (112 : Int32) = (112 : Int32))] at f_48
  have pre_50 : Rch p.tables e below (T0.setTop (mkF m 180 #[.val (.int p0), .val (.int p1), .val (.int p2), .val (.int p3), .val (.ref ms), .val (.int st), .val (.int co), .val (.int kd), .val (.int (Int32.ofNat pn)), .val (.int (Int32.ofNat qn)), .val (.int ap), .val (.int xx), .val (.int c0), .val (.int c1), .val (.int yd), .unset, .unset, .unset, .unset, .unset, .unset, .unset] [(.ref ca)])) (T_45.setTop (mkF m 227 #[.val (.int p0), .val (.int p1), .val (.int p2), .val (.int p3), .val (.ref ms), .val (.int st), .val (.int co), .val (.int kd), .val (.int (Int32.ofNat pn)), .val (.int (Int32.ofNat qn)), .val (.int ap), .val (.int xx), .val (.int c0), .val (.int c1), .val (.int yd), .unset, .unset, .unset, .unset, .unset, .unset, .unset] [(.int (58 : Int32)), (.int (17 : Int32)), (.ref ca), (.ref ca)])) := fun tgt ktg => pre_45 tgt (by
    show Steps p.tables e below (T_45.setTop (mkF m 222 #[.val (.int p0), .val (.int p1), .val (.int p2), .val (.int p3), .val (.ref ms), .val (.int st), .val (.int co), .val (.int kd), .val (.int (Int32.ofNat pn)), .val (.int (Int32.ofNat qn)), .val (.int ap), .val (.int xx), .val (.int c0), .val (.int c1), .val (.int yd), .unset, .unset, .unset, .unset, .unset, .unset, .unset] [(.ref ca)])) _
    refine XS.dup X_45.here hx rfl (hb hby at_222) rfl rfl ?_
    show Steps p.tables e below (T_45.setTop (mkF m 223 #[.val (.int p0), .val (.int p1), .val (.int p2), .val (.int p3), .val (.ref ms), .val (.int st), .val (.int co), .val (.int kd), .val (.int (Int32.ofNat pn)), .val (.int (Int32.ofNat qn)), .val (.int ap), .val (.int xx), .val (.int c0), .val (.int c1), .val (.int yd), .unset, .unset, .unset, .unset, .unset, .unset, .unset] [(.ref ca), (.ref ca)])) _
    refine XS.bipush X_45.here hx rfl (hb hby at_223) ?_
    show Steps p.tables e below (T_45.setTop (mkF m 225 #[.val (.int p0), .val (.int p1), .val (.int p2), .val (.int p3), .val (.ref ms), .val (.int st), .val (.int co), .val (.int kd), .val (.int (Int32.ofNat pn)), .val (.int (Int32.ofNat qn)), .val (.int ap), .val (.int xx), .val (.int c0), .val (.int c1), .val (.int yd), .unset, .unset, .unset, .unset, .unset, .unset, .unset] [(.int (17 : Int32)), (.ref ca), (.ref ca)])) _
    refine XS.bipush X_45.here hx rfl (hb hby at_225) ?_
    exact ktg)
  obtain ⟨cl__51, Ar__51, q__51, S__51, N__51, H__51, G__51⟩ := id f_48
  have hin__51 : ¬ ((17 : Int32) < 0 ∨ cl__51.slots.size ≤ ((17 : Int32)).toNatClampNeg) := inb_of S__51 ⟨by decide, by decide⟩
  obtain ⟨T_52, h_52, X_52, e_52, W_52, st_52⟩ := stC X_45 hx hZ e_45 Ar__51 (j := (17 : Int32)) hin__51 (g := (mkF m 227 #[.val (.int p0), .val (.int p1), .val (.int p2), .val (.int p3), .val (.ref ms), .val (.int st), .val (.int co), .val (.int kd), .val (.int (Int32.ofNat pn)), .val (.int (Int32.ofNat qn)), .val (.int ap), .val (.int xx), .val (.int c0), .val (.int c1), .val (.int yd), .unset, .unset, .unset, .unset, .unset, .unset, .unset] [(.int (58 : Int32)), (.int (17 : Int32)), (.ref ca), (.ref ca)])) rfl rfl (hb hby at_227)
  have pre_52 : Rch p.tables e below (T0.setTop (mkF m 180 #[.val (.int p0), .val (.int p1), .val (.int p2), .val (.int p3), .val (.ref ms), .val (.int st), .val (.int co), .val (.int kd), .val (.int (Int32.ofNat pn)), .val (.int (Int32.ofNat qn)), .val (.int ap), .val (.int xx), .val (.int c0), .val (.int c1), .val (.int yd), .unset, .unset, .unset, .unset, .unset, .unset, .unset] [(.ref ca)])) (T_52.setTop (mkF m 228 #[.val (.int p0), .val (.int p1), .val (.int p2), .val (.int p3), .val (.ref ms), .val (.int st), .val (.int co), .val (.int kd), .val (.int (Int32.ofNat pn)), .val (.int (Int32.ofNat qn)), .val (.int ap), .val (.int xx), .val (.int c0), .val (.int c1), .val (.int yd), .unset, .unset, .unset, .unset, .unset, .unset, .unset] [(.ref ca)])) := fun tgt ktg => pre_50 tgt (st_52 tgt ktg)
  have z_53 : n0 ≤ h_52.size := Nat.le_trans z_46 (Keep.of_wr W_52).1
  have K_54 : Keep h0 h_52 [ca] := K_47.wr W_52 (Or.inl (List.mem_of_getElem? (i := 0) rfl))
  have f_55 : Arv Z h_52 ca kc .char (38 : Int32) [(.int c0), (.int (60 : Int32)), (.int (115 : Int32)), (.int (111 : Int32)), (.int (97 : Int32)), (.int (112 : Int32)), (.int (58 : Int32)), (.int (86 : Int32)), (.int (97 : Int32)), (.int (108 : Int32)), (.int (117 : Int32)), (.int (101 : Int32)), (.int (62 : Int32)), (.int (115 : Int32)), (.int (111 : Int32)), (.int (97 : Int32)), (.int (112 : Int32)), (.int (nar .char (58 : Int32))), (.int (0 : Int32)), (.int (0 : Int32)), (.int (0 : Int32)), (.int (0 : Int32)), (.int (0 : Int32)), (.int (0 : Int32)), (.int (0 : Int32)), (.int (0 : Int32)), (.int (0 : Int32)), (.int (0 : Int32)), (.int (0 : Int32)), (.int (0 : Int32)), (.int (0 : Int32)), (.int (0 : Int32)), (.int (0 : Int32)), (.int (0 : Int32)), (.int (0 : Int32)), (.int (0 : Int32)), (.int (0 : Int32)), (.int (0 : Int32))] (.int (0 : Int32)) := Arv.set Ar__51 q__51 S__51 N__51 H__51 G__51 (fits_nar_char _) W_52 17 rfl (Nat.le_of_ble_eq_true rfl)
  have N_56 := Fr.snoc X_52 N_49 gca
  rw [(by decide : nar .char (58 : Int32) = (58 : Int32))] at f_55
  have pre_57 : Rch p.tables e below (T0.setTop (mkF m 180 #[.val (.int p0), .val (.int p1), .val (.int p2), .val (.int p3), .val (.ref ms), .val (.int st), .val (.int co), .val (.int kd), .val (.int (Int32.ofNat pn)), .val (.int (Int32.ofNat qn)), .val (.int ap), .val (.int xx), .val (.int c0), .val (.int c1), .val (.int yd), .unset, .unset, .unset, .unset, .unset, .unset, .unset] [(.ref ca)])) (T_52.setTop (mkF m 233 #[.val (.int p0), .val (.int p1), .val (.int p2), .val (.int p3), .val (.ref ms), .val (.int st), .val (.int co), .val (.int kd), .val (.int (Int32.ofNat pn)), .val (.int (Int32.ofNat qn)), .val (.int ap), .val (.int xx), .val (.int c0), .val (.int c1), .val (.int yd), .unset, .unset, .unset, .unset, .unset, .unset, .unset] [(.int (83 : Int32)), (.int (18 : Int32)), (.ref ca), (.ref ca)])) := fun tgt ktg => pre_52 tgt (by
    show Steps p.tables e below (T_52.setTop (mkF m 228 #[.val (.int p0), .val (.int p1), .val (.int p2), .val (.int p3), .val (.ref ms), .val (.int st), .val (.int co), .val (.int kd), .val (.int (Int32.ofNat pn)), .val (.int (Int32.ofNat qn)), .val (.int ap), .val (.int xx), .val (.int c0), .val (.int c1), .val (.int yd), .unset, .unset, .unset, .unset, .unset, .unset, .unset] [(.ref ca)])) _
    refine XS.dup X_52.here hx rfl (hb hby at_228) rfl rfl ?_
    show Steps p.tables e below (T_52.setTop (mkF m 229 #[.val (.int p0), .val (.int p1), .val (.int p2), .val (.int p3), .val (.ref ms), .val (.int st), .val (.int co), .val (.int kd), .val (.int (Int32.ofNat pn)), .val (.int (Int32.ofNat qn)), .val (.int ap), .val (.int xx), .val (.int c0), .val (.int c1), .val (.int yd), .unset, .unset, .unset, .unset, .unset, .unset, .unset] [(.ref ca), (.ref ca)])) _
    refine XS.bipush X_52.here hx rfl (hb hby at_229) ?_
    show Steps p.tables e below (T_52.setTop (mkF m 231 #[.val (.int p0), .val (.int p1), .val (.int p2), .val (.int p3), .val (.ref ms), .val (.int st), .val (.int co), .val (.int kd), .val (.int (Int32.ofNat pn)), .val (.int (Int32.ofNat qn)), .val (.int ap), .val (.int xx), .val (.int c0), .val (.int c1), .val (.int yd), .unset, .unset, .unset, .unset, .unset, .unset, .unset] [(.int (18 : Int32)), (.ref ca), (.ref ca)])) _
    refine XS.bipush X_52.here hx rfl (hb hby at_231) ?_
    exact ktg)
  obtain ⟨cl__58, Ar__58, q__58, S__58, N__58, H__58, G__58⟩ := id f_55
  have hin__58 : ¬ ((18 : Int32) < 0 ∨ cl__58.slots.size ≤ ((18 : Int32)).toNatClampNeg) := inb_of S__58 ⟨by decide, by decide⟩
  obtain ⟨T_59, h_59, X_59, e_59, W_59, st_59⟩ := stC X_52 hx hZ e_52 Ar__58 (j := (18 : Int32)) hin__58 (g := (mkF m 233 #[.val (.int p0), .val (.int p1), .val (.int p2), .val (.int p3), .val (.ref ms), .val (.int st), .val (.int co), .val (.int kd), .val (.int (Int32.ofNat pn)), .val (.int (Int32.ofNat qn)), .val (.int ap), .val (.int xx), .val (.int c0), .val (.int c1), .val (.int yd), .unset, .unset, .unset, .unset, .unset, .unset, .unset] [(.int (83 : Int32)), (.int (18 : Int32)), (.ref ca), (.ref ca)])) rfl rfl (hb hby at_233)
  have pre_59 : Rch p.tables e below (T0.setTop (mkF m 180 #[.val (.int p0), .val (.int p1), .val (.int p2), .val (.int p3), .val (.ref ms), .val (.int st), .val (.int co), .val (.int kd), .val (.int (Int32.ofNat pn)), .val (.int (Int32.ofNat qn)), .val (.int ap), .val (.int xx), .val (.int c0), .val (.int c1), .val (.int yd), .unset, .unset, .unset, .unset, .unset, .unset, .unset] [(.ref ca)])) (T_59.setTop (mkF m 234 #[.val (.int p0), .val (.int p1), .val (.int p2), .val (.int p3), .val (.ref ms), .val (.int st), .val (.int co), .val (.int kd), .val (.int (Int32.ofNat pn)), .val (.int (Int32.ofNat qn)), .val (.int ap), .val (.int xx), .val (.int c0), .val (.int c1), .val (.int yd), .unset, .unset, .unset, .unset, .unset, .unset, .unset] [(.ref ca)])) := fun tgt ktg => pre_57 tgt (st_59 tgt ktg)
  have z_60 : n0 ≤ h_59.size := Nat.le_trans z_53 (Keep.of_wr W_59).1
  have K_61 : Keep h0 h_59 [ca] := K_54.wr W_59 (Or.inl (List.mem_of_getElem? (i := 0) rfl))
  have f_62 : Arv Z h_59 ca kc .char (38 : Int32) [(.int c0), (.int (60 : Int32)), (.int (115 : Int32)), (.int (111 : Int32)), (.int (97 : Int32)), (.int (112 : Int32)), (.int (58 : Int32)), (.int (86 : Int32)), (.int (97 : Int32)), (.int (108 : Int32)), (.int (117 : Int32)), (.int (101 : Int32)), (.int (62 : Int32)), (.int (115 : Int32)), (.int (111 : Int32)), (.int (97 : Int32)), (.int (112 : Int32)), (.int (58 : Int32)), (.int (nar .char (83 : Int32))), (.int (0 : Int32)), (.int (0 : Int32)), (.int (0 : Int32)), (.int (0 : Int32)), (.int (0 : Int32)), (.int (0 : Int32)), (.int (0 : Int32)), (.int (0 : Int32)), (.int (0 : Int32)), (.int (0 : Int32)), (.int (0 : Int32)), (.int (0 : Int32)), (.int (0 : Int32)), (.int (0 : Int32)), (.int (0 : Int32)), (.int (0 : Int32)), (.int (0 : Int32)), (.int (0 : Int32)), (.int (0 : Int32))] (.int (0 : Int32)) := Arv.set Ar__58 q__58 S__58 N__58 H__58 G__58 (fits_nar_char _) W_59 18 rfl (Nat.le_of_ble_eq_true rfl)
  have N_63 := Fr.snoc X_59 N_56 gca
  rw [(by decide : nar .char (83 : Int32) = (83 : Int32))] at f_62
  have pre_64 : Rch p.tables e below (T0.setTop (mkF m 180 #[.val (.int p0), .val (.int p1), .val (.int p2), .val (.int p3), .val (.ref ms), .val (.int st), .val (.int co), .val (.int kd), .val (.int (Int32.ofNat pn)), .val (.int (Int32.ofNat qn)), .val (.int ap), .val (.int xx), .val (.int c0), .val (.int c1), .val (.int yd), .unset, .unset, .unset, .unset, .unset, .unset, .unset] [(.ref ca)])) (T_59.setTop (mkF m 239 #[.val (.int p0), .val (.int p1), .val (.int p2), .val (.int p3), .val (.ref ms), .val (.int st), .val (.int co), .val (.int kd), .val (.int (Int32.ofNat pn)), .val (.int (Int32.ofNat qn)), .val (.int ap), .val (.int xx), .val (.int c0), .val (.int c1), .val (.int yd), .unset, .unset, .unset, .unset, .unset, .unset, .unset] [(.int (101 : Int32)), (.int (19 : Int32)), (.ref ca), (.ref ca)])) := fun tgt ktg => pre_59 tgt (by
    show Steps p.tables e below (T_59.setTop (mkF m 234 #[.val (.int p0), .val (.int p1), .val (.int p2), .val (.int p3), .val (.ref ms), .val (.int st), .val (.int co), .val (.int kd), .val (.int (Int32.ofNat pn)), .val (.int (Int32.ofNat qn)), .val (.int ap), .val (.int xx), .val (.int c0), .val (.int c1), .val (.int yd), .unset, .unset, .unset, .unset, .unset, .unset, .unset] [(.ref ca)])) _
    refine XS.dup X_59.here hx rfl (hb hby at_234) rfl rfl ?_
    show Steps p.tables e below (T_59.setTop (mkF m 235 #[.val (.int p0), .val (.int p1), .val (.int p2), .val (.int p3), .val (.ref ms), .val (.int st), .val (.int co), .val (.int kd), .val (.int (Int32.ofNat pn)), .val (.int (Int32.ofNat qn)), .val (.int ap), .val (.int xx), .val (.int c0), .val (.int c1), .val (.int yd), .unset, .unset, .unset, .unset, .unset, .unset, .unset] [(.ref ca), (.ref ca)])) _
    refine XS.bipush X_59.here hx rfl (hb hby at_235) ?_
    show Steps p.tables e below (T_59.setTop (mkF m 237 #[.val (.int p0), .val (.int p1), .val (.int p2), .val (.int p3), .val (.ref ms), .val (.int st), .val (.int co), .val (.int kd), .val (.int (Int32.ofNat pn)), .val (.int (Int32.ofNat qn)), .val (.int ap), .val (.int xx), .val (.int c0), .val (.int c1), .val (.int yd), .unset, .unset, .unset, .unset, .unset, .unset, .unset] [(.int (19 : Int32)), (.ref ca), (.ref ca)])) _
    refine XS.bipush X_59.here hx rfl (hb hby at_237) ?_
    exact ktg)
  obtain ⟨cl__65, Ar__65, q__65, S__65, N__65, H__65, G__65⟩ := id f_62
  have hin__65 : ¬ ((19 : Int32) < 0 ∨ cl__65.slots.size ≤ ((19 : Int32)).toNatClampNeg) := inb_of S__65 ⟨by decide, by decide⟩
  obtain ⟨T_66, h_66, X_66, e_66, W_66, st_66⟩ := stC X_59 hx hZ e_59 Ar__65 (j := (19 : Int32)) hin__65 (g := (mkF m 239 #[.val (.int p0), .val (.int p1), .val (.int p2), .val (.int p3), .val (.ref ms), .val (.int st), .val (.int co), .val (.int kd), .val (.int (Int32.ofNat pn)), .val (.int (Int32.ofNat qn)), .val (.int ap), .val (.int xx), .val (.int c0), .val (.int c1), .val (.int yd), .unset, .unset, .unset, .unset, .unset, .unset, .unset] [(.int (101 : Int32)), (.int (19 : Int32)), (.ref ca), (.ref ca)])) rfl rfl (hb hby at_239)
  have pre_66 : Rch p.tables e below (T0.setTop (mkF m 180 #[.val (.int p0), .val (.int p1), .val (.int p2), .val (.int p3), .val (.ref ms), .val (.int st), .val (.int co), .val (.int kd), .val (.int (Int32.ofNat pn)), .val (.int (Int32.ofNat qn)), .val (.int ap), .val (.int xx), .val (.int c0), .val (.int c1), .val (.int yd), .unset, .unset, .unset, .unset, .unset, .unset, .unset] [(.ref ca)])) (T_66.setTop (mkF m 240 #[.val (.int p0), .val (.int p1), .val (.int p2), .val (.int p3), .val (.ref ms), .val (.int st), .val (.int co), .val (.int kd), .val (.int (Int32.ofNat pn)), .val (.int (Int32.ofNat qn)), .val (.int ap), .val (.int xx), .val (.int c0), .val (.int c1), .val (.int yd), .unset, .unset, .unset, .unset, .unset, .unset, .unset] [(.ref ca)])) := fun tgt ktg => pre_64 tgt (st_66 tgt ktg)
  have z_67 : n0 ≤ h_66.size := Nat.le_trans z_60 (Keep.of_wr W_66).1
  have K_68 : Keep h0 h_66 [ca] := K_61.wr W_66 (Or.inl (List.mem_of_getElem? (i := 0) rfl))
  have f_69 : Arv Z h_66 ca kc .char (38 : Int32) [(.int c0), (.int (60 : Int32)), (.int (115 : Int32)), (.int (111 : Int32)), (.int (97 : Int32)), (.int (112 : Int32)), (.int (58 : Int32)), (.int (86 : Int32)), (.int (97 : Int32)), (.int (108 : Int32)), (.int (117 : Int32)), (.int (101 : Int32)), (.int (62 : Int32)), (.int (115 : Int32)), (.int (111 : Int32)), (.int (97 : Int32)), (.int (112 : Int32)), (.int (58 : Int32)), (.int (83 : Int32)), (.int (nar .char (101 : Int32))), (.int (0 : Int32)), (.int (0 : Int32)), (.int (0 : Int32)), (.int (0 : Int32)), (.int (0 : Int32)), (.int (0 : Int32)), (.int (0 : Int32)), (.int (0 : Int32)), (.int (0 : Int32)), (.int (0 : Int32)), (.int (0 : Int32)), (.int (0 : Int32)), (.int (0 : Int32)), (.int (0 : Int32)), (.int (0 : Int32)), (.int (0 : Int32)), (.int (0 : Int32)), (.int (0 : Int32))] (.int (0 : Int32)) := Arv.set Ar__65 q__65 S__65 N__65 H__65 G__65 (fits_nar_char _) W_66 19 rfl (Nat.le_of_ble_eq_true rfl)
  have N_70 := Fr.snoc X_66 N_63 gca
  rw [(by decide : nar .char (101 : Int32) = (101 : Int32))] at f_69
  exact ⟨T_66, h_66, _, X_66, e_66, N_70, K_68, z_67, f_69, pre_66⟩
set_option maxRecDepth 65536 in
set_option maxHeartbeats 40000000 in
theorem pcfl20 {p : Program} {l : Launch} {e : Env} {s : State} {m : MethodId} {args : Array Value} {below : List Frame} {meth : Method} {c : Code} {T0 : State} {locs : List Loc} {cells slots : Nat} {Z : State} {a0 : Array Value} {h0 : Heap} {n0 : Nat} {p0 p1 p2 p3 st co kd ap xx c0 c1 yd : Int32} {pn qn : Nat} {ms ca : Addr} {kc : ClassId}
    (X0 : Stand p l e room_1 s m args below meth c T0 locs cells slots) (hx : p.tables.exec = Jvm.exec) (hZ : Z.Warmed39 s.vm) (hw : ∀ d ∈ tables_1, d.before a0 Z = true) (hby : c.code = code) (hml : c.maxLocals = 22) (hown : s.vm.findClass "ResponseIsSenderFaultPinLaw" = some m.cls) (hce : cells ≤ room_1.cells) (hsl : slots ≤ room_1.slots) (e0 : T0.heap = h0) (N0 : Fr n0 locs) (Z0 : n0 ≤ h0.size) (A0 : Arv Z h0 ca kc .char (38 : Int32) [(.int c0), (.int (60 : Int32)), (.int (115 : Int32)), (.int (111 : Int32)), (.int (97 : Int32)), (.int (112 : Int32)), (.int (58 : Int32)), (.int (86 : Int32)), (.int (97 : Int32)), (.int (108 : Int32)), (.int (117 : Int32)), (.int (101 : Int32)), (.int (62 : Int32)), (.int (115 : Int32)), (.int (111 : Int32)), (.int (97 : Int32)), (.int (112 : Int32)), (.int (58 : Int32)), (.int (83 : Int32)), (.int (101 : Int32)), (.int (0 : Int32)), (.int (0 : Int32)), (.int (0 : Int32)), (.int (0 : Int32)), (.int (0 : Int32)), (.int (0 : Int32)), (.int (0 : Int32)), (.int (0 : Int32)), (.int (0 : Int32)), (.int (0 : Int32)), (.int (0 : Int32)), (.int (0 : Int32)), (.int (0 : Int32)), (.int (0 : Int32)), (.int (0 : Int32)), (.int (0 : Int32)), (.int (0 : Int32)), (.int (0 : Int32))] (.int (0 : Int32))) (gca : n0 ≤ ca) (hc0 : ¬ c0 < 0 ∧ ¬ (255 : Int32) < c0) (hc1 : ¬ c1 < 0 ∧ ¬ (255 : Int32) < c1) :
    ∃ (T' : State) (h' : Heap) (L' : List Loc), Stand p l e room_1 s m args below meth c T' L' cells slots ∧ T'.heap = h' ∧ Fr n0 L' ∧ Keep h0 h' [ca] ∧ n0 ≤ h'.size ∧ (Arv Z h' ca kc .char (38 : Int32) [(.int c0), (.int (60 : Int32)), (.int (115 : Int32)), (.int (111 : Int32)), (.int (97 : Int32)), (.int (112 : Int32)), (.int (58 : Int32)), (.int (86 : Int32)), (.int (97 : Int32)), (.int (108 : Int32)), (.int (117 : Int32)), (.int (101 : Int32)), (.int (62 : Int32)), (.int (115 : Int32)), (.int (111 : Int32)), (.int (97 : Int32)), (.int (112 : Int32)), (.int (58 : Int32)), (.int (83 : Int32)), (.int (101 : Int32)), (.int (110 : Int32)), (.int (100 : Int32)), (.int (101 : Int32)), (.int (114 : Int32)), (.int (60 : Int32)), (.int (47 : Int32)), (.int (115 : Int32)), (.int (111 : Int32)), (.int (97 : Int32)), (.int (112 : Int32)), (.int (0 : Int32)), (.int (0 : Int32)), (.int (0 : Int32)), (.int (0 : Int32)), (.int (0 : Int32)), (.int (0 : Int32)), (.int (0 : Int32)), (.int (0 : Int32))] (.int (0 : Int32))) ∧ Rch p.tables e below (T0.setTop (mkF m 240 #[.val (.int p0), .val (.int p1), .val (.int p2), .val (.int p3), .val (.ref ms), .val (.int st), .val (.int co), .val (.int kd), .val (.int (Int32.ofNat pn)), .val (.int (Int32.ofNat qn)), .val (.int ap), .val (.int xx), .val (.int c0), .val (.int c1), .val (.int yd), .unset, .unset, .unset, .unset, .unset, .unset, .unset] [(.ref ca)])) (T'.setTop (mkF m 300 #[.val (.int p0), .val (.int p1), .val (.int p2), .val (.int p3), .val (.ref ms), .val (.int st), .val (.int co), .val (.int kd), .val (.int (Int32.ofNat pn)), .val (.int (Int32.ofNat qn)), .val (.int ap), .val (.int xx), .val (.int c0), .val (.int c1), .val (.int yd), .unset, .unset, .unset, .unset, .unset, .unset, .unset] [(.ref ca)])) := by
  have K0 : Keep h0 h0 [ca] := Keep.refl _ _
  have pre0 : Rch p.tables e below (T0.setTop (mkF m 240 #[.val (.int p0), .val (.int p1), .val (.int p2), .val (.int p3), .val (.ref ms), .val (.int st), .val (.int co), .val (.int kd), .val (.int (Int32.ofNat pn)), .val (.int (Int32.ofNat qn)), .val (.int ap), .val (.int xx), .val (.int c0), .val (.int c1), .val (.int yd), .unset, .unset, .unset, .unset, .unset, .unset, .unset] [(.ref ca)])) (T0.setTop (mkF m 240 #[.val (.int p0), .val (.int p1), .val (.int p2), .val (.int p3), .val (.ref ms), .val (.int st), .val (.int co), .val (.int kd), .val (.int (Int32.ofNat pn)), .val (.int (Int32.ofNat qn)), .val (.int ap), .val (.int xx), .val (.int c0), .val (.int c1), .val (.int yd), .unset, .unset, .unset, .unset, .unset, .unset, .unset] [(.ref ca)])) := fun tgt ktg => ktg
  have pre_1 : Rch p.tables e below (T0.setTop (mkF m 240 #[.val (.int p0), .val (.int p1), .val (.int p2), .val (.int p3), .val (.ref ms), .val (.int st), .val (.int co), .val (.int kd), .val (.int (Int32.ofNat pn)), .val (.int (Int32.ofNat qn)), .val (.int ap), .val (.int xx), .val (.int c0), .val (.int c1), .val (.int yd), .unset, .unset, .unset, .unset, .unset, .unset, .unset] [(.ref ca)])) (T0.setTop (mkF m 245 #[.val (.int p0), .val (.int p1), .val (.int p2), .val (.int p3), .val (.ref ms), .val (.int st), .val (.int co), .val (.int kd), .val (.int (Int32.ofNat pn)), .val (.int (Int32.ofNat qn)), .val (.int ap), .val (.int xx), .val (.int c0), .val (.int c1), .val (.int yd), .unset, .unset, .unset, .unset, .unset, .unset, .unset] [(.int (110 : Int32)), (.int (20 : Int32)), (.ref ca), (.ref ca)])) := fun tgt ktg => pre0 tgt (by
    show Steps p.tables e below (T0.setTop (mkF m 240 #[.val (.int p0), .val (.int p1), .val (.int p2), .val (.int p3), .val (.ref ms), .val (.int st), .val (.int co), .val (.int kd), .val (.int (Int32.ofNat pn)), .val (.int (Int32.ofNat qn)), .val (.int ap), .val (.int xx), .val (.int c0), .val (.int c1), .val (.int yd), .unset, .unset, .unset, .unset, .unset, .unset, .unset] [(.ref ca)])) _
    refine XS.dup X0.here hx rfl (hb hby at_240) rfl rfl ?_
    show Steps p.tables e below (T0.setTop (mkF m 241 #[.val (.int p0), .val (.int p1), .val (.int p2), .val (.int p3), .val (.ref ms), .val (.int st), .val (.int co), .val (.int kd), .val (.int (Int32.ofNat pn)), .val (.int (Int32.ofNat qn)), .val (.int ap), .val (.int xx), .val (.int c0), .val (.int c1), .val (.int yd), .unset, .unset, .unset, .unset, .unset, .unset, .unset] [(.ref ca), (.ref ca)])) _
    refine XS.bipush X0.here hx rfl (hb hby at_241) ?_
    show Steps p.tables e below (T0.setTop (mkF m 243 #[.val (.int p0), .val (.int p1), .val (.int p2), .val (.int p3), .val (.ref ms), .val (.int st), .val (.int co), .val (.int kd), .val (.int (Int32.ofNat pn)), .val (.int (Int32.ofNat qn)), .val (.int ap), .val (.int xx), .val (.int c0), .val (.int c1), .val (.int yd), .unset, .unset, .unset, .unset, .unset, .unset, .unset] [(.int (20 : Int32)), (.ref ca), (.ref ca)])) _
    refine XS.bipush X0.here hx rfl (hb hby at_243) ?_
    exact ktg)
  obtain ⟨cl__2, Ar__2, q__2, S__2, N__2, H__2, G__2⟩ := id A0
  have hin__2 : ¬ ((20 : Int32) < 0 ∨ cl__2.slots.size ≤ ((20 : Int32)).toNatClampNeg) := inb_of S__2 ⟨by decide, by decide⟩
  obtain ⟨T_3, h_3, X_3, e_3, W_3, st_3⟩ := stC X0 hx hZ e0 Ar__2 (j := (20 : Int32)) hin__2 (g := (mkF m 245 #[.val (.int p0), .val (.int p1), .val (.int p2), .val (.int p3), .val (.ref ms), .val (.int st), .val (.int co), .val (.int kd), .val (.int (Int32.ofNat pn)), .val (.int (Int32.ofNat qn)), .val (.int ap), .val (.int xx), .val (.int c0), .val (.int c1), .val (.int yd), .unset, .unset, .unset, .unset, .unset, .unset, .unset] [(.int (110 : Int32)), (.int (20 : Int32)), (.ref ca), (.ref ca)])) rfl rfl (hb hby at_245)
  have pre_3 : Rch p.tables e below (T0.setTop (mkF m 240 #[.val (.int p0), .val (.int p1), .val (.int p2), .val (.int p3), .val (.ref ms), .val (.int st), .val (.int co), .val (.int kd), .val (.int (Int32.ofNat pn)), .val (.int (Int32.ofNat qn)), .val (.int ap), .val (.int xx), .val (.int c0), .val (.int c1), .val (.int yd), .unset, .unset, .unset, .unset, .unset, .unset, .unset] [(.ref ca)])) (T_3.setTop (mkF m 246 #[.val (.int p0), .val (.int p1), .val (.int p2), .val (.int p3), .val (.ref ms), .val (.int st), .val (.int co), .val (.int kd), .val (.int (Int32.ofNat pn)), .val (.int (Int32.ofNat qn)), .val (.int ap), .val (.int xx), .val (.int c0), .val (.int c1), .val (.int yd), .unset, .unset, .unset, .unset, .unset, .unset, .unset] [(.ref ca)])) := fun tgt ktg => pre_1 tgt (st_3 tgt ktg)
  have z_4 : n0 ≤ h_3.size := Nat.le_trans Z0 (Keep.of_wr W_3).1
  have K_5 : Keep h0 h_3 [ca] := K0.wr W_3 (Or.inl (List.mem_of_getElem? (i := 0) rfl))
  have f_6 : Arv Z h_3 ca kc .char (38 : Int32) [(.int c0), (.int (60 : Int32)), (.int (115 : Int32)), (.int (111 : Int32)), (.int (97 : Int32)), (.int (112 : Int32)), (.int (58 : Int32)), (.int (86 : Int32)), (.int (97 : Int32)), (.int (108 : Int32)), (.int (117 : Int32)), (.int (101 : Int32)), (.int (62 : Int32)), (.int (115 : Int32)), (.int (111 : Int32)), (.int (97 : Int32)), (.int (112 : Int32)), (.int (58 : Int32)), (.int (83 : Int32)), (.int (101 : Int32)), (.int (nar .char (110 : Int32))), (.int (0 : Int32)), (.int (0 : Int32)), (.int (0 : Int32)), (.int (0 : Int32)), (.int (0 : Int32)), (.int (0 : Int32)), (.int (0 : Int32)), (.int (0 : Int32)), (.int (0 : Int32)), (.int (0 : Int32)), (.int (0 : Int32)), (.int (0 : Int32)), (.int (0 : Int32)), (.int (0 : Int32)), (.int (0 : Int32)), (.int (0 : Int32)), (.int (0 : Int32))] (.int (0 : Int32)) := Arv.set Ar__2 q__2 S__2 N__2 H__2 G__2 (fits_nar_char _) W_3 20 rfl (Nat.le_of_ble_eq_true rfl)
  have N_7 := Fr.snoc X_3 N0 gca
  rw [(by decide : nar .char (110 : Int32) = (110 : Int32))] at f_6
  have pre_8 : Rch p.tables e below (T0.setTop (mkF m 240 #[.val (.int p0), .val (.int p1), .val (.int p2), .val (.int p3), .val (.ref ms), .val (.int st), .val (.int co), .val (.int kd), .val (.int (Int32.ofNat pn)), .val (.int (Int32.ofNat qn)), .val (.int ap), .val (.int xx), .val (.int c0), .val (.int c1), .val (.int yd), .unset, .unset, .unset, .unset, .unset, .unset, .unset] [(.ref ca)])) (T_3.setTop (mkF m 251 #[.val (.int p0), .val (.int p1), .val (.int p2), .val (.int p3), .val (.ref ms), .val (.int st), .val (.int co), .val (.int kd), .val (.int (Int32.ofNat pn)), .val (.int (Int32.ofNat qn)), .val (.int ap), .val (.int xx), .val (.int c0), .val (.int c1), .val (.int yd), .unset, .unset, .unset, .unset, .unset, .unset, .unset] [(.int (100 : Int32)), (.int (21 : Int32)), (.ref ca), (.ref ca)])) := fun tgt ktg => pre_3 tgt (by
    show Steps p.tables e below (T_3.setTop (mkF m 246 #[.val (.int p0), .val (.int p1), .val (.int p2), .val (.int p3), .val (.ref ms), .val (.int st), .val (.int co), .val (.int kd), .val (.int (Int32.ofNat pn)), .val (.int (Int32.ofNat qn)), .val (.int ap), .val (.int xx), .val (.int c0), .val (.int c1), .val (.int yd), .unset, .unset, .unset, .unset, .unset, .unset, .unset] [(.ref ca)])) _
    refine XS.dup X_3.here hx rfl (hb hby at_246) rfl rfl ?_
    show Steps p.tables e below (T_3.setTop (mkF m 247 #[.val (.int p0), .val (.int p1), .val (.int p2), .val (.int p3), .val (.ref ms), .val (.int st), .val (.int co), .val (.int kd), .val (.int (Int32.ofNat pn)), .val (.int (Int32.ofNat qn)), .val (.int ap), .val (.int xx), .val (.int c0), .val (.int c1), .val (.int yd), .unset, .unset, .unset, .unset, .unset, .unset, .unset] [(.ref ca), (.ref ca)])) _
    refine XS.bipush X_3.here hx rfl (hb hby at_247) ?_
    show Steps p.tables e below (T_3.setTop (mkF m 249 #[.val (.int p0), .val (.int p1), .val (.int p2), .val (.int p3), .val (.ref ms), .val (.int st), .val (.int co), .val (.int kd), .val (.int (Int32.ofNat pn)), .val (.int (Int32.ofNat qn)), .val (.int ap), .val (.int xx), .val (.int c0), .val (.int c1), .val (.int yd), .unset, .unset, .unset, .unset, .unset, .unset, .unset] [(.int (21 : Int32)), (.ref ca), (.ref ca)])) _
    refine XS.bipush X_3.here hx rfl (hb hby at_249) ?_
    exact ktg)
  obtain ⟨cl__9, Ar__9, q__9, S__9, N__9, H__9, G__9⟩ := id f_6
  have hin__9 : ¬ ((21 : Int32) < 0 ∨ cl__9.slots.size ≤ ((21 : Int32)).toNatClampNeg) := inb_of S__9 ⟨by decide, by decide⟩
  obtain ⟨T_10, h_10, X_10, e_10, W_10, st_10⟩ := stC X_3 hx hZ e_3 Ar__9 (j := (21 : Int32)) hin__9 (g := (mkF m 251 #[.val (.int p0), .val (.int p1), .val (.int p2), .val (.int p3), .val (.ref ms), .val (.int st), .val (.int co), .val (.int kd), .val (.int (Int32.ofNat pn)), .val (.int (Int32.ofNat qn)), .val (.int ap), .val (.int xx), .val (.int c0), .val (.int c1), .val (.int yd), .unset, .unset, .unset, .unset, .unset, .unset, .unset] [(.int (100 : Int32)), (.int (21 : Int32)), (.ref ca), (.ref ca)])) rfl rfl (hb hby at_251)
  have pre_10 : Rch p.tables e below (T0.setTop (mkF m 240 #[.val (.int p0), .val (.int p1), .val (.int p2), .val (.int p3), .val (.ref ms), .val (.int st), .val (.int co), .val (.int kd), .val (.int (Int32.ofNat pn)), .val (.int (Int32.ofNat qn)), .val (.int ap), .val (.int xx), .val (.int c0), .val (.int c1), .val (.int yd), .unset, .unset, .unset, .unset, .unset, .unset, .unset] [(.ref ca)])) (T_10.setTop (mkF m 252 #[.val (.int p0), .val (.int p1), .val (.int p2), .val (.int p3), .val (.ref ms), .val (.int st), .val (.int co), .val (.int kd), .val (.int (Int32.ofNat pn)), .val (.int (Int32.ofNat qn)), .val (.int ap), .val (.int xx), .val (.int c0), .val (.int c1), .val (.int yd), .unset, .unset, .unset, .unset, .unset, .unset, .unset] [(.ref ca)])) := fun tgt ktg => pre_8 tgt (st_10 tgt ktg)
  have z_11 : n0 ≤ h_10.size := Nat.le_trans z_4 (Keep.of_wr W_10).1
  have K_12 : Keep h0 h_10 [ca] := K_5.wr W_10 (Or.inl (List.mem_of_getElem? (i := 0) rfl))
  have f_13 : Arv Z h_10 ca kc .char (38 : Int32) [(.int c0), (.int (60 : Int32)), (.int (115 : Int32)), (.int (111 : Int32)), (.int (97 : Int32)), (.int (112 : Int32)), (.int (58 : Int32)), (.int (86 : Int32)), (.int (97 : Int32)), (.int (108 : Int32)), (.int (117 : Int32)), (.int (101 : Int32)), (.int (62 : Int32)), (.int (115 : Int32)), (.int (111 : Int32)), (.int (97 : Int32)), (.int (112 : Int32)), (.int (58 : Int32)), (.int (83 : Int32)), (.int (101 : Int32)), (.int (110 : Int32)), (.int (nar .char (100 : Int32))), (.int (0 : Int32)), (.int (0 : Int32)), (.int (0 : Int32)), (.int (0 : Int32)), (.int (0 : Int32)), (.int (0 : Int32)), (.int (0 : Int32)), (.int (0 : Int32)), (.int (0 : Int32)), (.int (0 : Int32)), (.int (0 : Int32)), (.int (0 : Int32)), (.int (0 : Int32)), (.int (0 : Int32)), (.int (0 : Int32)), (.int (0 : Int32))] (.int (0 : Int32)) := Arv.set Ar__9 q__9 S__9 N__9 H__9 G__9 (fits_nar_char _) W_10 21 rfl (Nat.le_of_ble_eq_true rfl)
  have N_14 := Fr.snoc X_10 N_7 gca
  rw [(by decide : nar .char (100 : Int32) = (100 : Int32))] at f_13
  have pre_15 : Rch p.tables e below (T0.setTop (mkF m 240 #[.val (.int p0), .val (.int p1), .val (.int p2), .val (.int p3), .val (.ref ms), .val (.int st), .val (.int co), .val (.int kd), .val (.int (Int32.ofNat pn)), .val (.int (Int32.ofNat qn)), .val (.int ap), .val (.int xx), .val (.int c0), .val (.int c1), .val (.int yd), .unset, .unset, .unset, .unset, .unset, .unset, .unset] [(.ref ca)])) (T_10.setTop (mkF m 257 #[.val (.int p0), .val (.int p1), .val (.int p2), .val (.int p3), .val (.ref ms), .val (.int st), .val (.int co), .val (.int kd), .val (.int (Int32.ofNat pn)), .val (.int (Int32.ofNat qn)), .val (.int ap), .val (.int xx), .val (.int c0), .val (.int c1), .val (.int yd), .unset, .unset, .unset, .unset, .unset, .unset, .unset] [(.int (101 : Int32)), (.int (22 : Int32)), (.ref ca), (.ref ca)])) := fun tgt ktg => pre_10 tgt (by
    show Steps p.tables e below (T_10.setTop (mkF m 252 #[.val (.int p0), .val (.int p1), .val (.int p2), .val (.int p3), .val (.ref ms), .val (.int st), .val (.int co), .val (.int kd), .val (.int (Int32.ofNat pn)), .val (.int (Int32.ofNat qn)), .val (.int ap), .val (.int xx), .val (.int c0), .val (.int c1), .val (.int yd), .unset, .unset, .unset, .unset, .unset, .unset, .unset] [(.ref ca)])) _
    refine XS.dup X_10.here hx rfl (hb hby at_252) rfl rfl ?_
    show Steps p.tables e below (T_10.setTop (mkF m 253 #[.val (.int p0), .val (.int p1), .val (.int p2), .val (.int p3), .val (.ref ms), .val (.int st), .val (.int co), .val (.int kd), .val (.int (Int32.ofNat pn)), .val (.int (Int32.ofNat qn)), .val (.int ap), .val (.int xx), .val (.int c0), .val (.int c1), .val (.int yd), .unset, .unset, .unset, .unset, .unset, .unset, .unset] [(.ref ca), (.ref ca)])) _
    refine XS.bipush X_10.here hx rfl (hb hby at_253) ?_
    show Steps p.tables e below (T_10.setTop (mkF m 255 #[.val (.int p0), .val (.int p1), .val (.int p2), .val (.int p3), .val (.ref ms), .val (.int st), .val (.int co), .val (.int kd), .val (.int (Int32.ofNat pn)), .val (.int (Int32.ofNat qn)), .val (.int ap), .val (.int xx), .val (.int c0), .val (.int c1), .val (.int yd), .unset, .unset, .unset, .unset, .unset, .unset, .unset] [(.int (22 : Int32)), (.ref ca), (.ref ca)])) _
    refine XS.bipush X_10.here hx rfl (hb hby at_255) ?_
    exact ktg)
  obtain ⟨cl__16, Ar__16, q__16, S__16, N__16, H__16, G__16⟩ := id f_13
  have hin__16 : ¬ ((22 : Int32) < 0 ∨ cl__16.slots.size ≤ ((22 : Int32)).toNatClampNeg) := inb_of S__16 ⟨by decide, by decide⟩
  obtain ⟨T_17, h_17, X_17, e_17, W_17, st_17⟩ := stC X_10 hx hZ e_10 Ar__16 (j := (22 : Int32)) hin__16 (g := (mkF m 257 #[.val (.int p0), .val (.int p1), .val (.int p2), .val (.int p3), .val (.ref ms), .val (.int st), .val (.int co), .val (.int kd), .val (.int (Int32.ofNat pn)), .val (.int (Int32.ofNat qn)), .val (.int ap), .val (.int xx), .val (.int c0), .val (.int c1), .val (.int yd), .unset, .unset, .unset, .unset, .unset, .unset, .unset] [(.int (101 : Int32)), (.int (22 : Int32)), (.ref ca), (.ref ca)])) rfl rfl (hb hby at_257)
  have pre_17 : Rch p.tables e below (T0.setTop (mkF m 240 #[.val (.int p0), .val (.int p1), .val (.int p2), .val (.int p3), .val (.ref ms), .val (.int st), .val (.int co), .val (.int kd), .val (.int (Int32.ofNat pn)), .val (.int (Int32.ofNat qn)), .val (.int ap), .val (.int xx), .val (.int c0), .val (.int c1), .val (.int yd), .unset, .unset, .unset, .unset, .unset, .unset, .unset] [(.ref ca)])) (T_17.setTop (mkF m 258 #[.val (.int p0), .val (.int p1), .val (.int p2), .val (.int p3), .val (.ref ms), .val (.int st), .val (.int co), .val (.int kd), .val (.int (Int32.ofNat pn)), .val (.int (Int32.ofNat qn)), .val (.int ap), .val (.int xx), .val (.int c0), .val (.int c1), .val (.int yd), .unset, .unset, .unset, .unset, .unset, .unset, .unset] [(.ref ca)])) := fun tgt ktg => pre_15 tgt (st_17 tgt ktg)
  have z_18 : n0 ≤ h_17.size := Nat.le_trans z_11 (Keep.of_wr W_17).1
  have K_19 : Keep h0 h_17 [ca] := K_12.wr W_17 (Or.inl (List.mem_of_getElem? (i := 0) rfl))
  have f_20 : Arv Z h_17 ca kc .char (38 : Int32) [(.int c0), (.int (60 : Int32)), (.int (115 : Int32)), (.int (111 : Int32)), (.int (97 : Int32)), (.int (112 : Int32)), (.int (58 : Int32)), (.int (86 : Int32)), (.int (97 : Int32)), (.int (108 : Int32)), (.int (117 : Int32)), (.int (101 : Int32)), (.int (62 : Int32)), (.int (115 : Int32)), (.int (111 : Int32)), (.int (97 : Int32)), (.int (112 : Int32)), (.int (58 : Int32)), (.int (83 : Int32)), (.int (101 : Int32)), (.int (110 : Int32)), (.int (100 : Int32)), (.int (nar .char (101 : Int32))), (.int (0 : Int32)), (.int (0 : Int32)), (.int (0 : Int32)), (.int (0 : Int32)), (.int (0 : Int32)), (.int (0 : Int32)), (.int (0 : Int32)), (.int (0 : Int32)), (.int (0 : Int32)), (.int (0 : Int32)), (.int (0 : Int32)), (.int (0 : Int32)), (.int (0 : Int32)), (.int (0 : Int32)), (.int (0 : Int32))] (.int (0 : Int32)) := Arv.set Ar__16 q__16 S__16 N__16 H__16 G__16 (fits_nar_char _) W_17 22 rfl (Nat.le_of_ble_eq_true rfl)
  have N_21 := Fr.snoc X_17 N_14 gca
  rw [(by decide : nar .char (101 : Int32) = (101 : Int32))] at f_20
  have pre_22 : Rch p.tables e below (T0.setTop (mkF m 240 #[.val (.int p0), .val (.int p1), .val (.int p2), .val (.int p3), .val (.ref ms), .val (.int st), .val (.int co), .val (.int kd), .val (.int (Int32.ofNat pn)), .val (.int (Int32.ofNat qn)), .val (.int ap), .val (.int xx), .val (.int c0), .val (.int c1), .val (.int yd), .unset, .unset, .unset, .unset, .unset, .unset, .unset] [(.ref ca)])) (T_17.setTop (mkF m 263 #[.val (.int p0), .val (.int p1), .val (.int p2), .val (.int p3), .val (.ref ms), .val (.int st), .val (.int co), .val (.int kd), .val (.int (Int32.ofNat pn)), .val (.int (Int32.ofNat qn)), .val (.int ap), .val (.int xx), .val (.int c0), .val (.int c1), .val (.int yd), .unset, .unset, .unset, .unset, .unset, .unset, .unset] [(.int (114 : Int32)), (.int (23 : Int32)), (.ref ca), (.ref ca)])) := fun tgt ktg => pre_17 tgt (by
    show Steps p.tables e below (T_17.setTop (mkF m 258 #[.val (.int p0), .val (.int p1), .val (.int p2), .val (.int p3), .val (.ref ms), .val (.int st), .val (.int co), .val (.int kd), .val (.int (Int32.ofNat pn)), .val (.int (Int32.ofNat qn)), .val (.int ap), .val (.int xx), .val (.int c0), .val (.int c1), .val (.int yd), .unset, .unset, .unset, .unset, .unset, .unset, .unset] [(.ref ca)])) _
    refine XS.dup X_17.here hx rfl (hb hby at_258) rfl rfl ?_
    show Steps p.tables e below (T_17.setTop (mkF m 259 #[.val (.int p0), .val (.int p1), .val (.int p2), .val (.int p3), .val (.ref ms), .val (.int st), .val (.int co), .val (.int kd), .val (.int (Int32.ofNat pn)), .val (.int (Int32.ofNat qn)), .val (.int ap), .val (.int xx), .val (.int c0), .val (.int c1), .val (.int yd), .unset, .unset, .unset, .unset, .unset, .unset, .unset] [(.ref ca), (.ref ca)])) _
    refine XS.bipush X_17.here hx rfl (hb hby at_259) ?_
    show Steps p.tables e below (T_17.setTop (mkF m 261 #[.val (.int p0), .val (.int p1), .val (.int p2), .val (.int p3), .val (.ref ms), .val (.int st), .val (.int co), .val (.int kd), .val (.int (Int32.ofNat pn)), .val (.int (Int32.ofNat qn)), .val (.int ap), .val (.int xx), .val (.int c0), .val (.int c1), .val (.int yd), .unset, .unset, .unset, .unset, .unset, .unset, .unset] [(.int (23 : Int32)), (.ref ca), (.ref ca)])) _
    refine XS.bipush X_17.here hx rfl (hb hby at_261) ?_
    exact ktg)
  obtain ⟨cl__23, Ar__23, q__23, S__23, N__23, H__23, G__23⟩ := id f_20
  have hin__23 : ¬ ((23 : Int32) < 0 ∨ cl__23.slots.size ≤ ((23 : Int32)).toNatClampNeg) := inb_of S__23 ⟨by decide, by decide⟩
  obtain ⟨T_24, h_24, X_24, e_24, W_24, st_24⟩ := stC X_17 hx hZ e_17 Ar__23 (j := (23 : Int32)) hin__23 (g := (mkF m 263 #[.val (.int p0), .val (.int p1), .val (.int p2), .val (.int p3), .val (.ref ms), .val (.int st), .val (.int co), .val (.int kd), .val (.int (Int32.ofNat pn)), .val (.int (Int32.ofNat qn)), .val (.int ap), .val (.int xx), .val (.int c0), .val (.int c1), .val (.int yd), .unset, .unset, .unset, .unset, .unset, .unset, .unset] [(.int (114 : Int32)), (.int (23 : Int32)), (.ref ca), (.ref ca)])) rfl rfl (hb hby at_263)
  have pre_24 : Rch p.tables e below (T0.setTop (mkF m 240 #[.val (.int p0), .val (.int p1), .val (.int p2), .val (.int p3), .val (.ref ms), .val (.int st), .val (.int co), .val (.int kd), .val (.int (Int32.ofNat pn)), .val (.int (Int32.ofNat qn)), .val (.int ap), .val (.int xx), .val (.int c0), .val (.int c1), .val (.int yd), .unset, .unset, .unset, .unset, .unset, .unset, .unset] [(.ref ca)])) (T_24.setTop (mkF m 264 #[.val (.int p0), .val (.int p1), .val (.int p2), .val (.int p3), .val (.ref ms), .val (.int st), .val (.int co), .val (.int kd), .val (.int (Int32.ofNat pn)), .val (.int (Int32.ofNat qn)), .val (.int ap), .val (.int xx), .val (.int c0), .val (.int c1), .val (.int yd), .unset, .unset, .unset, .unset, .unset, .unset, .unset] [(.ref ca)])) := fun tgt ktg => pre_22 tgt (st_24 tgt ktg)
  have z_25 : n0 ≤ h_24.size := Nat.le_trans z_18 (Keep.of_wr W_24).1
  have K_26 : Keep h0 h_24 [ca] := K_19.wr W_24 (Or.inl (List.mem_of_getElem? (i := 0) rfl))
  have f_27 : Arv Z h_24 ca kc .char (38 : Int32) [(.int c0), (.int (60 : Int32)), (.int (115 : Int32)), (.int (111 : Int32)), (.int (97 : Int32)), (.int (112 : Int32)), (.int (58 : Int32)), (.int (86 : Int32)), (.int (97 : Int32)), (.int (108 : Int32)), (.int (117 : Int32)), (.int (101 : Int32)), (.int (62 : Int32)), (.int (115 : Int32)), (.int (111 : Int32)), (.int (97 : Int32)), (.int (112 : Int32)), (.int (58 : Int32)), (.int (83 : Int32)), (.int (101 : Int32)), (.int (110 : Int32)), (.int (100 : Int32)), (.int (101 : Int32)), (.int (nar .char (114 : Int32))), (.int (0 : Int32)), (.int (0 : Int32)), (.int (0 : Int32)), (.int (0 : Int32)), (.int (0 : Int32)), (.int (0 : Int32)), (.int (0 : Int32)), (.int (0 : Int32)), (.int (0 : Int32)), (.int (0 : Int32)), (.int (0 : Int32)), (.int (0 : Int32)), (.int (0 : Int32)), (.int (0 : Int32))] (.int (0 : Int32)) := Arv.set Ar__23 q__23 S__23 N__23 H__23 G__23 (fits_nar_char _) W_24 23 rfl (Nat.le_of_ble_eq_true rfl)
  have N_28 := Fr.snoc X_24 N_21 gca
  rw [(by decide : nar .char (114 : Int32) = (114 : Int32))] at f_27
  have pre_29 : Rch p.tables e below (T0.setTop (mkF m 240 #[.val (.int p0), .val (.int p1), .val (.int p2), .val (.int p3), .val (.ref ms), .val (.int st), .val (.int co), .val (.int kd), .val (.int (Int32.ofNat pn)), .val (.int (Int32.ofNat qn)), .val (.int ap), .val (.int xx), .val (.int c0), .val (.int c1), .val (.int yd), .unset, .unset, .unset, .unset, .unset, .unset, .unset] [(.ref ca)])) (T_24.setTop (mkF m 269 #[.val (.int p0), .val (.int p1), .val (.int p2), .val (.int p3), .val (.ref ms), .val (.int st), .val (.int co), .val (.int kd), .val (.int (Int32.ofNat pn)), .val (.int (Int32.ofNat qn)), .val (.int ap), .val (.int xx), .val (.int c0), .val (.int c1), .val (.int yd), .unset, .unset, .unset, .unset, .unset, .unset, .unset] [(.int (60 : Int32)), (.int (24 : Int32)), (.ref ca), (.ref ca)])) := fun tgt ktg => pre_24 tgt (by
    show Steps p.tables e below (T_24.setTop (mkF m 264 #[.val (.int p0), .val (.int p1), .val (.int p2), .val (.int p3), .val (.ref ms), .val (.int st), .val (.int co), .val (.int kd), .val (.int (Int32.ofNat pn)), .val (.int (Int32.ofNat qn)), .val (.int ap), .val (.int xx), .val (.int c0), .val (.int c1), .val (.int yd), .unset, .unset, .unset, .unset, .unset, .unset, .unset] [(.ref ca)])) _
    refine XS.dup X_24.here hx rfl (hb hby at_264) rfl rfl ?_
    show Steps p.tables e below (T_24.setTop (mkF m 265 #[.val (.int p0), .val (.int p1), .val (.int p2), .val (.int p3), .val (.ref ms), .val (.int st), .val (.int co), .val (.int kd), .val (.int (Int32.ofNat pn)), .val (.int (Int32.ofNat qn)), .val (.int ap), .val (.int xx), .val (.int c0), .val (.int c1), .val (.int yd), .unset, .unset, .unset, .unset, .unset, .unset, .unset] [(.ref ca), (.ref ca)])) _
    refine XS.bipush X_24.here hx rfl (hb hby at_265) ?_
    show Steps p.tables e below (T_24.setTop (mkF m 267 #[.val (.int p0), .val (.int p1), .val (.int p2), .val (.int p3), .val (.ref ms), .val (.int st), .val (.int co), .val (.int kd), .val (.int (Int32.ofNat pn)), .val (.int (Int32.ofNat qn)), .val (.int ap), .val (.int xx), .val (.int c0), .val (.int c1), .val (.int yd), .unset, .unset, .unset, .unset, .unset, .unset, .unset] [(.int (24 : Int32)), (.ref ca), (.ref ca)])) _
    refine XS.bipush X_24.here hx rfl (hb hby at_267) ?_
    exact ktg)
  obtain ⟨cl__30, Ar__30, q__30, S__30, N__30, H__30, G__30⟩ := id f_27
  have hin__30 : ¬ ((24 : Int32) < 0 ∨ cl__30.slots.size ≤ ((24 : Int32)).toNatClampNeg) := inb_of S__30 ⟨by decide, by decide⟩
  obtain ⟨T_31, h_31, X_31, e_31, W_31, st_31⟩ := stC X_24 hx hZ e_24 Ar__30 (j := (24 : Int32)) hin__30 (g := (mkF m 269 #[.val (.int p0), .val (.int p1), .val (.int p2), .val (.int p3), .val (.ref ms), .val (.int st), .val (.int co), .val (.int kd), .val (.int (Int32.ofNat pn)), .val (.int (Int32.ofNat qn)), .val (.int ap), .val (.int xx), .val (.int c0), .val (.int c1), .val (.int yd), .unset, .unset, .unset, .unset, .unset, .unset, .unset] [(.int (60 : Int32)), (.int (24 : Int32)), (.ref ca), (.ref ca)])) rfl rfl (hb hby at_269)
  have pre_31 : Rch p.tables e below (T0.setTop (mkF m 240 #[.val (.int p0), .val (.int p1), .val (.int p2), .val (.int p3), .val (.ref ms), .val (.int st), .val (.int co), .val (.int kd), .val (.int (Int32.ofNat pn)), .val (.int (Int32.ofNat qn)), .val (.int ap), .val (.int xx), .val (.int c0), .val (.int c1), .val (.int yd), .unset, .unset, .unset, .unset, .unset, .unset, .unset] [(.ref ca)])) (T_31.setTop (mkF m 270 #[.val (.int p0), .val (.int p1), .val (.int p2), .val (.int p3), .val (.ref ms), .val (.int st), .val (.int co), .val (.int kd), .val (.int (Int32.ofNat pn)), .val (.int (Int32.ofNat qn)), .val (.int ap), .val (.int xx), .val (.int c0), .val (.int c1), .val (.int yd), .unset, .unset, .unset, .unset, .unset, .unset, .unset] [(.ref ca)])) := fun tgt ktg => pre_29 tgt (st_31 tgt ktg)
  have z_32 : n0 ≤ h_31.size := Nat.le_trans z_25 (Keep.of_wr W_31).1
  have K_33 : Keep h0 h_31 [ca] := K_26.wr W_31 (Or.inl (List.mem_of_getElem? (i := 0) rfl))
  have f_34 : Arv Z h_31 ca kc .char (38 : Int32) [(.int c0), (.int (60 : Int32)), (.int (115 : Int32)), (.int (111 : Int32)), (.int (97 : Int32)), (.int (112 : Int32)), (.int (58 : Int32)), (.int (86 : Int32)), (.int (97 : Int32)), (.int (108 : Int32)), (.int (117 : Int32)), (.int (101 : Int32)), (.int (62 : Int32)), (.int (115 : Int32)), (.int (111 : Int32)), (.int (97 : Int32)), (.int (112 : Int32)), (.int (58 : Int32)), (.int (83 : Int32)), (.int (101 : Int32)), (.int (110 : Int32)), (.int (100 : Int32)), (.int (101 : Int32)), (.int (114 : Int32)), (.int (nar .char (60 : Int32))), (.int (0 : Int32)), (.int (0 : Int32)), (.int (0 : Int32)), (.int (0 : Int32)), (.int (0 : Int32)), (.int (0 : Int32)), (.int (0 : Int32)), (.int (0 : Int32)), (.int (0 : Int32)), (.int (0 : Int32)), (.int (0 : Int32)), (.int (0 : Int32)), (.int (0 : Int32))] (.int (0 : Int32)) := Arv.set Ar__30 q__30 S__30 N__30 H__30 G__30 (fits_nar_char _) W_31 24 rfl (Nat.le_of_ble_eq_true rfl)
  have N_35 := Fr.snoc X_31 N_28 gca
  rw [(by decide : nar .char (60 : Int32) = (60 : Int32))] at f_34
  have pre_36 : Rch p.tables e below (T0.setTop (mkF m 240 #[.val (.int p0), .val (.int p1), .val (.int p2), .val (.int p3), .val (.ref ms), .val (.int st), .val (.int co), .val (.int kd), .val (.int (Int32.ofNat pn)), .val (.int (Int32.ofNat qn)), .val (.int ap), .val (.int xx), .val (.int c0), .val (.int c1), .val (.int yd), .unset, .unset, .unset, .unset, .unset, .unset, .unset] [(.ref ca)])) (T_31.setTop (mkF m 275 #[.val (.int p0), .val (.int p1), .val (.int p2), .val (.int p3), .val (.ref ms), .val (.int st), .val (.int co), .val (.int kd), .val (.int (Int32.ofNat pn)), .val (.int (Int32.ofNat qn)), .val (.int ap), .val (.int xx), .val (.int c0), .val (.int c1), .val (.int yd), .unset, .unset, .unset, .unset, .unset, .unset, .unset] [(.int (47 : Int32)), (.int (25 : Int32)), (.ref ca), (.ref ca)])) := fun tgt ktg => pre_31 tgt (by
    show Steps p.tables e below (T_31.setTop (mkF m 270 #[.val (.int p0), .val (.int p1), .val (.int p2), .val (.int p3), .val (.ref ms), .val (.int st), .val (.int co), .val (.int kd), .val (.int (Int32.ofNat pn)), .val (.int (Int32.ofNat qn)), .val (.int ap), .val (.int xx), .val (.int c0), .val (.int c1), .val (.int yd), .unset, .unset, .unset, .unset, .unset, .unset, .unset] [(.ref ca)])) _
    refine XS.dup X_31.here hx rfl (hb hby at_270) rfl rfl ?_
    show Steps p.tables e below (T_31.setTop (mkF m 271 #[.val (.int p0), .val (.int p1), .val (.int p2), .val (.int p3), .val (.ref ms), .val (.int st), .val (.int co), .val (.int kd), .val (.int (Int32.ofNat pn)), .val (.int (Int32.ofNat qn)), .val (.int ap), .val (.int xx), .val (.int c0), .val (.int c1), .val (.int yd), .unset, .unset, .unset, .unset, .unset, .unset, .unset] [(.ref ca), (.ref ca)])) _
    refine XS.bipush X_31.here hx rfl (hb hby at_271) ?_
    show Steps p.tables e below (T_31.setTop (mkF m 273 #[.val (.int p0), .val (.int p1), .val (.int p2), .val (.int p3), .val (.ref ms), .val (.int st), .val (.int co), .val (.int kd), .val (.int (Int32.ofNat pn)), .val (.int (Int32.ofNat qn)), .val (.int ap), .val (.int xx), .val (.int c0), .val (.int c1), .val (.int yd), .unset, .unset, .unset, .unset, .unset, .unset, .unset] [(.int (25 : Int32)), (.ref ca), (.ref ca)])) _
    refine XS.bipush X_31.here hx rfl (hb hby at_273) ?_
    exact ktg)
  obtain ⟨cl__37, Ar__37, q__37, S__37, N__37, H__37, G__37⟩ := id f_34
  have hin__37 : ¬ ((25 : Int32) < 0 ∨ cl__37.slots.size ≤ ((25 : Int32)).toNatClampNeg) := inb_of S__37 ⟨by decide, by decide⟩
  obtain ⟨T_38, h_38, X_38, e_38, W_38, st_38⟩ := stC X_31 hx hZ e_31 Ar__37 (j := (25 : Int32)) hin__37 (g := (mkF m 275 #[.val (.int p0), .val (.int p1), .val (.int p2), .val (.int p3), .val (.ref ms), .val (.int st), .val (.int co), .val (.int kd), .val (.int (Int32.ofNat pn)), .val (.int (Int32.ofNat qn)), .val (.int ap), .val (.int xx), .val (.int c0), .val (.int c1), .val (.int yd), .unset, .unset, .unset, .unset, .unset, .unset, .unset] [(.int (47 : Int32)), (.int (25 : Int32)), (.ref ca), (.ref ca)])) rfl rfl (hb hby at_275)
  have pre_38 : Rch p.tables e below (T0.setTop (mkF m 240 #[.val (.int p0), .val (.int p1), .val (.int p2), .val (.int p3), .val (.ref ms), .val (.int st), .val (.int co), .val (.int kd), .val (.int (Int32.ofNat pn)), .val (.int (Int32.ofNat qn)), .val (.int ap), .val (.int xx), .val (.int c0), .val (.int c1), .val (.int yd), .unset, .unset, .unset, .unset, .unset, .unset, .unset] [(.ref ca)])) (T_38.setTop (mkF m 276 #[.val (.int p0), .val (.int p1), .val (.int p2), .val (.int p3), .val (.ref ms), .val (.int st), .val (.int co), .val (.int kd), .val (.int (Int32.ofNat pn)), .val (.int (Int32.ofNat qn)), .val (.int ap), .val (.int xx), .val (.int c0), .val (.int c1), .val (.int yd), .unset, .unset, .unset, .unset, .unset, .unset, .unset] [(.ref ca)])) := fun tgt ktg => pre_36 tgt (st_38 tgt ktg)
  have z_39 : n0 ≤ h_38.size := Nat.le_trans z_32 (Keep.of_wr W_38).1
  have K_40 : Keep h0 h_38 [ca] := K_33.wr W_38 (Or.inl (List.mem_of_getElem? (i := 0) rfl))
  have f_41 : Arv Z h_38 ca kc .char (38 : Int32) [(.int c0), (.int (60 : Int32)), (.int (115 : Int32)), (.int (111 : Int32)), (.int (97 : Int32)), (.int (112 : Int32)), (.int (58 : Int32)), (.int (86 : Int32)), (.int (97 : Int32)), (.int (108 : Int32)), (.int (117 : Int32)), (.int (101 : Int32)), (.int (62 : Int32)), (.int (115 : Int32)), (.int (111 : Int32)), (.int (97 : Int32)), (.int (112 : Int32)), (.int (58 : Int32)), (.int (83 : Int32)), (.int (101 : Int32)), (.int (110 : Int32)), (.int (100 : Int32)), (.int (101 : Int32)), (.int (114 : Int32)), (.int (60 : Int32)), (.int (nar .char (47 : Int32))), (.int (0 : Int32)), (.int (0 : Int32)), (.int (0 : Int32)), (.int (0 : Int32)), (.int (0 : Int32)), (.int (0 : Int32)), (.int (0 : Int32)), (.int (0 : Int32)), (.int (0 : Int32)), (.int (0 : Int32)), (.int (0 : Int32)), (.int (0 : Int32))] (.int (0 : Int32)) := Arv.set Ar__37 q__37 S__37 N__37 H__37 G__37 (fits_nar_char _) W_38 25 rfl (Nat.le_of_ble_eq_true rfl)
  have N_42 := Fr.snoc X_38 N_35 gca
  rw [(by decide : nar .char (47 : Int32) = (47 : Int32))] at f_41
  have pre_43 : Rch p.tables e below (T0.setTop (mkF m 240 #[.val (.int p0), .val (.int p1), .val (.int p2), .val (.int p3), .val (.ref ms), .val (.int st), .val (.int co), .val (.int kd), .val (.int (Int32.ofNat pn)), .val (.int (Int32.ofNat qn)), .val (.int ap), .val (.int xx), .val (.int c0), .val (.int c1), .val (.int yd), .unset, .unset, .unset, .unset, .unset, .unset, .unset] [(.ref ca)])) (T_38.setTop (mkF m 281 #[.val (.int p0), .val (.int p1), .val (.int p2), .val (.int p3), .val (.ref ms), .val (.int st), .val (.int co), .val (.int kd), .val (.int (Int32.ofNat pn)), .val (.int (Int32.ofNat qn)), .val (.int ap), .val (.int xx), .val (.int c0), .val (.int c1), .val (.int yd), .unset, .unset, .unset, .unset, .unset, .unset, .unset] [(.int (115 : Int32)), (.int (26 : Int32)), (.ref ca), (.ref ca)])) := fun tgt ktg => pre_38 tgt (by
    show Steps p.tables e below (T_38.setTop (mkF m 276 #[.val (.int p0), .val (.int p1), .val (.int p2), .val (.int p3), .val (.ref ms), .val (.int st), .val (.int co), .val (.int kd), .val (.int (Int32.ofNat pn)), .val (.int (Int32.ofNat qn)), .val (.int ap), .val (.int xx), .val (.int c0), .val (.int c1), .val (.int yd), .unset, .unset, .unset, .unset, .unset, .unset, .unset] [(.ref ca)])) _
    refine XS.dup X_38.here hx rfl (hb hby at_276) rfl rfl ?_
    show Steps p.tables e below (T_38.setTop (mkF m 277 #[.val (.int p0), .val (.int p1), .val (.int p2), .val (.int p3), .val (.ref ms), .val (.int st), .val (.int co), .val (.int kd), .val (.int (Int32.ofNat pn)), .val (.int (Int32.ofNat qn)), .val (.int ap), .val (.int xx), .val (.int c0), .val (.int c1), .val (.int yd), .unset, .unset, .unset, .unset, .unset, .unset, .unset] [(.ref ca), (.ref ca)])) _
    refine XS.bipush X_38.here hx rfl (hb hby at_277) ?_
    show Steps p.tables e below (T_38.setTop (mkF m 279 #[.val (.int p0), .val (.int p1), .val (.int p2), .val (.int p3), .val (.ref ms), .val (.int st), .val (.int co), .val (.int kd), .val (.int (Int32.ofNat pn)), .val (.int (Int32.ofNat qn)), .val (.int ap), .val (.int xx), .val (.int c0), .val (.int c1), .val (.int yd), .unset, .unset, .unset, .unset, .unset, .unset, .unset] [(.int (26 : Int32)), (.ref ca), (.ref ca)])) _
    refine XS.bipush X_38.here hx rfl (hb hby at_279) ?_
    exact ktg)
  obtain ⟨cl__44, Ar__44, q__44, S__44, N__44, H__44, G__44⟩ := id f_41
  have hin__44 : ¬ ((26 : Int32) < 0 ∨ cl__44.slots.size ≤ ((26 : Int32)).toNatClampNeg) := inb_of S__44 ⟨by decide, by decide⟩
  obtain ⟨T_45, h_45, X_45, e_45, W_45, st_45⟩ := stC X_38 hx hZ e_38 Ar__44 (j := (26 : Int32)) hin__44 (g := (mkF m 281 #[.val (.int p0), .val (.int p1), .val (.int p2), .val (.int p3), .val (.ref ms), .val (.int st), .val (.int co), .val (.int kd), .val (.int (Int32.ofNat pn)), .val (.int (Int32.ofNat qn)), .val (.int ap), .val (.int xx), .val (.int c0), .val (.int c1), .val (.int yd), .unset, .unset, .unset, .unset, .unset, .unset, .unset] [(.int (115 : Int32)), (.int (26 : Int32)), (.ref ca), (.ref ca)])) rfl rfl (hb hby at_281)
  have pre_45 : Rch p.tables e below (T0.setTop (mkF m 240 #[.val (.int p0), .val (.int p1), .val (.int p2), .val (.int p3), .val (.ref ms), .val (.int st), .val (.int co), .val (.int kd), .val (.int (Int32.ofNat pn)), .val (.int (Int32.ofNat qn)), .val (.int ap), .val (.int xx), .val (.int c0), .val (.int c1), .val (.int yd), .unset, .unset, .unset, .unset, .unset, .unset, .unset] [(.ref ca)])) (T_45.setTop (mkF m 282 #[.val (.int p0), .val (.int p1), .val (.int p2), .val (.int p3), .val (.ref ms), .val (.int st), .val (.int co), .val (.int kd), .val (.int (Int32.ofNat pn)), .val (.int (Int32.ofNat qn)), .val (.int ap), .val (.int xx), .val (.int c0), .val (.int c1), .val (.int yd), .unset, .unset, .unset, .unset, .unset, .unset, .unset] [(.ref ca)])) := fun tgt ktg => pre_43 tgt (st_45 tgt ktg)
  have z_46 : n0 ≤ h_45.size := Nat.le_trans z_39 (Keep.of_wr W_45).1
  have K_47 : Keep h0 h_45 [ca] := K_40.wr W_45 (Or.inl (List.mem_of_getElem? (i := 0) rfl))
  have f_48 : Arv Z h_45 ca kc .char (38 : Int32) [(.int c0), (.int (60 : Int32)), (.int (115 : Int32)), (.int (111 : Int32)), (.int (97 : Int32)), (.int (112 : Int32)), (.int (58 : Int32)), (.int (86 : Int32)), (.int (97 : Int32)), (.int (108 : Int32)), (.int (117 : Int32)), (.int (101 : Int32)), (.int (62 : Int32)), (.int (115 : Int32)), (.int (111 : Int32)), (.int (97 : Int32)), (.int (112 : Int32)), (.int (58 : Int32)), (.int (83 : Int32)), (.int (101 : Int32)), (.int (110 : Int32)), (.int (100 : Int32)), (.int (101 : Int32)), (.int (114 : Int32)), (.int (60 : Int32)), (.int (47 : Int32)), (.int (nar .char (115 : Int32))), (.int (0 : Int32)), (.int (0 : Int32)), (.int (0 : Int32)), (.int (0 : Int32)), (.int (0 : Int32)), (.int (0 : Int32)), (.int (0 : Int32)), (.int (0 : Int32)), (.int (0 : Int32)), (.int (0 : Int32)), (.int (0 : Int32))] (.int (0 : Int32)) := Arv.set Ar__44 q__44 S__44 N__44 H__44 G__44 (fits_nar_char _) W_45 26 rfl (Nat.le_of_ble_eq_true rfl)
  have N_49 := Fr.snoc X_45 N_42 gca
  rw [(by decide : nar .char (115 : Int32) = (115 : Int32))] at f_48
  have pre_50 : Rch p.tables e below (T0.setTop (mkF m 240 #[.val (.int p0), .val (.int p1), .val (.int p2), .val (.int p3), .val (.ref ms), .val (.int st), .val (.int co), .val (.int kd), .val (.int (Int32.ofNat pn)), .val (.int (Int32.ofNat qn)), .val (.int ap), .val (.int xx), .val (.int c0), .val (.int c1), .val (.int yd), .unset, .unset, .unset, .unset, .unset, .unset, .unset] [(.ref ca)])) (T_45.setTop (mkF m 287 #[.val (.int p0), .val (.int p1), .val (.int p2), .val (.int p3), .val (.ref ms), .val (.int st), .val (.int co), .val (.int kd), .val (.int (Int32.ofNat pn)), .val (.int (Int32.ofNat qn)), .val (.int ap), .val (.int xx), .val (.int c0), .val (.int c1), .val (.int yd), .unset, .unset, .unset, .unset, .unset, .unset, .unset] [(.int (111 : Int32)), (.int (27 : Int32)), (.ref ca), (.ref ca)])) := fun tgt ktg => pre_45 tgt (by
    show Steps p.tables e below (T_45.setTop (mkF m 282 #[.val (.int p0), .val (.int p1), .val (.int p2), .val (.int p3), .val (.ref ms), .val (.int st), .val (.int co), .val (.int kd), .val (.int (Int32.ofNat pn)), .val (.int (Int32.ofNat qn)), .val (.int ap), .val (.int xx), .val (.int c0), .val (.int c1), .val (.int yd), .unset, .unset, .unset, .unset, .unset, .unset, .unset] [(.ref ca)])) _
    refine XS.dup X_45.here hx rfl (hb hby at_282) rfl rfl ?_
    show Steps p.tables e below (T_45.setTop (mkF m 283 #[.val (.int p0), .val (.int p1), .val (.int p2), .val (.int p3), .val (.ref ms), .val (.int st), .val (.int co), .val (.int kd), .val (.int (Int32.ofNat pn)), .val (.int (Int32.ofNat qn)), .val (.int ap), .val (.int xx), .val (.int c0), .val (.int c1), .val (.int yd), .unset, .unset, .unset, .unset, .unset, .unset, .unset] [(.ref ca), (.ref ca)])) _
    refine XS.bipush X_45.here hx rfl (hb hby at_283) ?_
    show Steps p.tables e below (T_45.setTop (mkF m 285 #[.val (.int p0), .val (.int p1), .val (.int p2), .val (.int p3), .val (.ref ms), .val (.int st), .val (.int co), .val (.int kd), .val (.int (Int32.ofNat pn)), .val (.int (Int32.ofNat qn)), .val (.int ap), .val (.int xx), .val (.int c0), .val (.int c1), .val (.int yd), .unset, .unset, .unset, .unset, .unset, .unset, .unset] [(.int (27 : Int32)), (.ref ca), (.ref ca)])) _
    refine XS.bipush X_45.here hx rfl (hb hby at_285) ?_
    exact ktg)
  obtain ⟨cl__51, Ar__51, q__51, S__51, N__51, H__51, G__51⟩ := id f_48
  have hin__51 : ¬ ((27 : Int32) < 0 ∨ cl__51.slots.size ≤ ((27 : Int32)).toNatClampNeg) := inb_of S__51 ⟨by decide, by decide⟩
  obtain ⟨T_52, h_52, X_52, e_52, W_52, st_52⟩ := stC X_45 hx hZ e_45 Ar__51 (j := (27 : Int32)) hin__51 (g := (mkF m 287 #[.val (.int p0), .val (.int p1), .val (.int p2), .val (.int p3), .val (.ref ms), .val (.int st), .val (.int co), .val (.int kd), .val (.int (Int32.ofNat pn)), .val (.int (Int32.ofNat qn)), .val (.int ap), .val (.int xx), .val (.int c0), .val (.int c1), .val (.int yd), .unset, .unset, .unset, .unset, .unset, .unset, .unset] [(.int (111 : Int32)), (.int (27 : Int32)), (.ref ca), (.ref ca)])) rfl rfl (hb hby at_287)
  have pre_52 : Rch p.tables e below (T0.setTop (mkF m 240 #[.val (.int p0), .val (.int p1), .val (.int p2), .val (.int p3), .val (.ref ms), .val (.int st), .val (.int co), .val (.int kd), .val (.int (Int32.ofNat pn)), .val (.int (Int32.ofNat qn)), .val (.int ap), .val (.int xx), .val (.int c0), .val (.int c1), .val (.int yd), .unset, .unset, .unset, .unset, .unset, .unset, .unset] [(.ref ca)])) (T_52.setTop (mkF m 288 #[.val (.int p0), .val (.int p1), .val (.int p2), .val (.int p3), .val (.ref ms), .val (.int st), .val (.int co), .val (.int kd), .val (.int (Int32.ofNat pn)), .val (.int (Int32.ofNat qn)), .val (.int ap), .val (.int xx), .val (.int c0), .val (.int c1), .val (.int yd), .unset, .unset, .unset, .unset, .unset, .unset, .unset] [(.ref ca)])) := fun tgt ktg => pre_50 tgt (st_52 tgt ktg)
  have z_53 : n0 ≤ h_52.size := Nat.le_trans z_46 (Keep.of_wr W_52).1
  have K_54 : Keep h0 h_52 [ca] := K_47.wr W_52 (Or.inl (List.mem_of_getElem? (i := 0) rfl))
  have f_55 : Arv Z h_52 ca kc .char (38 : Int32) [(.int c0), (.int (60 : Int32)), (.int (115 : Int32)), (.int (111 : Int32)), (.int (97 : Int32)), (.int (112 : Int32)), (.int (58 : Int32)), (.int (86 : Int32)), (.int (97 : Int32)), (.int (108 : Int32)), (.int (117 : Int32)), (.int (101 : Int32)), (.int (62 : Int32)), (.int (115 : Int32)), (.int (111 : Int32)), (.int (97 : Int32)), (.int (112 : Int32)), (.int (58 : Int32)), (.int (83 : Int32)), (.int (101 : Int32)), (.int (110 : Int32)), (.int (100 : Int32)), (.int (101 : Int32)), (.int (114 : Int32)), (.int (60 : Int32)), (.int (47 : Int32)), (.int (115 : Int32)), (.int (nar .char (111 : Int32))), (.int (0 : Int32)), (.int (0 : Int32)), (.int (0 : Int32)), (.int (0 : Int32)), (.int (0 : Int32)), (.int (0 : Int32)), (.int (0 : Int32)), (.int (0 : Int32)), (.int (0 : Int32)), (.int (0 : Int32))] (.int (0 : Int32)) := Arv.set Ar__51 q__51 S__51 N__51 H__51 G__51 (fits_nar_char _) W_52 27 rfl (Nat.le_of_ble_eq_true rfl)
  have N_56 := Fr.snoc X_52 N_49 gca
  rw [(by decide : nar .char (111 : Int32) = (111 : Int32))] at f_55
  have pre_57 : Rch p.tables e below (T0.setTop (mkF m 240 #[.val (.int p0), .val (.int p1), .val (.int p2), .val (.int p3), .val (.ref ms), .val (.int st), .val (.int co), .val (.int kd), .val (.int (Int32.ofNat pn)), .val (.int (Int32.ofNat qn)), .val (.int ap), .val (.int xx), .val (.int c0), .val (.int c1), .val (.int yd), .unset, .unset, .unset, .unset, .unset, .unset, .unset] [(.ref ca)])) (T_52.setTop (mkF m 293 #[.val (.int p0), .val (.int p1), .val (.int p2), .val (.int p3), .val (.ref ms), .val (.int st), .val (.int co), .val (.int kd), .val (.int (Int32.ofNat pn)), .val (.int (Int32.ofNat qn)), .val (.int ap), .val (.int xx), .val (.int c0), .val (.int c1), .val (.int yd), .unset, .unset, .unset, .unset, .unset, .unset, .unset] [(.int (97 : Int32)), (.int (28 : Int32)), (.ref ca), (.ref ca)])) := fun tgt ktg => pre_52 tgt (by
    show Steps p.tables e below (T_52.setTop (mkF m 288 #[.val (.int p0), .val (.int p1), .val (.int p2), .val (.int p3), .val (.ref ms), .val (.int st), .val (.int co), .val (.int kd), .val (.int (Int32.ofNat pn)), .val (.int (Int32.ofNat qn)), .val (.int ap), .val (.int xx), .val (.int c0), .val (.int c1), .val (.int yd), .unset, .unset, .unset, .unset, .unset, .unset, .unset] [(.ref ca)])) _
    refine XS.dup X_52.here hx rfl (hb hby at_288) rfl rfl ?_
    show Steps p.tables e below (T_52.setTop (mkF m 289 #[.val (.int p0), .val (.int p1), .val (.int p2), .val (.int p3), .val (.ref ms), .val (.int st), .val (.int co), .val (.int kd), .val (.int (Int32.ofNat pn)), .val (.int (Int32.ofNat qn)), .val (.int ap), .val (.int xx), .val (.int c0), .val (.int c1), .val (.int yd), .unset, .unset, .unset, .unset, .unset, .unset, .unset] [(.ref ca), (.ref ca)])) _
    refine XS.bipush X_52.here hx rfl (hb hby at_289) ?_
    show Steps p.tables e below (T_52.setTop (mkF m 291 #[.val (.int p0), .val (.int p1), .val (.int p2), .val (.int p3), .val (.ref ms), .val (.int st), .val (.int co), .val (.int kd), .val (.int (Int32.ofNat pn)), .val (.int (Int32.ofNat qn)), .val (.int ap), .val (.int xx), .val (.int c0), .val (.int c1), .val (.int yd), .unset, .unset, .unset, .unset, .unset, .unset, .unset] [(.int (28 : Int32)), (.ref ca), (.ref ca)])) _
    refine XS.bipush X_52.here hx rfl (hb hby at_291) ?_
    exact ktg)
  obtain ⟨cl__58, Ar__58, q__58, S__58, N__58, H__58, G__58⟩ := id f_55
  have hin__58 : ¬ ((28 : Int32) < 0 ∨ cl__58.slots.size ≤ ((28 : Int32)).toNatClampNeg) := inb_of S__58 ⟨by decide, by decide⟩
  obtain ⟨T_59, h_59, X_59, e_59, W_59, st_59⟩ := stC X_52 hx hZ e_52 Ar__58 (j := (28 : Int32)) hin__58 (g := (mkF m 293 #[.val (.int p0), .val (.int p1), .val (.int p2), .val (.int p3), .val (.ref ms), .val (.int st), .val (.int co), .val (.int kd), .val (.int (Int32.ofNat pn)), .val (.int (Int32.ofNat qn)), .val (.int ap), .val (.int xx), .val (.int c0), .val (.int c1), .val (.int yd), .unset, .unset, .unset, .unset, .unset, .unset, .unset] [(.int (97 : Int32)), (.int (28 : Int32)), (.ref ca), (.ref ca)])) rfl rfl (hb hby at_293)
  have pre_59 : Rch p.tables e below (T0.setTop (mkF m 240 #[.val (.int p0), .val (.int p1), .val (.int p2), .val (.int p3), .val (.ref ms), .val (.int st), .val (.int co), .val (.int kd), .val (.int (Int32.ofNat pn)), .val (.int (Int32.ofNat qn)), .val (.int ap), .val (.int xx), .val (.int c0), .val (.int c1), .val (.int yd), .unset, .unset, .unset, .unset, .unset, .unset, .unset] [(.ref ca)])) (T_59.setTop (mkF m 294 #[.val (.int p0), .val (.int p1), .val (.int p2), .val (.int p3), .val (.ref ms), .val (.int st), .val (.int co), .val (.int kd), .val (.int (Int32.ofNat pn)), .val (.int (Int32.ofNat qn)), .val (.int ap), .val (.int xx), .val (.int c0), .val (.int c1), .val (.int yd), .unset, .unset, .unset, .unset, .unset, .unset, .unset] [(.ref ca)])) := fun tgt ktg => pre_57 tgt (st_59 tgt ktg)
  have z_60 : n0 ≤ h_59.size := Nat.le_trans z_53 (Keep.of_wr W_59).1
  have K_61 : Keep h0 h_59 [ca] := K_54.wr W_59 (Or.inl (List.mem_of_getElem? (i := 0) rfl))
  have f_62 : Arv Z h_59 ca kc .char (38 : Int32) [(.int c0), (.int (60 : Int32)), (.int (115 : Int32)), (.int (111 : Int32)), (.int (97 : Int32)), (.int (112 : Int32)), (.int (58 : Int32)), (.int (86 : Int32)), (.int (97 : Int32)), (.int (108 : Int32)), (.int (117 : Int32)), (.int (101 : Int32)), (.int (62 : Int32)), (.int (115 : Int32)), (.int (111 : Int32)), (.int (97 : Int32)), (.int (112 : Int32)), (.int (58 : Int32)), (.int (83 : Int32)), (.int (101 : Int32)), (.int (110 : Int32)), (.int (100 : Int32)), (.int (101 : Int32)), (.int (114 : Int32)), (.int (60 : Int32)), (.int (47 : Int32)), (.int (115 : Int32)), (.int (111 : Int32)), (.int (nar .char (97 : Int32))), (.int (0 : Int32)), (.int (0 : Int32)), (.int (0 : Int32)), (.int (0 : Int32)), (.int (0 : Int32)), (.int (0 : Int32)), (.int (0 : Int32)), (.int (0 : Int32)), (.int (0 : Int32))] (.int (0 : Int32)) := Arv.set Ar__58 q__58 S__58 N__58 H__58 G__58 (fits_nar_char _) W_59 28 rfl (Nat.le_of_ble_eq_true rfl)
  have N_63 := Fr.snoc X_59 N_56 gca
  rw [(by decide : nar .char (97 : Int32) = (97 : Int32))] at f_62
  have pre_64 : Rch p.tables e below (T0.setTop (mkF m 240 #[.val (.int p0), .val (.int p1), .val (.int p2), .val (.int p3), .val (.ref ms), .val (.int st), .val (.int co), .val (.int kd), .val (.int (Int32.ofNat pn)), .val (.int (Int32.ofNat qn)), .val (.int ap), .val (.int xx), .val (.int c0), .val (.int c1), .val (.int yd), .unset, .unset, .unset, .unset, .unset, .unset, .unset] [(.ref ca)])) (T_59.setTop (mkF m 299 #[.val (.int p0), .val (.int p1), .val (.int p2), .val (.int p3), .val (.ref ms), .val (.int st), .val (.int co), .val (.int kd), .val (.int (Int32.ofNat pn)), .val (.int (Int32.ofNat qn)), .val (.int ap), .val (.int xx), .val (.int c0), .val (.int c1), .val (.int yd), .unset, .unset, .unset, .unset, .unset, .unset, .unset] [(.int (112 : Int32)), (.int (29 : Int32)), (.ref ca), (.ref ca)])) := fun tgt ktg => pre_59 tgt (by
    show Steps p.tables e below (T_59.setTop (mkF m 294 #[.val (.int p0), .val (.int p1), .val (.int p2), .val (.int p3), .val (.ref ms), .val (.int st), .val (.int co), .val (.int kd), .val (.int (Int32.ofNat pn)), .val (.int (Int32.ofNat qn)), .val (.int ap), .val (.int xx), .val (.int c0), .val (.int c1), .val (.int yd), .unset, .unset, .unset, .unset, .unset, .unset, .unset] [(.ref ca)])) _
    refine XS.dup X_59.here hx rfl (hb hby at_294) rfl rfl ?_
    show Steps p.tables e below (T_59.setTop (mkF m 295 #[.val (.int p0), .val (.int p1), .val (.int p2), .val (.int p3), .val (.ref ms), .val (.int st), .val (.int co), .val (.int kd), .val (.int (Int32.ofNat pn)), .val (.int (Int32.ofNat qn)), .val (.int ap), .val (.int xx), .val (.int c0), .val (.int c1), .val (.int yd), .unset, .unset, .unset, .unset, .unset, .unset, .unset] [(.ref ca), (.ref ca)])) _
    refine XS.bipush X_59.here hx rfl (hb hby at_295) ?_
    show Steps p.tables e below (T_59.setTop (mkF m 297 #[.val (.int p0), .val (.int p1), .val (.int p2), .val (.int p3), .val (.ref ms), .val (.int st), .val (.int co), .val (.int kd), .val (.int (Int32.ofNat pn)), .val (.int (Int32.ofNat qn)), .val (.int ap), .val (.int xx), .val (.int c0), .val (.int c1), .val (.int yd), .unset, .unset, .unset, .unset, .unset, .unset, .unset] [(.int (29 : Int32)), (.ref ca), (.ref ca)])) _
    refine XS.bipush X_59.here hx rfl (hb hby at_297) ?_
    exact ktg)
  obtain ⟨cl__65, Ar__65, q__65, S__65, N__65, H__65, G__65⟩ := id f_62
  have hin__65 : ¬ ((29 : Int32) < 0 ∨ cl__65.slots.size ≤ ((29 : Int32)).toNatClampNeg) := inb_of S__65 ⟨by decide, by decide⟩
  obtain ⟨T_66, h_66, X_66, e_66, W_66, st_66⟩ := stC X_59 hx hZ e_59 Ar__65 (j := (29 : Int32)) hin__65 (g := (mkF m 299 #[.val (.int p0), .val (.int p1), .val (.int p2), .val (.int p3), .val (.ref ms), .val (.int st), .val (.int co), .val (.int kd), .val (.int (Int32.ofNat pn)), .val (.int (Int32.ofNat qn)), .val (.int ap), .val (.int xx), .val (.int c0), .val (.int c1), .val (.int yd), .unset, .unset, .unset, .unset, .unset, .unset, .unset] [(.int (112 : Int32)), (.int (29 : Int32)), (.ref ca), (.ref ca)])) rfl rfl (hb hby at_299)
  have pre_66 : Rch p.tables e below (T0.setTop (mkF m 240 #[.val (.int p0), .val (.int p1), .val (.int p2), .val (.int p3), .val (.ref ms), .val (.int st), .val (.int co), .val (.int kd), .val (.int (Int32.ofNat pn)), .val (.int (Int32.ofNat qn)), .val (.int ap), .val (.int xx), .val (.int c0), .val (.int c1), .val (.int yd), .unset, .unset, .unset, .unset, .unset, .unset, .unset] [(.ref ca)])) (T_66.setTop (mkF m 300 #[.val (.int p0), .val (.int p1), .val (.int p2), .val (.int p3), .val (.ref ms), .val (.int st), .val (.int co), .val (.int kd), .val (.int (Int32.ofNat pn)), .val (.int (Int32.ofNat qn)), .val (.int ap), .val (.int xx), .val (.int c0), .val (.int c1), .val (.int yd), .unset, .unset, .unset, .unset, .unset, .unset, .unset] [(.ref ca)])) := fun tgt ktg => pre_64 tgt (st_66 tgt ktg)
  have z_67 : n0 ≤ h_66.size := Nat.le_trans z_60 (Keep.of_wr W_66).1
  have K_68 : Keep h0 h_66 [ca] := K_61.wr W_66 (Or.inl (List.mem_of_getElem? (i := 0) rfl))
  have f_69 : Arv Z h_66 ca kc .char (38 : Int32) [(.int c0), (.int (60 : Int32)), (.int (115 : Int32)), (.int (111 : Int32)), (.int (97 : Int32)), (.int (112 : Int32)), (.int (58 : Int32)), (.int (86 : Int32)), (.int (97 : Int32)), (.int (108 : Int32)), (.int (117 : Int32)), (.int (101 : Int32)), (.int (62 : Int32)), (.int (115 : Int32)), (.int (111 : Int32)), (.int (97 : Int32)), (.int (112 : Int32)), (.int (58 : Int32)), (.int (83 : Int32)), (.int (101 : Int32)), (.int (110 : Int32)), (.int (100 : Int32)), (.int (101 : Int32)), (.int (114 : Int32)), (.int (60 : Int32)), (.int (47 : Int32)), (.int (115 : Int32)), (.int (111 : Int32)), (.int (97 : Int32)), (.int (nar .char (112 : Int32))), (.int (0 : Int32)), (.int (0 : Int32)), (.int (0 : Int32)), (.int (0 : Int32)), (.int (0 : Int32)), (.int (0 : Int32)), (.int (0 : Int32)), (.int (0 : Int32))] (.int (0 : Int32)) := Arv.set Ar__65 q__65 S__65 N__65 H__65 G__65 (fits_nar_char _) W_66 29 rfl (Nat.le_of_ble_eq_true rfl)
  have N_70 := Fr.snoc X_66 N_63 gca
  rw [(by decide : nar .char (112 : Int32) = (112 : Int32))] at f_69
  exact ⟨T_66, h_66, _, X_66, e_66, N_70, K_68, z_67, f_69, pre_66⟩
set_option maxRecDepth 65536 in
set_option maxHeartbeats 40000000 in
theorem pcfl30 {p : Program} {l : Launch} {e : Env} {s : State} {m : MethodId} {args : Array Value} {below : List Frame} {meth : Method} {c : Code} {T0 : State} {locs : List Loc} {cells slots : Nat} {Z : State} {a0 : Array Value} {h0 : Heap} {n0 : Nat} {p0 p1 p2 p3 st co kd ap xx c0 c1 yd : Int32} {pn qn : Nat} {ms ca : Addr} {kc : ClassId}
    (X0 : Stand p l e room_1 s m args below meth c T0 locs cells slots) (hx : p.tables.exec = Jvm.exec) (hZ : Z.Warmed39 s.vm) (hw : ∀ d ∈ tables_1, d.before a0 Z = true) (hby : c.code = code) (hml : c.maxLocals = 22) (hown : s.vm.findClass "ResponseIsSenderFaultPinLaw" = some m.cls) (hce : cells ≤ room_1.cells) (hsl : slots ≤ room_1.slots) (e0 : T0.heap = h0) (N0 : Fr n0 locs) (Z0 : n0 ≤ h0.size) (A0 : Arv Z h0 ca kc .char (38 : Int32) [(.int c0), (.int (60 : Int32)), (.int (115 : Int32)), (.int (111 : Int32)), (.int (97 : Int32)), (.int (112 : Int32)), (.int (58 : Int32)), (.int (86 : Int32)), (.int (97 : Int32)), (.int (108 : Int32)), (.int (117 : Int32)), (.int (101 : Int32)), (.int (62 : Int32)), (.int (115 : Int32)), (.int (111 : Int32)), (.int (97 : Int32)), (.int (112 : Int32)), (.int (58 : Int32)), (.int (83 : Int32)), (.int (101 : Int32)), (.int (110 : Int32)), (.int (100 : Int32)), (.int (101 : Int32)), (.int (114 : Int32)), (.int (60 : Int32)), (.int (47 : Int32)), (.int (115 : Int32)), (.int (111 : Int32)), (.int (97 : Int32)), (.int (112 : Int32)), (.int (0 : Int32)), (.int (0 : Int32)), (.int (0 : Int32)), (.int (0 : Int32)), (.int (0 : Int32)), (.int (0 : Int32)), (.int (0 : Int32)), (.int (0 : Int32))] (.int (0 : Int32))) (gca : n0 ≤ ca) (hc0 : ¬ c0 < 0 ∧ ¬ (255 : Int32) < c0) (hc1 : ¬ c1 < 0 ∧ ¬ (255 : Int32) < c1) :
    ∃ (T' : State) (h' : Heap) (L' : List Loc), Stand p l e room_1 s m args below meth c T' L' cells slots ∧ T'.heap = h' ∧ Fr n0 L' ∧ Keep h0 h' [ca] ∧ n0 ≤ h'.size ∧ (Arv Z h' ca kc .char (38 : Int32) [(.int c0), (.int (60 : Int32)), (.int (115 : Int32)), (.int (111 : Int32)), (.int (97 : Int32)), (.int (112 : Int32)), (.int (58 : Int32)), (.int (86 : Int32)), (.int (97 : Int32)), (.int (108 : Int32)), (.int (117 : Int32)), (.int (101 : Int32)), (.int (62 : Int32)), (.int (115 : Int32)), (.int (111 : Int32)), (.int (97 : Int32)), (.int (112 : Int32)), (.int (58 : Int32)), (.int (83 : Int32)), (.int (101 : Int32)), (.int (110 : Int32)), (.int (100 : Int32)), (.int (101 : Int32)), (.int (114 : Int32)), (.int (60 : Int32)), (.int (47 : Int32)), (.int (115 : Int32)), (.int (111 : Int32)), (.int (97 : Int32)), (.int (112 : Int32)), (.int (58 : Int32)), (.int (86 : Int32)), (.int (97 : Int32)), (.int (108 : Int32)), (.int (117 : Int32)), (.int (101 : Int32)), (.int (62 : Int32)), (.int c1)] (.int (0 : Int32))) ∧ Rch p.tables e below (T0.setTop (mkF m 300 #[.val (.int p0), .val (.int p1), .val (.int p2), .val (.int p3), .val (.ref ms), .val (.int st), .val (.int co), .val (.int kd), .val (.int (Int32.ofNat pn)), .val (.int (Int32.ofNat qn)), .val (.int ap), .val (.int xx), .val (.int c0), .val (.int c1), .val (.int yd), .unset, .unset, .unset, .unset, .unset, .unset, .unset] [(.ref ca)])) (T'.setTop (mkF m 348 #[.val (.int p0), .val (.int p1), .val (.int p2), .val (.int p3), .val (.ref ms), .val (.int st), .val (.int co), .val (.int kd), .val (.int (Int32.ofNat pn)), .val (.int (Int32.ofNat qn)), .val (.int ap), .val (.int xx), .val (.int c0), .val (.int c1), .val (.int yd), .unset, .unset, .unset, .unset, .unset, .unset, .unset] [(.ref ca)])) := by
  have K0 : Keep h0 h0 [ca] := Keep.refl _ _
  have pre0 : Rch p.tables e below (T0.setTop (mkF m 300 #[.val (.int p0), .val (.int p1), .val (.int p2), .val (.int p3), .val (.ref ms), .val (.int st), .val (.int co), .val (.int kd), .val (.int (Int32.ofNat pn)), .val (.int (Int32.ofNat qn)), .val (.int ap), .val (.int xx), .val (.int c0), .val (.int c1), .val (.int yd), .unset, .unset, .unset, .unset, .unset, .unset, .unset] [(.ref ca)])) (T0.setTop (mkF m 300 #[.val (.int p0), .val (.int p1), .val (.int p2), .val (.int p3), .val (.ref ms), .val (.int st), .val (.int co), .val (.int kd), .val (.int (Int32.ofNat pn)), .val (.int (Int32.ofNat qn)), .val (.int ap), .val (.int xx), .val (.int c0), .val (.int c1), .val (.int yd), .unset, .unset, .unset, .unset, .unset, .unset, .unset] [(.ref ca)])) := fun tgt ktg => ktg
  have pre_1 : Rch p.tables e below (T0.setTop (mkF m 300 #[.val (.int p0), .val (.int p1), .val (.int p2), .val (.int p3), .val (.ref ms), .val (.int st), .val (.int co), .val (.int kd), .val (.int (Int32.ofNat pn)), .val (.int (Int32.ofNat qn)), .val (.int ap), .val (.int xx), .val (.int c0), .val (.int c1), .val (.int yd), .unset, .unset, .unset, .unset, .unset, .unset, .unset] [(.ref ca)])) (T0.setTop (mkF m 305 #[.val (.int p0), .val (.int p1), .val (.int p2), .val (.int p3), .val (.ref ms), .val (.int st), .val (.int co), .val (.int kd), .val (.int (Int32.ofNat pn)), .val (.int (Int32.ofNat qn)), .val (.int ap), .val (.int xx), .val (.int c0), .val (.int c1), .val (.int yd), .unset, .unset, .unset, .unset, .unset, .unset, .unset] [(.int (58 : Int32)), (.int (30 : Int32)), (.ref ca), (.ref ca)])) := fun tgt ktg => pre0 tgt (by
    show Steps p.tables e below (T0.setTop (mkF m 300 #[.val (.int p0), .val (.int p1), .val (.int p2), .val (.int p3), .val (.ref ms), .val (.int st), .val (.int co), .val (.int kd), .val (.int (Int32.ofNat pn)), .val (.int (Int32.ofNat qn)), .val (.int ap), .val (.int xx), .val (.int c0), .val (.int c1), .val (.int yd), .unset, .unset, .unset, .unset, .unset, .unset, .unset] [(.ref ca)])) _
    refine XS.dup X0.here hx rfl (hb hby at_300) rfl rfl ?_
    show Steps p.tables e below (T0.setTop (mkF m 301 #[.val (.int p0), .val (.int p1), .val (.int p2), .val (.int p3), .val (.ref ms), .val (.int st), .val (.int co), .val (.int kd), .val (.int (Int32.ofNat pn)), .val (.int (Int32.ofNat qn)), .val (.int ap), .val (.int xx), .val (.int c0), .val (.int c1), .val (.int yd), .unset, .unset, .unset, .unset, .unset, .unset, .unset] [(.ref ca), (.ref ca)])) _
    refine XS.bipush X0.here hx rfl (hb hby at_301) ?_
    show Steps p.tables e below (T0.setTop (mkF m 303 #[.val (.int p0), .val (.int p1), .val (.int p2), .val (.int p3), .val (.ref ms), .val (.int st), .val (.int co), .val (.int kd), .val (.int (Int32.ofNat pn)), .val (.int (Int32.ofNat qn)), .val (.int ap), .val (.int xx), .val (.int c0), .val (.int c1), .val (.int yd), .unset, .unset, .unset, .unset, .unset, .unset, .unset] [(.int (30 : Int32)), (.ref ca), (.ref ca)])) _
    refine XS.bipush X0.here hx rfl (hb hby at_303) ?_
    exact ktg)
  obtain ⟨cl__2, Ar__2, q__2, S__2, N__2, H__2, G__2⟩ := id A0
  have hin__2 : ¬ ((30 : Int32) < 0 ∨ cl__2.slots.size ≤ ((30 : Int32)).toNatClampNeg) := inb_of S__2 ⟨by decide, by decide⟩
  obtain ⟨T_3, h_3, X_3, e_3, W_3, st_3⟩ := stC X0 hx hZ e0 Ar__2 (j := (30 : Int32)) hin__2 (g := (mkF m 305 #[.val (.int p0), .val (.int p1), .val (.int p2), .val (.int p3), .val (.ref ms), .val (.int st), .val (.int co), .val (.int kd), .val (.int (Int32.ofNat pn)), .val (.int (Int32.ofNat qn)), .val (.int ap), .val (.int xx), .val (.int c0), .val (.int c1), .val (.int yd), .unset, .unset, .unset, .unset, .unset, .unset, .unset] [(.int (58 : Int32)), (.int (30 : Int32)), (.ref ca), (.ref ca)])) rfl rfl (hb hby at_305)
  have pre_3 : Rch p.tables e below (T0.setTop (mkF m 300 #[.val (.int p0), .val (.int p1), .val (.int p2), .val (.int p3), .val (.ref ms), .val (.int st), .val (.int co), .val (.int kd), .val (.int (Int32.ofNat pn)), .val (.int (Int32.ofNat qn)), .val (.int ap), .val (.int xx), .val (.int c0), .val (.int c1), .val (.int yd), .unset, .unset, .unset, .unset, .unset, .unset, .unset] [(.ref ca)])) (T_3.setTop (mkF m 306 #[.val (.int p0), .val (.int p1), .val (.int p2), .val (.int p3), .val (.ref ms), .val (.int st), .val (.int co), .val (.int kd), .val (.int (Int32.ofNat pn)), .val (.int (Int32.ofNat qn)), .val (.int ap), .val (.int xx), .val (.int c0), .val (.int c1), .val (.int yd), .unset, .unset, .unset, .unset, .unset, .unset, .unset] [(.ref ca)])) := fun tgt ktg => pre_1 tgt (st_3 tgt ktg)
  have z_4 : n0 ≤ h_3.size := Nat.le_trans Z0 (Keep.of_wr W_3).1
  have K_5 : Keep h0 h_3 [ca] := K0.wr W_3 (Or.inl (List.mem_of_getElem? (i := 0) rfl))
  have f_6 : Arv Z h_3 ca kc .char (38 : Int32) [(.int c0), (.int (60 : Int32)), (.int (115 : Int32)), (.int (111 : Int32)), (.int (97 : Int32)), (.int (112 : Int32)), (.int (58 : Int32)), (.int (86 : Int32)), (.int (97 : Int32)), (.int (108 : Int32)), (.int (117 : Int32)), (.int (101 : Int32)), (.int (62 : Int32)), (.int (115 : Int32)), (.int (111 : Int32)), (.int (97 : Int32)), (.int (112 : Int32)), (.int (58 : Int32)), (.int (83 : Int32)), (.int (101 : Int32)), (.int (110 : Int32)), (.int (100 : Int32)), (.int (101 : Int32)), (.int (114 : Int32)), (.int (60 : Int32)), (.int (47 : Int32)), (.int (115 : Int32)), (.int (111 : Int32)), (.int (97 : Int32)), (.int (112 : Int32)), (.int (nar .char (58 : Int32))), (.int (0 : Int32)), (.int (0 : Int32)), (.int (0 : Int32)), (.int (0 : Int32)), (.int (0 : Int32)), (.int (0 : Int32)), (.int (0 : Int32))] (.int (0 : Int32)) := Arv.set Ar__2 q__2 S__2 N__2 H__2 G__2 (fits_nar_char _) W_3 30 rfl (Nat.le_of_ble_eq_true rfl)
  have N_7 := Fr.snoc X_3 N0 gca
  rw [(by decide : nar .char (58 : Int32) = (58 : Int32))] at f_6
  have pre_8 : Rch p.tables e below (T0.setTop (mkF m 300 #[.val (.int p0), .val (.int p1), .val (.int p2), .val (.int p3), .val (.ref ms), .val (.int st), .val (.int co), .val (.int kd), .val (.int (Int32.ofNat pn)), .val (.int (Int32.ofNat qn)), .val (.int ap), .val (.int xx), .val (.int c0), .val (.int c1), .val (.int yd), .unset, .unset, .unset, .unset, .unset, .unset, .unset] [(.ref ca)])) (T_3.setTop (mkF m 311 #[.val (.int p0), .val (.int p1), .val (.int p2), .val (.int p3), .val (.ref ms), .val (.int st), .val (.int co), .val (.int kd), .val (.int (Int32.ofNat pn)), .val (.int (Int32.ofNat qn)), .val (.int ap), .val (.int xx), .val (.int c0), .val (.int c1), .val (.int yd), .unset, .unset, .unset, .unset, .unset, .unset, .unset] [(.int (86 : Int32)), (.int (31 : Int32)), (.ref ca), (.ref ca)])) := fun tgt ktg => pre_3 tgt (by
    show Steps p.tables e below (T_3.setTop (mkF m 306 #[.val (.int p0), .val (.int p1), .val (.int p2), .val (.int p3), .val (.ref ms), .val (.int st), .val (.int co), .val (.int kd), .val (.int (Int32.ofNat pn)), .val (.int (Int32.ofNat qn)), .val (.int ap), .val (.int xx), .val (.int c0), .val (.int c1), .val (.int yd), .unset, .unset, .unset, .unset, .unset, .unset, .unset] [(.ref ca)])) _
    refine XS.dup X_3.here hx rfl (hb hby at_306) rfl rfl ?_
    show Steps p.tables e below (T_3.setTop (mkF m 307 #[.val (.int p0), .val (.int p1), .val (.int p2), .val (.int p3), .val (.ref ms), .val (.int st), .val (.int co), .val (.int kd), .val (.int (Int32.ofNat pn)), .val (.int (Int32.ofNat qn)), .val (.int ap), .val (.int xx), .val (.int c0), .val (.int c1), .val (.int yd), .unset, .unset, .unset, .unset, .unset, .unset, .unset] [(.ref ca), (.ref ca)])) _
    refine XS.bipush X_3.here hx rfl (hb hby at_307) ?_
    show Steps p.tables e below (T_3.setTop (mkF m 309 #[.val (.int p0), .val (.int p1), .val (.int p2), .val (.int p3), .val (.ref ms), .val (.int st), .val (.int co), .val (.int kd), .val (.int (Int32.ofNat pn)), .val (.int (Int32.ofNat qn)), .val (.int ap), .val (.int xx), .val (.int c0), .val (.int c1), .val (.int yd), .unset, .unset, .unset, .unset, .unset, .unset, .unset] [(.int (31 : Int32)), (.ref ca), (.ref ca)])) _
    refine XS.bipush X_3.here hx rfl (hb hby at_309) ?_
    exact ktg)
  obtain ⟨cl__9, Ar__9, q__9, S__9, N__9, H__9, G__9⟩ := id f_6
  have hin__9 : ¬ ((31 : Int32) < 0 ∨ cl__9.slots.size ≤ ((31 : Int32)).toNatClampNeg) := inb_of S__9 ⟨by decide, by decide⟩
  obtain ⟨T_10, h_10, X_10, e_10, W_10, st_10⟩ := stC X_3 hx hZ e_3 Ar__9 (j := (31 : Int32)) hin__9 (g := (mkF m 311 #[.val (.int p0), .val (.int p1), .val (.int p2), .val (.int p3), .val (.ref ms), .val (.int st), .val (.int co), .val (.int kd), .val (.int (Int32.ofNat pn)), .val (.int (Int32.ofNat qn)), .val (.int ap), .val (.int xx), .val (.int c0), .val (.int c1), .val (.int yd), .unset, .unset, .unset, .unset, .unset, .unset, .unset] [(.int (86 : Int32)), (.int (31 : Int32)), (.ref ca), (.ref ca)])) rfl rfl (hb hby at_311)
  have pre_10 : Rch p.tables e below (T0.setTop (mkF m 300 #[.val (.int p0), .val (.int p1), .val (.int p2), .val (.int p3), .val (.ref ms), .val (.int st), .val (.int co), .val (.int kd), .val (.int (Int32.ofNat pn)), .val (.int (Int32.ofNat qn)), .val (.int ap), .val (.int xx), .val (.int c0), .val (.int c1), .val (.int yd), .unset, .unset, .unset, .unset, .unset, .unset, .unset] [(.ref ca)])) (T_10.setTop (mkF m 312 #[.val (.int p0), .val (.int p1), .val (.int p2), .val (.int p3), .val (.ref ms), .val (.int st), .val (.int co), .val (.int kd), .val (.int (Int32.ofNat pn)), .val (.int (Int32.ofNat qn)), .val (.int ap), .val (.int xx), .val (.int c0), .val (.int c1), .val (.int yd), .unset, .unset, .unset, .unset, .unset, .unset, .unset] [(.ref ca)])) := fun tgt ktg => pre_8 tgt (st_10 tgt ktg)
  have z_11 : n0 ≤ h_10.size := Nat.le_trans z_4 (Keep.of_wr W_10).1
  have K_12 : Keep h0 h_10 [ca] := K_5.wr W_10 (Or.inl (List.mem_of_getElem? (i := 0) rfl))
  have f_13 : Arv Z h_10 ca kc .char (38 : Int32) [(.int c0), (.int (60 : Int32)), (.int (115 : Int32)), (.int (111 : Int32)), (.int (97 : Int32)), (.int (112 : Int32)), (.int (58 : Int32)), (.int (86 : Int32)), (.int (97 : Int32)), (.int (108 : Int32)), (.int (117 : Int32)), (.int (101 : Int32)), (.int (62 : Int32)), (.int (115 : Int32)), (.int (111 : Int32)), (.int (97 : Int32)), (.int (112 : Int32)), (.int (58 : Int32)), (.int (83 : Int32)), (.int (101 : Int32)), (.int (110 : Int32)), (.int (100 : Int32)), (.int (101 : Int32)), (.int (114 : Int32)), (.int (60 : Int32)), (.int (47 : Int32)), (.int (115 : Int32)), (.int (111 : Int32)), (.int (97 : Int32)), (.int (112 : Int32)), (.int (58 : Int32)), (.int (nar .char (86 : Int32))), (.int (0 : Int32)), (.int (0 : Int32)), (.int (0 : Int32)), (.int (0 : Int32)), (.int (0 : Int32)), (.int (0 : Int32))] (.int (0 : Int32)) := Arv.set Ar__9 q__9 S__9 N__9 H__9 G__9 (fits_nar_char _) W_10 31 rfl (Nat.le_of_ble_eq_true rfl)
  have N_14 := Fr.snoc X_10 N_7 gca
  rw [(by decide : nar .char (86 : Int32) = (86 : Int32))] at f_13
  have pre_15 : Rch p.tables e below (T0.setTop (mkF m 300 #[.val (.int p0), .val (.int p1), .val (.int p2), .val (.int p3), .val (.ref ms), .val (.int st), .val (.int co), .val (.int kd), .val (.int (Int32.ofNat pn)), .val (.int (Int32.ofNat qn)), .val (.int ap), .val (.int xx), .val (.int c0), .val (.int c1), .val (.int yd), .unset, .unset, .unset, .unset, .unset, .unset, .unset] [(.ref ca)])) (T_10.setTop (mkF m 317 #[.val (.int p0), .val (.int p1), .val (.int p2), .val (.int p3), .val (.ref ms), .val (.int st), .val (.int co), .val (.int kd), .val (.int (Int32.ofNat pn)), .val (.int (Int32.ofNat qn)), .val (.int ap), .val (.int xx), .val (.int c0), .val (.int c1), .val (.int yd), .unset, .unset, .unset, .unset, .unset, .unset, .unset] [(.int (97 : Int32)), (.int (32 : Int32)), (.ref ca), (.ref ca)])) := fun tgt ktg => pre_10 tgt (by
    show Steps p.tables e below (T_10.setTop (mkF m 312 #[.val (.int p0), .val (.int p1), .val (.int p2), .val (.int p3), .val (.ref ms), .val (.int st), .val (.int co), .val (.int kd), .val (.int (Int32.ofNat pn)), .val (.int (Int32.ofNat qn)), .val (.int ap), .val (.int xx), .val (.int c0), .val (.int c1), .val (.int yd), .unset, .unset, .unset, .unset, .unset, .unset, .unset] [(.ref ca)])) _
    refine XS.dup X_10.here hx rfl (hb hby at_312) rfl rfl ?_
    show Steps p.tables e below (T_10.setTop (mkF m 313 #[.val (.int p0), .val (.int p1), .val (.int p2), .val (.int p3), .val (.ref ms), .val (.int st), .val (.int co), .val (.int kd), .val (.int (Int32.ofNat pn)), .val (.int (Int32.ofNat qn)), .val (.int ap), .val (.int xx), .val (.int c0), .val (.int c1), .val (.int yd), .unset, .unset, .unset, .unset, .unset, .unset, .unset] [(.ref ca), (.ref ca)])) _
    refine XS.bipush X_10.here hx rfl (hb hby at_313) ?_
    show Steps p.tables e below (T_10.setTop (mkF m 315 #[.val (.int p0), .val (.int p1), .val (.int p2), .val (.int p3), .val (.ref ms), .val (.int st), .val (.int co), .val (.int kd), .val (.int (Int32.ofNat pn)), .val (.int (Int32.ofNat qn)), .val (.int ap), .val (.int xx), .val (.int c0), .val (.int c1), .val (.int yd), .unset, .unset, .unset, .unset, .unset, .unset, .unset] [(.int (32 : Int32)), (.ref ca), (.ref ca)])) _
    refine XS.bipush X_10.here hx rfl (hb hby at_315) ?_
    exact ktg)
  obtain ⟨cl__16, Ar__16, q__16, S__16, N__16, H__16, G__16⟩ := id f_13
  have hin__16 : ¬ ((32 : Int32) < 0 ∨ cl__16.slots.size ≤ ((32 : Int32)).toNatClampNeg) := inb_of S__16 ⟨by decide, by decide⟩
  obtain ⟨T_17, h_17, X_17, e_17, W_17, st_17⟩ := stC X_10 hx hZ e_10 Ar__16 (j := (32 : Int32)) hin__16 (g := (mkF m 317 #[.val (.int p0), .val (.int p1), .val (.int p2), .val (.int p3), .val (.ref ms), .val (.int st), .val (.int co), .val (.int kd), .val (.int (Int32.ofNat pn)), .val (.int (Int32.ofNat qn)), .val (.int ap), .val (.int xx), .val (.int c0), .val (.int c1), .val (.int yd), .unset, .unset, .unset, .unset, .unset, .unset, .unset] [(.int (97 : Int32)), (.int (32 : Int32)), (.ref ca), (.ref ca)])) rfl rfl (hb hby at_317)
  have pre_17 : Rch p.tables e below (T0.setTop (mkF m 300 #[.val (.int p0), .val (.int p1), .val (.int p2), .val (.int p3), .val (.ref ms), .val (.int st), .val (.int co), .val (.int kd), .val (.int (Int32.ofNat pn)), .val (.int (Int32.ofNat qn)), .val (.int ap), .val (.int xx), .val (.int c0), .val (.int c1), .val (.int yd), .unset, .unset, .unset, .unset, .unset, .unset, .unset] [(.ref ca)])) (T_17.setTop (mkF m 318 #[.val (.int p0), .val (.int p1), .val (.int p2), .val (.int p3), .val (.ref ms), .val (.int st), .val (.int co), .val (.int kd), .val (.int (Int32.ofNat pn)), .val (.int (Int32.ofNat qn)), .val (.int ap), .val (.int xx), .val (.int c0), .val (.int c1), .val (.int yd), .unset, .unset, .unset, .unset, .unset, .unset, .unset] [(.ref ca)])) := fun tgt ktg => pre_15 tgt (st_17 tgt ktg)
  have z_18 : n0 ≤ h_17.size := Nat.le_trans z_11 (Keep.of_wr W_17).1
  have K_19 : Keep h0 h_17 [ca] := K_12.wr W_17 (Or.inl (List.mem_of_getElem? (i := 0) rfl))
  have f_20 : Arv Z h_17 ca kc .char (38 : Int32) [(.int c0), (.int (60 : Int32)), (.int (115 : Int32)), (.int (111 : Int32)), (.int (97 : Int32)), (.int (112 : Int32)), (.int (58 : Int32)), (.int (86 : Int32)), (.int (97 : Int32)), (.int (108 : Int32)), (.int (117 : Int32)), (.int (101 : Int32)), (.int (62 : Int32)), (.int (115 : Int32)), (.int (111 : Int32)), (.int (97 : Int32)), (.int (112 : Int32)), (.int (58 : Int32)), (.int (83 : Int32)), (.int (101 : Int32)), (.int (110 : Int32)), (.int (100 : Int32)), (.int (101 : Int32)), (.int (114 : Int32)), (.int (60 : Int32)), (.int (47 : Int32)), (.int (115 : Int32)), (.int (111 : Int32)), (.int (97 : Int32)), (.int (112 : Int32)), (.int (58 : Int32)), (.int (86 : Int32)), (.int (nar .char (97 : Int32))), (.int (0 : Int32)), (.int (0 : Int32)), (.int (0 : Int32)), (.int (0 : Int32)), (.int (0 : Int32))] (.int (0 : Int32)) := Arv.set Ar__16 q__16 S__16 N__16 H__16 G__16 (fits_nar_char _) W_17 32 rfl (Nat.le_of_ble_eq_true rfl)
  have N_21 := Fr.snoc X_17 N_14 gca
  rw [(by decide : nar .char (97 : Int32) = (97 : Int32))] at f_20
  have pre_22 : Rch p.tables e below (T0.setTop (mkF m 300 #[.val (.int p0), .val (.int p1), .val (.int p2), .val (.int p3), .val (.ref ms), .val (.int st), .val (.int co), .val (.int kd), .val (.int (Int32.ofNat pn)), .val (.int (Int32.ofNat qn)), .val (.int ap), .val (.int xx), .val (.int c0), .val (.int c1), .val (.int yd), .unset, .unset, .unset, .unset, .unset, .unset, .unset] [(.ref ca)])) (T_17.setTop (mkF m 323 #[.val (.int p0), .val (.int p1), .val (.int p2), .val (.int p3), .val (.ref ms), .val (.int st), .val (.int co), .val (.int kd), .val (.int (Int32.ofNat pn)), .val (.int (Int32.ofNat qn)), .val (.int ap), .val (.int xx), .val (.int c0), .val (.int c1), .val (.int yd), .unset, .unset, .unset, .unset, .unset, .unset, .unset] [(.int (108 : Int32)), (.int (33 : Int32)), (.ref ca), (.ref ca)])) := fun tgt ktg => pre_17 tgt (by
    show Steps p.tables e below (T_17.setTop (mkF m 318 #[.val (.int p0), .val (.int p1), .val (.int p2), .val (.int p3), .val (.ref ms), .val (.int st), .val (.int co), .val (.int kd), .val (.int (Int32.ofNat pn)), .val (.int (Int32.ofNat qn)), .val (.int ap), .val (.int xx), .val (.int c0), .val (.int c1), .val (.int yd), .unset, .unset, .unset, .unset, .unset, .unset, .unset] [(.ref ca)])) _
    refine XS.dup X_17.here hx rfl (hb hby at_318) rfl rfl ?_
    show Steps p.tables e below (T_17.setTop (mkF m 319 #[.val (.int p0), .val (.int p1), .val (.int p2), .val (.int p3), .val (.ref ms), .val (.int st), .val (.int co), .val (.int kd), .val (.int (Int32.ofNat pn)), .val (.int (Int32.ofNat qn)), .val (.int ap), .val (.int xx), .val (.int c0), .val (.int c1), .val (.int yd), .unset, .unset, .unset, .unset, .unset, .unset, .unset] [(.ref ca), (.ref ca)])) _
    refine XS.bipush X_17.here hx rfl (hb hby at_319) ?_
    show Steps p.tables e below (T_17.setTop (mkF m 321 #[.val (.int p0), .val (.int p1), .val (.int p2), .val (.int p3), .val (.ref ms), .val (.int st), .val (.int co), .val (.int kd), .val (.int (Int32.ofNat pn)), .val (.int (Int32.ofNat qn)), .val (.int ap), .val (.int xx), .val (.int c0), .val (.int c1), .val (.int yd), .unset, .unset, .unset, .unset, .unset, .unset, .unset] [(.int (33 : Int32)), (.ref ca), (.ref ca)])) _
    refine XS.bipush X_17.here hx rfl (hb hby at_321) ?_
    exact ktg)
  obtain ⟨cl__23, Ar__23, q__23, S__23, N__23, H__23, G__23⟩ := id f_20
  have hin__23 : ¬ ((33 : Int32) < 0 ∨ cl__23.slots.size ≤ ((33 : Int32)).toNatClampNeg) := inb_of S__23 ⟨by decide, by decide⟩
  obtain ⟨T_24, h_24, X_24, e_24, W_24, st_24⟩ := stC X_17 hx hZ e_17 Ar__23 (j := (33 : Int32)) hin__23 (g := (mkF m 323 #[.val (.int p0), .val (.int p1), .val (.int p2), .val (.int p3), .val (.ref ms), .val (.int st), .val (.int co), .val (.int kd), .val (.int (Int32.ofNat pn)), .val (.int (Int32.ofNat qn)), .val (.int ap), .val (.int xx), .val (.int c0), .val (.int c1), .val (.int yd), .unset, .unset, .unset, .unset, .unset, .unset, .unset] [(.int (108 : Int32)), (.int (33 : Int32)), (.ref ca), (.ref ca)])) rfl rfl (hb hby at_323)
  have pre_24 : Rch p.tables e below (T0.setTop (mkF m 300 #[.val (.int p0), .val (.int p1), .val (.int p2), .val (.int p3), .val (.ref ms), .val (.int st), .val (.int co), .val (.int kd), .val (.int (Int32.ofNat pn)), .val (.int (Int32.ofNat qn)), .val (.int ap), .val (.int xx), .val (.int c0), .val (.int c1), .val (.int yd), .unset, .unset, .unset, .unset, .unset, .unset, .unset] [(.ref ca)])) (T_24.setTop (mkF m 324 #[.val (.int p0), .val (.int p1), .val (.int p2), .val (.int p3), .val (.ref ms), .val (.int st), .val (.int co), .val (.int kd), .val (.int (Int32.ofNat pn)), .val (.int (Int32.ofNat qn)), .val (.int ap), .val (.int xx), .val (.int c0), .val (.int c1), .val (.int yd), .unset, .unset, .unset, .unset, .unset, .unset, .unset] [(.ref ca)])) := fun tgt ktg => pre_22 tgt (st_24 tgt ktg)
  have z_25 : n0 ≤ h_24.size := Nat.le_trans z_18 (Keep.of_wr W_24).1
  have K_26 : Keep h0 h_24 [ca] := K_19.wr W_24 (Or.inl (List.mem_of_getElem? (i := 0) rfl))
  have f_27 : Arv Z h_24 ca kc .char (38 : Int32) [(.int c0), (.int (60 : Int32)), (.int (115 : Int32)), (.int (111 : Int32)), (.int (97 : Int32)), (.int (112 : Int32)), (.int (58 : Int32)), (.int (86 : Int32)), (.int (97 : Int32)), (.int (108 : Int32)), (.int (117 : Int32)), (.int (101 : Int32)), (.int (62 : Int32)), (.int (115 : Int32)), (.int (111 : Int32)), (.int (97 : Int32)), (.int (112 : Int32)), (.int (58 : Int32)), (.int (83 : Int32)), (.int (101 : Int32)), (.int (110 : Int32)), (.int (100 : Int32)), (.int (101 : Int32)), (.int (114 : Int32)), (.int (60 : Int32)), (.int (47 : Int32)), (.int (115 : Int32)), (.int (111 : Int32)), (.int (97 : Int32)), (.int (112 : Int32)), (.int (58 : Int32)), (.int (86 : Int32)), (.int (97 : Int32)), (.int (nar .char (108 : Int32))), (.int (0 : Int32)), (.int (0 : Int32)), (.int (0 : Int32)), (.int (0 : Int32))] (.int (0 : Int32)) := Arv.set Ar__23 q__23 S__23 N__23 H__23 G__23 (fits_nar_char _) W_24 33 rfl (Nat.le_of_ble_eq_true rfl)
  have N_28 := Fr.snoc X_24 N_21 gca
  rw [(by decide : nar .char (108 : Int32) = (108 : Int32))] at f_27
  have pre_29 : Rch p.tables e below (T0.setTop (mkF m 300 #[.val (.int p0), .val (.int p1), .val (.int p2), .val (.int p3), .val (.ref ms), .val (.int st), .val (.int co), .val (.int kd), .val (.int (Int32.ofNat pn)), .val (.int (Int32.ofNat qn)), .val (.int ap), .val (.int xx), .val (.int c0), .val (.int c1), .val (.int yd), .unset, .unset, .unset, .unset, .unset, .unset, .unset] [(.ref ca)])) (T_24.setTop (mkF m 329 #[.val (.int p0), .val (.int p1), .val (.int p2), .val (.int p3), .val (.ref ms), .val (.int st), .val (.int co), .val (.int kd), .val (.int (Int32.ofNat pn)), .val (.int (Int32.ofNat qn)), .val (.int ap), .val (.int xx), .val (.int c0), .val (.int c1), .val (.int yd), .unset, .unset, .unset, .unset, .unset, .unset, .unset] [(.int (117 : Int32)), (.int (34 : Int32)), (.ref ca), (.ref ca)])) := fun tgt ktg => pre_24 tgt (by
    show Steps p.tables e below (T_24.setTop (mkF m 324 #[.val (.int p0), .val (.int p1), .val (.int p2), .val (.int p3), .val (.ref ms), .val (.int st), .val (.int co), .val (.int kd), .val (.int (Int32.ofNat pn)), .val (.int (Int32.ofNat qn)), .val (.int ap), .val (.int xx), .val (.int c0), .val (.int c1), .val (.int yd), .unset, .unset, .unset, .unset, .unset, .unset, .unset] [(.ref ca)])) _
    refine XS.dup X_24.here hx rfl (hb hby at_324) rfl rfl ?_
    show Steps p.tables e below (T_24.setTop (mkF m 325 #[.val (.int p0), .val (.int p1), .val (.int p2), .val (.int p3), .val (.ref ms), .val (.int st), .val (.int co), .val (.int kd), .val (.int (Int32.ofNat pn)), .val (.int (Int32.ofNat qn)), .val (.int ap), .val (.int xx), .val (.int c0), .val (.int c1), .val (.int yd), .unset, .unset, .unset, .unset, .unset, .unset, .unset] [(.ref ca), (.ref ca)])) _
    refine XS.bipush X_24.here hx rfl (hb hby at_325) ?_
    show Steps p.tables e below (T_24.setTop (mkF m 327 #[.val (.int p0), .val (.int p1), .val (.int p2), .val (.int p3), .val (.ref ms), .val (.int st), .val (.int co), .val (.int kd), .val (.int (Int32.ofNat pn)), .val (.int (Int32.ofNat qn)), .val (.int ap), .val (.int xx), .val (.int c0), .val (.int c1), .val (.int yd), .unset, .unset, .unset, .unset, .unset, .unset, .unset] [(.int (34 : Int32)), (.ref ca), (.ref ca)])) _
    refine XS.bipush X_24.here hx rfl (hb hby at_327) ?_
    exact ktg)
  obtain ⟨cl__30, Ar__30, q__30, S__30, N__30, H__30, G__30⟩ := id f_27
  have hin__30 : ¬ ((34 : Int32) < 0 ∨ cl__30.slots.size ≤ ((34 : Int32)).toNatClampNeg) := inb_of S__30 ⟨by decide, by decide⟩
  obtain ⟨T_31, h_31, X_31, e_31, W_31, st_31⟩ := stC X_24 hx hZ e_24 Ar__30 (j := (34 : Int32)) hin__30 (g := (mkF m 329 #[.val (.int p0), .val (.int p1), .val (.int p2), .val (.int p3), .val (.ref ms), .val (.int st), .val (.int co), .val (.int kd), .val (.int (Int32.ofNat pn)), .val (.int (Int32.ofNat qn)), .val (.int ap), .val (.int xx), .val (.int c0), .val (.int c1), .val (.int yd), .unset, .unset, .unset, .unset, .unset, .unset, .unset] [(.int (117 : Int32)), (.int (34 : Int32)), (.ref ca), (.ref ca)])) rfl rfl (hb hby at_329)
  have pre_31 : Rch p.tables e below (T0.setTop (mkF m 300 #[.val (.int p0), .val (.int p1), .val (.int p2), .val (.int p3), .val (.ref ms), .val (.int st), .val (.int co), .val (.int kd), .val (.int (Int32.ofNat pn)), .val (.int (Int32.ofNat qn)), .val (.int ap), .val (.int xx), .val (.int c0), .val (.int c1), .val (.int yd), .unset, .unset, .unset, .unset, .unset, .unset, .unset] [(.ref ca)])) (T_31.setTop (mkF m 330 #[.val (.int p0), .val (.int p1), .val (.int p2), .val (.int p3), .val (.ref ms), .val (.int st), .val (.int co), .val (.int kd), .val (.int (Int32.ofNat pn)), .val (.int (Int32.ofNat qn)), .val (.int ap), .val (.int xx), .val (.int c0), .val (.int c1), .val (.int yd), .unset, .unset, .unset, .unset, .unset, .unset, .unset] [(.ref ca)])) := fun tgt ktg => pre_29 tgt (st_31 tgt ktg)
  have z_32 : n0 ≤ h_31.size := Nat.le_trans z_25 (Keep.of_wr W_31).1
  have K_33 : Keep h0 h_31 [ca] := K_26.wr W_31 (Or.inl (List.mem_of_getElem? (i := 0) rfl))
  have f_34 : Arv Z h_31 ca kc .char (38 : Int32) [(.int c0), (.int (60 : Int32)), (.int (115 : Int32)), (.int (111 : Int32)), (.int (97 : Int32)), (.int (112 : Int32)), (.int (58 : Int32)), (.int (86 : Int32)), (.int (97 : Int32)), (.int (108 : Int32)), (.int (117 : Int32)), (.int (101 : Int32)), (.int (62 : Int32)), (.int (115 : Int32)), (.int (111 : Int32)), (.int (97 : Int32)), (.int (112 : Int32)), (.int (58 : Int32)), (.int (83 : Int32)), (.int (101 : Int32)), (.int (110 : Int32)), (.int (100 : Int32)), (.int (101 : Int32)), (.int (114 : Int32)), (.int (60 : Int32)), (.int (47 : Int32)), (.int (115 : Int32)), (.int (111 : Int32)), (.int (97 : Int32)), (.int (112 : Int32)), (.int (58 : Int32)), (.int (86 : Int32)), (.int (97 : Int32)), (.int (108 : Int32)), (.int (nar .char (117 : Int32))), (.int (0 : Int32)), (.int (0 : Int32)), (.int (0 : Int32))] (.int (0 : Int32)) := Arv.set Ar__30 q__30 S__30 N__30 H__30 G__30 (fits_nar_char _) W_31 34 rfl (Nat.le_of_ble_eq_true rfl)
  have N_35 := Fr.snoc X_31 N_28 gca
  rw [(by decide : nar .char (117 : Int32) = (117 : Int32))] at f_34
  have pre_36 : Rch p.tables e below (T0.setTop (mkF m 300 #[.val (.int p0), .val (.int p1), .val (.int p2), .val (.int p3), .val (.ref ms), .val (.int st), .val (.int co), .val (.int kd), .val (.int (Int32.ofNat pn)), .val (.int (Int32.ofNat qn)), .val (.int ap), .val (.int xx), .val (.int c0), .val (.int c1), .val (.int yd), .unset, .unset, .unset, .unset, .unset, .unset, .unset] [(.ref ca)])) (T_31.setTop (mkF m 335 #[.val (.int p0), .val (.int p1), .val (.int p2), .val (.int p3), .val (.ref ms), .val (.int st), .val (.int co), .val (.int kd), .val (.int (Int32.ofNat pn)), .val (.int (Int32.ofNat qn)), .val (.int ap), .val (.int xx), .val (.int c0), .val (.int c1), .val (.int yd), .unset, .unset, .unset, .unset, .unset, .unset, .unset] [(.int (101 : Int32)), (.int (35 : Int32)), (.ref ca), (.ref ca)])) := fun tgt ktg => pre_31 tgt (by
    show Steps p.tables e below (T_31.setTop (mkF m 330 #[.val (.int p0), .val (.int p1), .val (.int p2), .val (.int p3), .val (.ref ms), .val (.int st), .val (.int co), .val (.int kd), .val (.int (Int32.ofNat pn)), .val (.int (Int32.ofNat qn)), .val (.int ap), .val (.int xx), .val (.int c0), .val (.int c1), .val (.int yd), .unset, .unset, .unset, .unset, .unset, .unset, .unset] [(.ref ca)])) _
    refine XS.dup X_31.here hx rfl (hb hby at_330) rfl rfl ?_
    show Steps p.tables e below (T_31.setTop (mkF m 331 #[.val (.int p0), .val (.int p1), .val (.int p2), .val (.int p3), .val (.ref ms), .val (.int st), .val (.int co), .val (.int kd), .val (.int (Int32.ofNat pn)), .val (.int (Int32.ofNat qn)), .val (.int ap), .val (.int xx), .val (.int c0), .val (.int c1), .val (.int yd), .unset, .unset, .unset, .unset, .unset, .unset, .unset] [(.ref ca), (.ref ca)])) _
    refine XS.bipush X_31.here hx rfl (hb hby at_331) ?_
    show Steps p.tables e below (T_31.setTop (mkF m 333 #[.val (.int p0), .val (.int p1), .val (.int p2), .val (.int p3), .val (.ref ms), .val (.int st), .val (.int co), .val (.int kd), .val (.int (Int32.ofNat pn)), .val (.int (Int32.ofNat qn)), .val (.int ap), .val (.int xx), .val (.int c0), .val (.int c1), .val (.int yd), .unset, .unset, .unset, .unset, .unset, .unset, .unset] [(.int (35 : Int32)), (.ref ca), (.ref ca)])) _
    refine XS.bipush X_31.here hx rfl (hb hby at_333) ?_
    exact ktg)
  obtain ⟨cl__37, Ar__37, q__37, S__37, N__37, H__37, G__37⟩ := id f_34
  have hin__37 : ¬ ((35 : Int32) < 0 ∨ cl__37.slots.size ≤ ((35 : Int32)).toNatClampNeg) := inb_of S__37 ⟨by decide, by decide⟩
  obtain ⟨T_38, h_38, X_38, e_38, W_38, st_38⟩ := stC X_31 hx hZ e_31 Ar__37 (j := (35 : Int32)) hin__37 (g := (mkF m 335 #[.val (.int p0), .val (.int p1), .val (.int p2), .val (.int p3), .val (.ref ms), .val (.int st), .val (.int co), .val (.int kd), .val (.int (Int32.ofNat pn)), .val (.int (Int32.ofNat qn)), .val (.int ap), .val (.int xx), .val (.int c0), .val (.int c1), .val (.int yd), .unset, .unset, .unset, .unset, .unset, .unset, .unset] [(.int (101 : Int32)), (.int (35 : Int32)), (.ref ca), (.ref ca)])) rfl rfl (hb hby at_335)
  have pre_38 : Rch p.tables e below (T0.setTop (mkF m 300 #[.val (.int p0), .val (.int p1), .val (.int p2), .val (.int p3), .val (.ref ms), .val (.int st), .val (.int co), .val (.int kd), .val (.int (Int32.ofNat pn)), .val (.int (Int32.ofNat qn)), .val (.int ap), .val (.int xx), .val (.int c0), .val (.int c1), .val (.int yd), .unset, .unset, .unset, .unset, .unset, .unset, .unset] [(.ref ca)])) (T_38.setTop (mkF m 336 #[.val (.int p0), .val (.int p1), .val (.int p2), .val (.int p3), .val (.ref ms), .val (.int st), .val (.int co), .val (.int kd), .val (.int (Int32.ofNat pn)), .val (.int (Int32.ofNat qn)), .val (.int ap), .val (.int xx), .val (.int c0), .val (.int c1), .val (.int yd), .unset, .unset, .unset, .unset, .unset, .unset, .unset] [(.ref ca)])) := fun tgt ktg => pre_36 tgt (st_38 tgt ktg)
  have z_39 : n0 ≤ h_38.size := Nat.le_trans z_32 (Keep.of_wr W_38).1
  have K_40 : Keep h0 h_38 [ca] := K_33.wr W_38 (Or.inl (List.mem_of_getElem? (i := 0) rfl))
  have f_41 : Arv Z h_38 ca kc .char (38 : Int32) [(.int c0), (.int (60 : Int32)), (.int (115 : Int32)), (.int (111 : Int32)), (.int (97 : Int32)), (.int (112 : Int32)), (.int (58 : Int32)), (.int (86 : Int32)), (.int (97 : Int32)), (.int (108 : Int32)), (.int (117 : Int32)), (.int (101 : Int32)), (.int (62 : Int32)), (.int (115 : Int32)), (.int (111 : Int32)), (.int (97 : Int32)), (.int (112 : Int32)), (.int (58 : Int32)), (.int (83 : Int32)), (.int (101 : Int32)), (.int (110 : Int32)), (.int (100 : Int32)), (.int (101 : Int32)), (.int (114 : Int32)), (.int (60 : Int32)), (.int (47 : Int32)), (.int (115 : Int32)), (.int (111 : Int32)), (.int (97 : Int32)), (.int (112 : Int32)), (.int (58 : Int32)), (.int (86 : Int32)), (.int (97 : Int32)), (.int (108 : Int32)), (.int (117 : Int32)), (.int (nar .char (101 : Int32))), (.int (0 : Int32)), (.int (0 : Int32))] (.int (0 : Int32)) := Arv.set Ar__37 q__37 S__37 N__37 H__37 G__37 (fits_nar_char _) W_38 35 rfl (Nat.le_of_ble_eq_true rfl)
  have N_42 := Fr.snoc X_38 N_35 gca
  rw [(by decide : nar .char (101 : Int32) = (101 : Int32))] at f_41
  have pre_43 : Rch p.tables e below (T0.setTop (mkF m 300 #[.val (.int p0), .val (.int p1), .val (.int p2), .val (.int p3), .val (.ref ms), .val (.int st), .val (.int co), .val (.int kd), .val (.int (Int32.ofNat pn)), .val (.int (Int32.ofNat qn)), .val (.int ap), .val (.int xx), .val (.int c0), .val (.int c1), .val (.int yd), .unset, .unset, .unset, .unset, .unset, .unset, .unset] [(.ref ca)])) (T_38.setTop (mkF m 341 #[.val (.int p0), .val (.int p1), .val (.int p2), .val (.int p3), .val (.ref ms), .val (.int st), .val (.int co), .val (.int kd), .val (.int (Int32.ofNat pn)), .val (.int (Int32.ofNat qn)), .val (.int ap), .val (.int xx), .val (.int c0), .val (.int c1), .val (.int yd), .unset, .unset, .unset, .unset, .unset, .unset, .unset] [(.int (62 : Int32)), (.int (36 : Int32)), (.ref ca), (.ref ca)])) := fun tgt ktg => pre_38 tgt (by
    show Steps p.tables e below (T_38.setTop (mkF m 336 #[.val (.int p0), .val (.int p1), .val (.int p2), .val (.int p3), .val (.ref ms), .val (.int st), .val (.int co), .val (.int kd), .val (.int (Int32.ofNat pn)), .val (.int (Int32.ofNat qn)), .val (.int ap), .val (.int xx), .val (.int c0), .val (.int c1), .val (.int yd), .unset, .unset, .unset, .unset, .unset, .unset, .unset] [(.ref ca)])) _
    refine XS.dup X_38.here hx rfl (hb hby at_336) rfl rfl ?_
    show Steps p.tables e below (T_38.setTop (mkF m 337 #[.val (.int p0), .val (.int p1), .val (.int p2), .val (.int p3), .val (.ref ms), .val (.int st), .val (.int co), .val (.int kd), .val (.int (Int32.ofNat pn)), .val (.int (Int32.ofNat qn)), .val (.int ap), .val (.int xx), .val (.int c0), .val (.int c1), .val (.int yd), .unset, .unset, .unset, .unset, .unset, .unset, .unset] [(.ref ca), (.ref ca)])) _
    refine XS.bipush X_38.here hx rfl (hb hby at_337) ?_
    show Steps p.tables e below (T_38.setTop (mkF m 339 #[.val (.int p0), .val (.int p1), .val (.int p2), .val (.int p3), .val (.ref ms), .val (.int st), .val (.int co), .val (.int kd), .val (.int (Int32.ofNat pn)), .val (.int (Int32.ofNat qn)), .val (.int ap), .val (.int xx), .val (.int c0), .val (.int c1), .val (.int yd), .unset, .unset, .unset, .unset, .unset, .unset, .unset] [(.int (36 : Int32)), (.ref ca), (.ref ca)])) _
    refine XS.bipush X_38.here hx rfl (hb hby at_339) ?_
    exact ktg)
  obtain ⟨cl__44, Ar__44, q__44, S__44, N__44, H__44, G__44⟩ := id f_41
  have hin__44 : ¬ ((36 : Int32) < 0 ∨ cl__44.slots.size ≤ ((36 : Int32)).toNatClampNeg) := inb_of S__44 ⟨by decide, by decide⟩
  obtain ⟨T_45, h_45, X_45, e_45, W_45, st_45⟩ := stC X_38 hx hZ e_38 Ar__44 (j := (36 : Int32)) hin__44 (g := (mkF m 341 #[.val (.int p0), .val (.int p1), .val (.int p2), .val (.int p3), .val (.ref ms), .val (.int st), .val (.int co), .val (.int kd), .val (.int (Int32.ofNat pn)), .val (.int (Int32.ofNat qn)), .val (.int ap), .val (.int xx), .val (.int c0), .val (.int c1), .val (.int yd), .unset, .unset, .unset, .unset, .unset, .unset, .unset] [(.int (62 : Int32)), (.int (36 : Int32)), (.ref ca), (.ref ca)])) rfl rfl (hb hby at_341)
  have pre_45 : Rch p.tables e below (T0.setTop (mkF m 300 #[.val (.int p0), .val (.int p1), .val (.int p2), .val (.int p3), .val (.ref ms), .val (.int st), .val (.int co), .val (.int kd), .val (.int (Int32.ofNat pn)), .val (.int (Int32.ofNat qn)), .val (.int ap), .val (.int xx), .val (.int c0), .val (.int c1), .val (.int yd), .unset, .unset, .unset, .unset, .unset, .unset, .unset] [(.ref ca)])) (T_45.setTop (mkF m 342 #[.val (.int p0), .val (.int p1), .val (.int p2), .val (.int p3), .val (.ref ms), .val (.int st), .val (.int co), .val (.int kd), .val (.int (Int32.ofNat pn)), .val (.int (Int32.ofNat qn)), .val (.int ap), .val (.int xx), .val (.int c0), .val (.int c1), .val (.int yd), .unset, .unset, .unset, .unset, .unset, .unset, .unset] [(.ref ca)])) := fun tgt ktg => pre_43 tgt (st_45 tgt ktg)
  have z_46 : n0 ≤ h_45.size := Nat.le_trans z_39 (Keep.of_wr W_45).1
  have K_47 : Keep h0 h_45 [ca] := K_40.wr W_45 (Or.inl (List.mem_of_getElem? (i := 0) rfl))
  have f_48 : Arv Z h_45 ca kc .char (38 : Int32) [(.int c0), (.int (60 : Int32)), (.int (115 : Int32)), (.int (111 : Int32)), (.int (97 : Int32)), (.int (112 : Int32)), (.int (58 : Int32)), (.int (86 : Int32)), (.int (97 : Int32)), (.int (108 : Int32)), (.int (117 : Int32)), (.int (101 : Int32)), (.int (62 : Int32)), (.int (115 : Int32)), (.int (111 : Int32)), (.int (97 : Int32)), (.int (112 : Int32)), (.int (58 : Int32)), (.int (83 : Int32)), (.int (101 : Int32)), (.int (110 : Int32)), (.int (100 : Int32)), (.int (101 : Int32)), (.int (114 : Int32)), (.int (60 : Int32)), (.int (47 : Int32)), (.int (115 : Int32)), (.int (111 : Int32)), (.int (97 : Int32)), (.int (112 : Int32)), (.int (58 : Int32)), (.int (86 : Int32)), (.int (97 : Int32)), (.int (108 : Int32)), (.int (117 : Int32)), (.int (101 : Int32)), (.int (nar .char (62 : Int32))), (.int (0 : Int32))] (.int (0 : Int32)) := Arv.set Ar__44 q__44 S__44 N__44 H__44 G__44 (fits_nar_char _) W_45 36 rfl (Nat.le_of_ble_eq_true rfl)
  have N_49 := Fr.snoc X_45 N_42 gca
  rw [(by decide : nar .char (62 : Int32) = (62 : Int32))] at f_48
  have pre_50 : Rch p.tables e below (T0.setTop (mkF m 300 #[.val (.int p0), .val (.int p1), .val (.int p2), .val (.int p3), .val (.ref ms), .val (.int st), .val (.int co), .val (.int kd), .val (.int (Int32.ofNat pn)), .val (.int (Int32.ofNat qn)), .val (.int ap), .val (.int xx), .val (.int c0), .val (.int c1), .val (.int yd), .unset, .unset, .unset, .unset, .unset, .unset, .unset] [(.ref ca)])) (T_45.setTop (mkF m 347 #[.val (.int p0), .val (.int p1), .val (.int p2), .val (.int p3), .val (.ref ms), .val (.int st), .val (.int co), .val (.int kd), .val (.int (Int32.ofNat pn)), .val (.int (Int32.ofNat qn)), .val (.int ap), .val (.int xx), .val (.int c0), .val (.int c1), .val (.int yd), .unset, .unset, .unset, .unset, .unset, .unset, .unset] [(.int c1), (.int (37 : Int32)), (.ref ca), (.ref ca)])) := fun tgt ktg => pre_45 tgt (by
    show Steps p.tables e below (T_45.setTop (mkF m 342 #[.val (.int p0), .val (.int p1), .val (.int p2), .val (.int p3), .val (.ref ms), .val (.int st), .val (.int co), .val (.int kd), .val (.int (Int32.ofNat pn)), .val (.int (Int32.ofNat qn)), .val (.int ap), .val (.int xx), .val (.int c0), .val (.int c1), .val (.int yd), .unset, .unset, .unset, .unset, .unset, .unset, .unset] [(.ref ca)])) _
    refine XS.dup X_45.here hx rfl (hb hby at_342) rfl rfl ?_
    show Steps p.tables e below (T_45.setTop (mkF m 343 #[.val (.int p0), .val (.int p1), .val (.int p2), .val (.int p3), .val (.ref ms), .val (.int st), .val (.int co), .val (.int kd), .val (.int (Int32.ofNat pn)), .val (.int (Int32.ofNat qn)), .val (.int ap), .val (.int xx), .val (.int c0), .val (.int c1), .val (.int yd), .unset, .unset, .unset, .unset, .unset, .unset, .unset] [(.ref ca), (.ref ca)])) _
    refine XS.bipush X_45.here hx rfl (hb hby at_343) ?_
    show Steps p.tables e below (T_45.setTop (mkF m 345 #[.val (.int p0), .val (.int p1), .val (.int p2), .val (.int p3), .val (.ref ms), .val (.int st), .val (.int co), .val (.int kd), .val (.int (Int32.ofNat pn)), .val (.int (Int32.ofNat qn)), .val (.int ap), .val (.int xx), .val (.int c0), .val (.int c1), .val (.int yd), .unset, .unset, .unset, .unset, .unset, .unset, .unset] [(.int (37 : Int32)), (.ref ca), (.ref ca)])) _
    refine XS.iload X_45.here hx rfl (hb hby at_345) rfl ?_
    exact ktg)
  obtain ⟨cl__51, Ar__51, q__51, S__51, N__51, H__51, G__51⟩ := id f_48
  have hin__51 : ¬ ((37 : Int32) < 0 ∨ cl__51.slots.size ≤ ((37 : Int32)).toNatClampNeg) := inb_of S__51 ⟨by decide, by decide⟩
  obtain ⟨T_52, h_52, X_52, e_52, W_52, st_52⟩ := stC X_45 hx hZ e_45 Ar__51 (j := (37 : Int32)) hin__51 (g := (mkF m 347 #[.val (.int p0), .val (.int p1), .val (.int p2), .val (.int p3), .val (.ref ms), .val (.int st), .val (.int co), .val (.int kd), .val (.int (Int32.ofNat pn)), .val (.int (Int32.ofNat qn)), .val (.int ap), .val (.int xx), .val (.int c0), .val (.int c1), .val (.int yd), .unset, .unset, .unset, .unset, .unset, .unset, .unset] [(.int c1), (.int (37 : Int32)), (.ref ca), (.ref ca)])) rfl rfl (hb hby at_347)
  have pre_52 : Rch p.tables e below (T0.setTop (mkF m 300 #[.val (.int p0), .val (.int p1), .val (.int p2), .val (.int p3), .val (.ref ms), .val (.int st), .val (.int co), .val (.int kd), .val (.int (Int32.ofNat pn)), .val (.int (Int32.ofNat qn)), .val (.int ap), .val (.int xx), .val (.int c0), .val (.int c1), .val (.int yd), .unset, .unset, .unset, .unset, .unset, .unset, .unset] [(.ref ca)])) (T_52.setTop (mkF m 348 #[.val (.int p0), .val (.int p1), .val (.int p2), .val (.int p3), .val (.ref ms), .val (.int st), .val (.int co), .val (.int kd), .val (.int (Int32.ofNat pn)), .val (.int (Int32.ofNat qn)), .val (.int ap), .val (.int xx), .val (.int c0), .val (.int c1), .val (.int yd), .unset, .unset, .unset, .unset, .unset, .unset, .unset] [(.ref ca)])) := fun tgt ktg => pre_50 tgt (st_52 tgt ktg)
  have z_53 : n0 ≤ h_52.size := Nat.le_trans z_46 (Keep.of_wr W_52).1
  have K_54 : Keep h0 h_52 [ca] := K_47.wr W_52 (Or.inl (List.mem_of_getElem? (i := 0) rfl))
  have f_55 : Arv Z h_52 ca kc .char (38 : Int32) [(.int c0), (.int (60 : Int32)), (.int (115 : Int32)), (.int (111 : Int32)), (.int (97 : Int32)), (.int (112 : Int32)), (.int (58 : Int32)), (.int (86 : Int32)), (.int (97 : Int32)), (.int (108 : Int32)), (.int (117 : Int32)), (.int (101 : Int32)), (.int (62 : Int32)), (.int (115 : Int32)), (.int (111 : Int32)), (.int (97 : Int32)), (.int (112 : Int32)), (.int (58 : Int32)), (.int (83 : Int32)), (.int (101 : Int32)), (.int (110 : Int32)), (.int (100 : Int32)), (.int (101 : Int32)), (.int (114 : Int32)), (.int (60 : Int32)), (.int (47 : Int32)), (.int (115 : Int32)), (.int (111 : Int32)), (.int (97 : Int32)), (.int (112 : Int32)), (.int (58 : Int32)), (.int (86 : Int32)), (.int (97 : Int32)), (.int (108 : Int32)), (.int (117 : Int32)), (.int (101 : Int32)), (.int (62 : Int32)), (.int (nar .char c1))] (.int (0 : Int32)) := Arv.set Ar__51 q__51 S__51 N__51 H__51 G__51 (fits_nar_char _) W_52 37 rfl (Nat.le_of_ble_eq_true rfl)
  have N_56 := Fr.snoc X_52 N_49 gca
  rw [own_narc hc1.1 hc1.2] at f_55
  exact ⟨T_52, h_52, _, X_52, e_52, N_56, K_54, z_53, f_55, pre_52⟩
theorem pd_18 : parseMethodDescriptor "(I)C" = some ⟨[.int], some .char⟩ := by decide +kernel
theorem pd_19 : parseMethodDescriptor "([C)V" = some ⟨[(.array .char)], none⟩ := by decide +kernel
theorem pd_20 : parseMethodDescriptor "(C)Ljava/lang/String;" = some ⟨[.char], some (.object "java/lang/String")⟩ := by decide +kernel
theorem pd_21 : parseMethodDescriptor "(CCCCC)Z" = some ⟨[.char, .char, .char, .char, .char], some .boolean⟩ := by decide +kernel
theorem pd_22 : parseMethodDescriptor "(ILjava/lang/String;)V" = some ⟨[.int, (.object "java/lang/String")], none⟩ := by decide +kernel
theorem pd_23 : parseMethodDescriptor "(Ljava/lang/String;)Z" = some ⟨[(.object "java/lang/String")], some .boolean⟩ := by decide +kernel
theorem ef_0 (m : MethodId) (x0 : Int32) (x1 : Int32) (x2 : Int32) (x3 : Int32) : entryFrame m #[(.int x0), (.int x1), (.int x2), (.int x3)] maxLocals = mkF m 0 #[.val (.int x0), .val (.int x1), .val (.int x2), .val (.int x3), .unset, .unset, .unset, .unset, .unset, .unset, .unset, .unset, .unset, .unset, .unset, .unset, .unset, .unset, .unset, .unset, .unset, .unset] [] := by first | (simp [entryFrame, mkF, argsToLocals, Value.category, maxLocals]; done) | rfl
def Q0 (Z : State) (p0 : Int32) (p1 : Int32) (p2 : Int32) (p3 : Int32) (u : Value) (h0 : Heap) (n0 : Nat) (v : Option Value) (h : Heap) (L : List Loc) : Prop := v = some (.int 1) ∧ Fr n0 L
set_option maxRecDepth 65536 in
set_option maxHeartbeats 40000000 in
theorem rm0 (l : Launch) (Z : State) (a0 : Array Value) (hw : ∀ d ∈ tables_1, d.before a0 Z = true) (ws : List Jvm.Cond) (p0 : Int32) (p1 : Int32) (p2 : Int32) (p3 : Int32) (u : Value) (h0 : Heap) (n0 : Nat) (Z0 : n0 ≤ h0.size) (cs : Int32) (hcs : ¬ cs = 0) (S1 : Sta Z h0 "java/lang/String" "COMPACT_STRINGS" "Z" (.int cs)) (hu : u.isRef = true) (S2 : Sta Z h0 "jdk/internal/util/Preconditions" "SIOOBE_FORMATTER" "Ljava/util/function/BiFunction;" u) :
    MetFree l x (head1 (Jvm.Cond.code x code maxLocals ret :: ws) room_1) (fun aA U => aA = #[(.int p0), (.int p1), (.int p2), (.int p3)] ∧ Z.Warmed39 U.vm ∧ U.heap = h0 ∧ CHv Z consts_1 U.vm h0) (fun _ _ _ _ _ => True) (fun _ U oO U' => ∃ vV LL, oO = .returned vV ∧ Q0 Z p0 p1 p2 p3 u h0 n0 vV U'.heap LL ∧ CHr Z consts_1 U.vm U.heap U'.vm U'.heap ∧ ReturnedEndW U oO U' LL room_1.cells room_1.slots) := by
  refine MetFree.of_bodySF (plainFor_of_name pn_5) hisR ?_
  intro p e s m args below meth c s₁ Bd hml0 hP hK
  obtain ⟨rfl, hZ, hh, hC⟩ := hP
  have hx := Bd.exec
  have hby := Bd.bytes
  have hml : c.maxLocals = 22 := hml0
  have hown : s.vm.findClass "ResponseIsSenderFaultPinLaw" = some m.cls := findClass_of_methodNamed Bd.named
  have hnm := (name_of_methodNamed Bd.named Bd.method).1
  have X0 : Stand p l e room_1 (s.setVm s.vm) m #[(.int p0), (.int p1), (.int p2), (.int p3)] below meth c s₁ [] 0 0 := Stand.of_body Bd
  have e0 : s₁.heap = h0 := by rw [← hh, Bd.state]; rfl
  have N0 := Fr.nil n0
  have K0 : Keep h0 h0 [] := Keep.refl _ _
  have hS0 : s.Since s.vm 0 := (State.WarmedH.refl s).since _
  have hk0 : 0 ≤ h0.size := Nat.zero_le _
  have C0 : CHr Z consts_1 s.vm h0 s.vm h0 := CHr.refl hC
  have hEL := own_EW hw
  have wS := own_wS hw
  have pre0 : Rch p.tables e below (s₁.setTop (entryFrame m #[(.int p0), (.int p1), (.int p2), (.int p3)] maxLocals)) (s₁.setTop (mkF m 0 #[.val (.int p0), .val (.int p1), .val (.int p2), .val (.int p3), .unset, .unset, .unset, .unset, .unset, .unset, .unset, .unset, .unset, .unset, .unset, .unset, .unset, .unset, .unset, .unset, .unset, .unset] [])) := fun tgt ktg => castTop (ef_0 m p0 p1 p2 p3) ktg
  obtain ⟨_, _, ⟨T_1, L_1, k_1, n_1⟩, -, X_1, hSn_1, hgr_1, ⟨Lc_1, hQ_1, l_1, y_1, z_1, hCn_1⟩, st_1⟩ := callSS X0 hx (y := (⟨"ResponseIsSenderFaultPinLaw", "marker", "()Ljava/lang/String;"⟩ : MethodName)) hown (mvT hZ (hw _ (List.mem_of_getElem? (i := 0) rfl))) (mvT hZ (hw _ (List.mem_of_getElem? (i := 1) rfl))) (mvT hZ (hw _ (List.mem_of_getElem? (i := 2) rfl))) (mvT hZ (hw _ (List.mem_of_getElem? (i := 3) rfl))) (by decide) (backOfSH (W := 0) (rmmk l Z a0 hw [] h0 n0 Z0) hZ (hw _ (List.mem_of_getElem? (i := 3) rfl)) (hw _ (List.mem_of_getElem? (i := 2) rfl)) (by decide) (by decide) hEL C0.1) (g := (mkF m 0 #[.val (.int p0), .val (.int p1), .val (.int p2), .val (.int p3), .unset, .unset, .unset, .unset, .unset, .unset, .unset, .unset, .unset, .unset, .unset, .unset, .unset, .unset, .unset, .unset, .unset, .unset] [])) rfl (by rw [hml]; rfl) (argsL := []) (rest := []) (lenOf pd_7 rfl) rfl (by show 2 * 0 + _ ≤ _; exact Nat.le_of_eq rfl) (hb hby at_0) (fun _ _ => ⟨rfl, e0, (by decide : 0 + 2 ≤ _), (by decide : 0 + 148 ≤ _)⟩)
  dsimp only [Pt.U, Pt.locs, Pt.cells, Pt.slots] at X_1 l_1 y_1 z_1 st_1 hQ_1 hSn_1 hgr_1 hCn_1
  subst l_1 y_1 z_1
  obtain ⟨ms, mb, km, rfl, Nq_1, Kq_1, m1, m2, m3, m4⟩ := hQ_1
  have N_2 := Fr.app N0 Nq_1
  have pre_1 : Rch p.tables e below (s₁.setTop (entryFrame m #[(.int p0), (.int p1), (.int p2), (.int p3)] maxLocals)) (T_1.setTop (mkF m 3 #[.val (.int p0), .val (.int p1), .val (.int p2), .val (.int p3), .unset, .unset, .unset, .unset, .unset, .unset, .unset, .unset, .unset, .unset, .unset, .unset, .unset, .unset, .unset, .unset, .unset, .unset] [(.ref ms)])) := fun tgt ktg => pre0 tgt (st_1.trans ktg)
  have hS_1 : s.Since T_1.vm T_1.heap.size := hS0.trans hSn_1 (Nat.le_trans hk0 (by rw [← e0]; exact hgr_1))
  have hk_1 := Nat.le_refl T_1.heap.size
  have hZn_1 : Z.Warmed39 T_1.vm := State.Warmed39.trans (t := s.setVm s.vm) hZ hSn_1.1
  have hownn_1 : T_1.vm.findClass "ResponseIsSenderFaultPinLaw" = some m.cls := by rw [hSn_1.1.alike.findClass]; exact hown
  have hZ := hZn_1
  have hown := hownn_1
  have Xw_1 : Stand p l e room_1 (s.setVm T_1.vm) m #[(.int p0), (.int p1), (.int p2), (.int p3)] below meth c T_1 _ _ _ := X_1
  have C_3 : CHr Z consts_1 s.vm h0 T_1.vm T_1.heap := C0.trans hCn_1
  have f_4 : Sta Z T_1.heap "java/lang/String" "COMPACT_STRINGS" "Z" (.int cs) := own_sta_keep S1 Kq_1 ns0
  have f_5 : Sta Z T_1.heap "jdk/internal/util/Preconditions" "SIOOBE_FORMATTER" "Ljava/util/function/BiFunction;" u := own_sta_keep S2 Kq_1 ns0
  have z_6 : n0 ≤ T_1.heap.size := Nat.le_trans Z0 Kq_1.1
  have pre_7 : Rch p.tables e below (s₁.setTop (entryFrame m #[(.int p0), (.int p1), (.int p2), (.int p3)] maxLocals)) (T_1.setTop (mkF m 8 #[.val (.int p0), .val (.int p1), .val (.int p2), .val (.int p3), .val (.ref ms), .unset, .unset, .unset, .unset, .unset, .unset, .unset, .unset, .unset, .unset, .unset, .unset, .unset, .unset, .unset, .unset, .unset] [(.int (p1 &&& (1 : Int32)))])) := fun tgt ktg => pre_1 tgt (by
    show Steps p.tables e below (T_1.setTop (mkF m 3 #[.val (.int p0), .val (.int p1), .val (.int p2), .val (.int p3), .unset, .unset, .unset, .unset, .unset, .unset, .unset, .unset, .unset, .unset, .unset, .unset, .unset, .unset, .unset, .unset, .unset, .unset] [(.ref ms)])) _
    refine XS.astore Xw_1.here hx rfl (hb hby at_3) rfl rfl (l' := #[.val (.int p0), .val (.int p1), .val (.int p2), .val (.int p3), .val (.ref ms), .unset, .unset, .unset, .unset, .unset, .unset, .unset, .unset, .unset, .unset, .unset, .unset, .unset, .unset, .unset, .unset, .unset]) rfl ?_
    show Steps p.tables e below (T_1.setTop (mkF m 5 #[.val (.int p0), .val (.int p1), .val (.int p2), .val (.int p3), .val (.ref ms), .unset, .unset, .unset, .unset, .unset, .unset, .unset, .unset, .unset, .unset, .unset, .unset, .unset, .unset, .unset, .unset, .unset] [])) _
    refine XS.iloadN Xw_1.here hx rfl (hb hby at_5) rfl ?_
    show Steps p.tables e below (T_1.setTop (mkF m 6 #[.val (.int p0), .val (.int p1), .val (.int p2), .val (.int p3), .val (.ref ms), .unset, .unset, .unset, .unset, .unset, .unset, .unset, .unset, .unset, .unset, .unset, .unset, .unset, .unset, .unset, .unset, .unset] [(.int p1)])) _
    refine XS.iconst Xw_1.here hx rfl (hb hby at_6) ?_
    show Steps p.tables e below (T_1.setTop (mkF m 7 #[.val (.int p0), .val (.int p1), .val (.int p2), .val (.int p3), .val (.ref ms), .unset, .unset, .unset, .unset, .unset, .unset, .unset, .unset, .unset, .unset, .unset, .unset, .unset, .unset, .unset, .unset, .unset] [(.int (1 : Int32)), (.int p1)])) _
    refine XS.iand Xw_1.here hx rfl (hb hby at_7) rfl ?_
    exact ktg)
  obtain ⟨st, hv_st⟩ : ∃ nm_ : Int32, nm_ = (if (p1 &&& (1 : Int32)) = (0 : Int32) then p0 else (400 : Int32)) := ⟨_, rfl⟩
  have pre_9 : Rch p.tables e below (s₁.setTop (entryFrame m #[(.int p0), (.int p1), (.int p2), (.int p3)] maxLocals)) (T_1.setTop (mkF m 18 #[.val (.int p0), .val (.int p1), .val (.int p2), .val (.int p3), .val (.ref ms), .unset, .unset, .unset, .unset, .unset, .unset, .unset, .unset, .unset, .unset, .unset, .unset, .unset, .unset, .unset, .unset, .unset] [(.int st)])) := fun tgt ktg => pre_7 tgt (by
    by_cases q_8 : (p1 &&& (1 : Int32)) = (0 : Int32)
    · skip
      show Steps p.tables e below (T_1.setTop (mkF m 8 #[.val (.int p0), .val (.int p1), .val (.int p2), .val (.int p3), .val (.ref ms), .unset, .unset, .unset, .unset, .unset, .unset, .unset, .unset, .unset, .unset, .unset, .unset, .unset, .unset, .unset, .unset, .unset] [(.int (p1 &&& (1 : Int32)))])) _
      refine XS.ifYes Xw_1.here hx rfl (pc0 := 8) (pc' := 17) rfl (hb hby at_8) rfl ((if0 _ _).trans (teq q_8).1) (by decide) (by decide) ?_
      show Steps p.tables e below (T_1.setTop (mkF m 17 #[.val (.int p0), .val (.int p1), .val (.int p2), .val (.int p3), .val (.ref ms), .unset, .unset, .unset, .unset, .unset, .unset, .unset, .unset, .unset, .unset, .unset, .unset, .unset, .unset, .unset, .unset, .unset] [])) _
      refine XS.iloadN Xw_1.here hx rfl (hb hby at_17) rfl ?_
      have ev_st : st = p0 := by rw [hv_st, if_pos q_8]
      rw [ev_st] at ktg
      exact ktg
    · skip
      show Steps p.tables e below (T_1.setTop (mkF m 8 #[.val (.int p0), .val (.int p1), .val (.int p2), .val (.int p3), .val (.ref ms), .unset, .unset, .unset, .unset, .unset, .unset, .unset, .unset, .unset, .unset, .unset, .unset, .unset, .unset, .unset, .unset, .unset] [(.int (p1 &&& (1 : Int32)))])) _
      refine XS.ifNo Xw_1.here hx rfl (hb hby at_8) rfl ((if0 _ _).trans (feq q_8).1) ?_
      show Steps p.tables e below (T_1.setTop (mkF m 11 #[.val (.int p0), .val (.int p1), .val (.int p2), .val (.int p3), .val (.ref ms), .unset, .unset, .unset, .unset, .unset, .unset, .unset, .unset, .unset, .unset, .unset, .unset, .unset, .unset, .unset, .unset, .unset] [])) _
      refine XS.sipush Xw_1.here hx rfl (hb hby at_11) ?_
      show Steps p.tables e below (T_1.setTop (mkF m 14 #[.val (.int p0), .val (.int p1), .val (.int p2), .val (.int p3), .val (.ref ms), .unset, .unset, .unset, .unset, .unset, .unset, .unset, .unset, .unset, .unset, .unset, .unset, .unset, .unset, .unset, .unset, .unset] [(.int (400 : Int32))])) _
      refine XS.goto Xw_1.here hx rfl (pc0 := 14) (pc' := 18) rfl (hb hby at_14) (by decide) (by decide) ?_
      have ev_st : st = (400 : Int32) := by rw [hv_st, if_neg q_8]
      rw [ev_st] at ktg
      exact ktg
    done)
  have pre_10 : Rch p.tables e below (s₁.setTop (entryFrame m #[(.int p0), (.int p1), (.int p2), (.int p3)] maxLocals)) (T_1.setTop (mkF m 23 #[.val (.int p0), .val (.int p1), .val (.int p2), .val (.int p3), .val (.ref ms), .val (.int st), .unset, .unset, .unset, .unset, .unset, .unset, .unset, .unset, .unset, .unset, .unset, .unset, .unset, .unset, .unset, .unset] [(.int (p1 &&& (2 : Int32)))])) := fun tgt ktg => pre_9 tgt (by
    show Steps p.tables e below (T_1.setTop (mkF m 18 #[.val (.int p0), .val (.int p1), .val (.int p2), .val (.int p3), .val (.ref ms), .unset, .unset, .unset, .unset, .unset, .unset, .unset, .unset, .unset, .unset, .unset, .unset, .unset, .unset, .unset, .unset, .unset] [(.int st)])) _
    refine XS.istore Xw_1.here hx rfl (hb hby at_18) rfl (l' := #[.val (.int p0), .val (.int p1), .val (.int p2), .val (.int p3), .val (.ref ms), .val (.int st), .unset, .unset, .unset, .unset, .unset, .unset, .unset, .unset, .unset, .unset, .unset, .unset, .unset, .unset, .unset, .unset]) rfl ?_
    show Steps p.tables e below (T_1.setTop (mkF m 20 #[.val (.int p0), .val (.int p1), .val (.int p2), .val (.int p3), .val (.ref ms), .val (.int st), .unset, .unset, .unset, .unset, .unset, .unset, .unset, .unset, .unset, .unset, .unset, .unset, .unset, .unset, .unset, .unset] [])) _
    refine XS.iloadN Xw_1.here hx rfl (hb hby at_20) rfl ?_
    show Steps p.tables e below (T_1.setTop (mkF m 21 #[.val (.int p0), .val (.int p1), .val (.int p2), .val (.int p3), .val (.ref ms), .val (.int st), .unset, .unset, .unset, .unset, .unset, .unset, .unset, .unset, .unset, .unset, .unset, .unset, .unset, .unset, .unset, .unset] [(.int p1)])) _
    refine XS.iconst Xw_1.here hx rfl (hb hby at_21) ?_
    show Steps p.tables e below (T_1.setTop (mkF m 22 #[.val (.int p0), .val (.int p1), .val (.int p2), .val (.int p3), .val (.ref ms), .val (.int st), .unset, .unset, .unset, .unset, .unset, .unset, .unset, .unset, .unset, .unset, .unset, .unset, .unset, .unset, .unset, .unset] [(.int (2 : Int32)), (.int p1)])) _
    refine XS.iand Xw_1.here hx rfl (hb hby at_22) rfl ?_
    exact ktg)
  obtain ⟨co, hv_co⟩ : ∃ nm_ : Int32, nm_ = (if (p1 &&& (2 : Int32)) = (0 : Int32) then (0 : Int32) else (1 : Int32)) := ⟨_, rfl⟩
  have pre_12 : Rch p.tables e below (s₁.setTop (entryFrame m #[(.int p0), (.int p1), (.int p2), (.int p3)] maxLocals)) (T_1.setTop (mkF m 31 #[.val (.int p0), .val (.int p1), .val (.int p2), .val (.int p3), .val (.ref ms), .val (.int st), .unset, .unset, .unset, .unset, .unset, .unset, .unset, .unset, .unset, .unset, .unset, .unset, .unset, .unset, .unset, .unset] [(.int co)])) := fun tgt ktg => pre_10 tgt (by
    by_cases q_11 : (p1 &&& (2 : Int32)) = (0 : Int32)
    · skip
      show Steps p.tables e below (T_1.setTop (mkF m 23 #[.val (.int p0), .val (.int p1), .val (.int p2), .val (.int p3), .val (.ref ms), .val (.int st), .unset, .unset, .unset, .unset, .unset, .unset, .unset, .unset, .unset, .unset, .unset, .unset, .unset, .unset, .unset, .unset] [(.int (p1 &&& (2 : Int32)))])) _
      refine XS.ifYes Xw_1.here hx rfl (pc0 := 23) (pc' := 30) rfl (hb hby at_23) rfl ((if0 _ _).trans (teq q_11).1) (by decide) (by decide) ?_
      show Steps p.tables e below (T_1.setTop (mkF m 30 #[.val (.int p0), .val (.int p1), .val (.int p2), .val (.int p3), .val (.ref ms), .val (.int st), .unset, .unset, .unset, .unset, .unset, .unset, .unset, .unset, .unset, .unset, .unset, .unset, .unset, .unset, .unset, .unset] [])) _
      refine XS.iconst Xw_1.here hx rfl (hb hby at_30) ?_
      have ev_co : co = (0 : Int32) := by rw [hv_co, if_pos q_11]
      rw [ev_co] at ktg
      exact ktg
    · skip
      show Steps p.tables e below (T_1.setTop (mkF m 23 #[.val (.int p0), .val (.int p1), .val (.int p2), .val (.int p3), .val (.ref ms), .val (.int st), .unset, .unset, .unset, .unset, .unset, .unset, .unset, .unset, .unset, .unset, .unset, .unset, .unset, .unset, .unset, .unset] [(.int (p1 &&& (2 : Int32)))])) _
      refine XS.ifNo Xw_1.here hx rfl (hb hby at_23) rfl ((if0 _ _).trans (feq q_11).1) ?_
      show Steps p.tables e below (T_1.setTop (mkF m 26 #[.val (.int p0), .val (.int p1), .val (.int p2), .val (.int p3), .val (.ref ms), .val (.int st), .unset, .unset, .unset, .unset, .unset, .unset, .unset, .unset, .unset, .unset, .unset, .unset, .unset, .unset, .unset, .unset] [])) _
      refine XS.iconst Xw_1.here hx rfl (hb hby at_26) ?_
      show Steps p.tables e below (T_1.setTop (mkF m 27 #[.val (.int p0), .val (.int p1), .val (.int p2), .val (.int p3), .val (.ref ms), .val (.int st), .unset, .unset, .unset, .unset, .unset, .unset, .unset, .unset, .unset, .unset, .unset, .unset, .unset, .unset, .unset, .unset] [(.int (1 : Int32))])) _
      refine XS.goto Xw_1.here hx rfl (pc0 := 27) (pc' := 31) rfl (hb hby at_27) (by decide) (by decide) ?_
      have ev_co : co = (1 : Int32) := by rw [hv_co, if_neg q_11]
      rw [ev_co] at ktg
      exact ktg
    done)
  have pre_13 : Rch p.tables e below (s₁.setTop (entryFrame m #[(.int p0), (.int p1), (.int p2), (.int p3)] maxLocals)) (T_1.setTop (mkF m 39 #[.val (.int p0), .val (.int p1), .val (.int p2), .val (.int p3), .val (.ref ms), .val (.int st), .val (.int co), .unset, .unset, .unset, .unset, .unset, .unset, .unset, .unset, .unset, .unset, .unset, .unset, .unset, .unset, .unset] [(.int (((p1.toUInt32 >>> ((2 : Int32) &&& 31).toUInt32).toInt32) &&& (7 : Int32)))])) := fun tgt ktg => pre_12 tgt (by
    show Steps p.tables e below (T_1.setTop (mkF m 31 #[.val (.int p0), .val (.int p1), .val (.int p2), .val (.int p3), .val (.ref ms), .val (.int st), .unset, .unset, .unset, .unset, .unset, .unset, .unset, .unset, .unset, .unset, .unset, .unset, .unset, .unset, .unset, .unset] [(.int co)])) _
    refine XS.istore Xw_1.here hx rfl (hb hby at_31) rfl (l' := #[.val (.int p0), .val (.int p1), .val (.int p2), .val (.int p3), .val (.ref ms), .val (.int st), .val (.int co), .unset, .unset, .unset, .unset, .unset, .unset, .unset, .unset, .unset, .unset, .unset, .unset, .unset, .unset, .unset]) rfl ?_
    show Steps p.tables e below (T_1.setTop (mkF m 33 #[.val (.int p0), .val (.int p1), .val (.int p2), .val (.int p3), .val (.ref ms), .val (.int st), .val (.int co), .unset, .unset, .unset, .unset, .unset, .unset, .unset, .unset, .unset, .unset, .unset, .unset, .unset, .unset, .unset] [])) _
    refine XS.iloadN Xw_1.here hx rfl (hb hby at_33) rfl ?_
    show Steps p.tables e below (T_1.setTop (mkF m 34 #[.val (.int p0), .val (.int p1), .val (.int p2), .val (.int p3), .val (.ref ms), .val (.int st), .val (.int co), .unset, .unset, .unset, .unset, .unset, .unset, .unset, .unset, .unset, .unset, .unset, .unset, .unset, .unset, .unset] [(.int p1)])) _
    refine XS.iconst Xw_1.here hx rfl (hb hby at_34) ?_
    show Steps p.tables e below (T_1.setTop (mkF m 35 #[.val (.int p0), .val (.int p1), .val (.int p2), .val (.int p3), .val (.ref ms), .val (.int st), .val (.int co), .unset, .unset, .unset, .unset, .unset, .unset, .unset, .unset, .unset, .unset, .unset, .unset, .unset, .unset, .unset] [(.int (2 : Int32)), (.int p1)])) _
    refine XT.iushr Xw_1.here hx rfl (hb hby at_35) rfl ?_
    show Steps p.tables e below (T_1.setTop (mkF m 36 #[.val (.int p0), .val (.int p1), .val (.int p2), .val (.int p3), .val (.ref ms), .val (.int st), .val (.int co), .unset, .unset, .unset, .unset, .unset, .unset, .unset, .unset, .unset, .unset, .unset, .unset, .unset, .unset, .unset] [(.int ((p1.toUInt32 >>> ((2 : Int32) &&& 31).toUInt32).toInt32))])) _
    refine XS.bipush Xw_1.here hx rfl (hb hby at_36) ?_
    show Steps p.tables e below (T_1.setTop (mkF m 38 #[.val (.int p0), .val (.int p1), .val (.int p2), .val (.int p3), .val (.ref ms), .val (.int st), .val (.int co), .unset, .unset, .unset, .unset, .unset, .unset, .unset, .unset, .unset, .unset, .unset, .unset, .unset, .unset, .unset] [(.int (7 : Int32)), (.int ((p1.toUInt32 >>> ((2 : Int32) &&& 31).toUInt32).toInt32))])) _
    refine XS.iand Xw_1.here hx rfl (hb hby at_38) rfl ?_
    exact ktg)
  obtain ⟨kd, hv_kd⟩ : ∃ nm_ : Int32, nm_ = (((p1.toUInt32 >>> ((2 : Int32) &&& 31).toUInt32).toInt32) &&& (7 : Int32)) := ⟨_, rfl⟩
  have pre_14 : Rch p.tables e below (s₁.setTop (entryFrame m #[(.int p0), (.int p1), (.int p2), (.int p3)] maxLocals)) (T_1.setTop (mkF m 39 #[.val (.int p0), .val (.int p1), .val (.int p2), .val (.int p3), .val (.ref ms), .val (.int st), .val (.int co), .unset, .unset, .unset, .unset, .unset, .unset, .unset, .unset, .unset, .unset, .unset, .unset, .unset, .unset, .unset] [(.int kd)])) := fun tgt ktg => pre_13 tgt (by rw [hv_kd] at ktg; exact ktg)
  have pre_15 : Rch p.tables e below (s₁.setTop (entryFrame m #[(.int p0), (.int p1), (.int p2), (.int p3)] maxLocals)) (T_1.setTop (mkF m 48 #[.val (.int p0), .val (.int p1), .val (.int p2), .val (.int p3), .val (.ref ms), .val (.int st), .val (.int co), .val (.int kd), .unset, .unset, .unset, .unset, .unset, .unset, .unset, .unset, .unset, .unset, .unset, .unset, .unset, .unset] [(.int ((p2 &&& (65535 : Int32)) % (36 : Int32)))])) := fun tgt ktg => pre_14 tgt (by
    show Steps p.tables e below (T_1.setTop (mkF m 39 #[.val (.int p0), .val (.int p1), .val (.int p2), .val (.int p3), .val (.ref ms), .val (.int st), .val (.int co), .unset, .unset, .unset, .unset, .unset, .unset, .unset, .unset, .unset, .unset, .unset, .unset, .unset, .unset, .unset] [(.int kd)])) _
    refine XS.istore Xw_1.here hx rfl (hb hby at_39) rfl (l' := #[.val (.int p0), .val (.int p1), .val (.int p2), .val (.int p3), .val (.ref ms), .val (.int st), .val (.int co), .val (.int kd), .unset, .unset, .unset, .unset, .unset, .unset, .unset, .unset, .unset, .unset, .unset, .unset, .unset, .unset]) rfl ?_
    show Steps p.tables e below (T_1.setTop (mkF m 41 #[.val (.int p0), .val (.int p1), .val (.int p2), .val (.int p3), .val (.ref ms), .val (.int st), .val (.int co), .val (.int kd), .unset, .unset, .unset, .unset, .unset, .unset, .unset, .unset, .unset, .unset, .unset, .unset, .unset, .unset] [])) _
    refine XS.iloadN Xw_1.here hx rfl (hb hby at_41) rfl ?_
    show Steps p.tables e below (T_1.setTop (mkF m 42 #[.val (.int p0), .val (.int p1), .val (.int p2), .val (.int p3), .val (.ref ms), .val (.int st), .val (.int co), .val (.int kd), .unset, .unset, .unset, .unset, .unset, .unset, .unset, .unset, .unset, .unset, .unset, .unset, .unset, .unset] [(.int p2)])) _
    refine Xw_1.ldcInt hx hown (mvT hZ (hw _ (List.mem_of_getElem? (i := 12) rfl))) (g := (mkF m 42 #[.val (.int p0), .val (.int p1), .val (.int p2), .val (.int p3), .val (.ref ms), .val (.int st), .val (.int co), .val (.int kd), .unset, .unset, .unset, .unset, .unset, .unset, .unset, .unset, .unset, .unset, .unset, .unset, .unset, .unset] [(.int p2)])) rfl (hb hby at_42) _ ?_
    show Steps p.tables e below (T_1.setTop (mkF m 44 #[.val (.int p0), .val (.int p1), .val (.int p2), .val (.int p3), .val (.ref ms), .val (.int st), .val (.int co), .val (.int kd), .unset, .unset, .unset, .unset, .unset, .unset, .unset, .unset, .unset, .unset, .unset, .unset, .unset, .unset] [(.int (65535 : Int32)), (.int p2)])) _
    refine XS.iand Xw_1.here hx rfl (hb hby at_44) rfl ?_
    show Steps p.tables e below (T_1.setTop (mkF m 45 #[.val (.int p0), .val (.int p1), .val (.int p2), .val (.int p3), .val (.ref ms), .val (.int st), .val (.int co), .val (.int kd), .unset, .unset, .unset, .unset, .unset, .unset, .unset, .unset, .unset, .unset, .unset, .unset, .unset, .unset] [(.int (p2 &&& (65535 : Int32)))])) _
    refine XS.bipush Xw_1.here hx rfl (hb hby at_45) ?_
    show Steps p.tables e below (T_1.setTop (mkF m 47 #[.val (.int p0), .val (.int p1), .val (.int p2), .val (.int p3), .val (.ref ms), .val (.int st), .val (.int co), .val (.int kd), .unset, .unset, .unset, .unset, .unset, .unset, .unset, .unset, .unset, .unset, .unset, .unset, .unset, .unset] [(.int (36 : Int32)), (.int (p2 &&& (65535 : Int32)))])) _
    refine iremM (g := (mkF m 47 #[.val (.int p0), .val (.int p1), .val (.int p2), .val (.int p3), .val (.ref ms), .val (.int st), .val (.int co), .val (.int kd), .unset, .unset, .unset, .unset, .unset, .unset, .unset, .unset, .unset, .unset, .unset, .unset, .unset, .unset] [(.int (36 : Int32)), (.int (p2 &&& (65535 : Int32)))])) Xw_1 hx rfl (hb hby at_47) rfl (by decide) ?_
    exact ktg)
  obtain ⟨pv, hv_pv⟩ : ∃ nm_ : Int32, nm_ = ((p2 &&& (65535 : Int32)) % (36 : Int32)) := ⟨_, rfl⟩
  have pre_16 : Rch p.tables e below (s₁.setTop (entryFrame m #[(.int p0), (.int p1), (.int p2), (.int p3)] maxLocals)) (T_1.setTop (mkF m 48 #[.val (.int p0), .val (.int p1), .val (.int p2), .val (.int p3), .val (.ref ms), .val (.int st), .val (.int co), .val (.int kd), .unset, .unset, .unset, .unset, .unset, .unset, .unset, .unset, .unset, .unset, .unset, .unset, .unset, .unset] [(.int pv)])) := fun tgt ktg => pre_15 tgt (by rw [hv_pv] at ktg; exact ktg)
  obtain ⟨pn, hpn, epn⟩ := own_m36 hv_pv
  subst epn
  have pre_17 : Rch p.tables e below (s₁.setTop (entryFrame m #[(.int p0), (.int p1), (.int p2), (.int p3)] maxLocals)) (T_1.setTop (mkF m 60 #[.val (.int p0), .val (.int p1), .val (.int p2), .val (.int p3), .val (.ref ms), .val (.int st), .val (.int co), .val (.int kd), .val (.int (Int32.ofNat pn)), .unset, .unset, .unset, .unset, .unset, .unset, .unset, .unset, .unset, .unset, .unset, .unset, .unset] [(.int ((((p2.toUInt32 >>> ((16 : Int32) &&& 31).toUInt32).toInt32) &&& (65535 : Int32)) % (36 : Int32)))])) := fun tgt ktg => pre_16 tgt (by
    show Steps p.tables e below (T_1.setTop (mkF m 48 #[.val (.int p0), .val (.int p1), .val (.int p2), .val (.int p3), .val (.ref ms), .val (.int st), .val (.int co), .val (.int kd), .unset, .unset, .unset, .unset, .unset, .unset, .unset, .unset, .unset, .unset, .unset, .unset, .unset, .unset] [(.int (Int32.ofNat pn))])) _
    refine XS.istore Xw_1.here hx rfl (hb hby at_48) rfl (l' := #[.val (.int p0), .val (.int p1), .val (.int p2), .val (.int p3), .val (.ref ms), .val (.int st), .val (.int co), .val (.int kd), .val (.int (Int32.ofNat pn)), .unset, .unset, .unset, .unset, .unset, .unset, .unset, .unset, .unset, .unset, .unset, .unset, .unset]) rfl ?_
    show Steps p.tables e below (T_1.setTop (mkF m 50 #[.val (.int p0), .val (.int p1), .val (.int p2), .val (.int p3), .val (.ref ms), .val (.int st), .val (.int co), .val (.int kd), .val (.int (Int32.ofNat pn)), .unset, .unset, .unset, .unset, .unset, .unset, .unset, .unset, .unset, .unset, .unset, .unset, .unset] [])) _
    refine XS.iloadN Xw_1.here hx rfl (hb hby at_50) rfl ?_
    show Steps p.tables e below (T_1.setTop (mkF m 51 #[.val (.int p0), .val (.int p1), .val (.int p2), .val (.int p3), .val (.ref ms), .val (.int st), .val (.int co), .val (.int kd), .val (.int (Int32.ofNat pn)), .unset, .unset, .unset, .unset, .unset, .unset, .unset, .unset, .unset, .unset, .unset, .unset, .unset] [(.int p2)])) _
    refine XS.bipush Xw_1.here hx rfl (hb hby at_51) ?_
    show Steps p.tables e below (T_1.setTop (mkF m 53 #[.val (.int p0), .val (.int p1), .val (.int p2), .val (.int p3), .val (.ref ms), .val (.int st), .val (.int co), .val (.int kd), .val (.int (Int32.ofNat pn)), .unset, .unset, .unset, .unset, .unset, .unset, .unset, .unset, .unset, .unset, .unset, .unset, .unset] [(.int (16 : Int32)), (.int p2)])) _
    refine XT.iushr Xw_1.here hx rfl (hb hby at_53) rfl ?_
    show Steps p.tables e below (T_1.setTop (mkF m 54 #[.val (.int p0), .val (.int p1), .val (.int p2), .val (.int p3), .val (.ref ms), .val (.int st), .val (.int co), .val (.int kd), .val (.int (Int32.ofNat pn)), .unset, .unset, .unset, .unset, .unset, .unset, .unset, .unset, .unset, .unset, .unset, .unset, .unset] [(.int ((p2.toUInt32 >>> ((16 : Int32) &&& 31).toUInt32).toInt32))])) _
    refine Xw_1.ldcInt hx hown (mvT hZ (hw _ (List.mem_of_getElem? (i := 12) rfl))) (g := (mkF m 54 #[.val (.int p0), .val (.int p1), .val (.int p2), .val (.int p3), .val (.ref ms), .val (.int st), .val (.int co), .val (.int kd), .val (.int (Int32.ofNat pn)), .unset, .unset, .unset, .unset, .unset, .unset, .unset, .unset, .unset, .unset, .unset, .unset, .unset] [(.int ((p2.toUInt32 >>> ((16 : Int32) &&& 31).toUInt32).toInt32))])) rfl (hb hby at_54) _ ?_
    show Steps p.tables e below (T_1.setTop (mkF m 56 #[.val (.int p0), .val (.int p1), .val (.int p2), .val (.int p3), .val (.ref ms), .val (.int st), .val (.int co), .val (.int kd), .val (.int (Int32.ofNat pn)), .unset, .unset, .unset, .unset, .unset, .unset, .unset, .unset, .unset, .unset, .unset, .unset, .unset] [(.int (65535 : Int32)), (.int ((p2.toUInt32 >>> ((16 : Int32) &&& 31).toUInt32).toInt32))])) _
    refine XS.iand Xw_1.here hx rfl (hb hby at_56) rfl ?_
    show Steps p.tables e below (T_1.setTop (mkF m 57 #[.val (.int p0), .val (.int p1), .val (.int p2), .val (.int p3), .val (.ref ms), .val (.int st), .val (.int co), .val (.int kd), .val (.int (Int32.ofNat pn)), .unset, .unset, .unset, .unset, .unset, .unset, .unset, .unset, .unset, .unset, .unset, .unset, .unset] [(.int (((p2.toUInt32 >>> ((16 : Int32) &&& 31).toUInt32).toInt32) &&& (65535 : Int32)))])) _
    refine XS.bipush Xw_1.here hx rfl (hb hby at_57) ?_
    show Steps p.tables e below (T_1.setTop (mkF m 59 #[.val (.int p0), .val (.int p1), .val (.int p2), .val (.int p3), .val (.ref ms), .val (.int st), .val (.int co), .val (.int kd), .val (.int (Int32.ofNat pn)), .unset, .unset, .unset, .unset, .unset, .unset, .unset, .unset, .unset, .unset, .unset, .unset, .unset] [(.int (36 : Int32)), (.int (((p2.toUInt32 >>> ((16 : Int32) &&& 31).toUInt32).toInt32) &&& (65535 : Int32)))])) _
    refine iremM (g := (mkF m 59 #[.val (.int p0), .val (.int p1), .val (.int p2), .val (.int p3), .val (.ref ms), .val (.int st), .val (.int co), .val (.int kd), .val (.int (Int32.ofNat pn)), .unset, .unset, .unset, .unset, .unset, .unset, .unset, .unset, .unset, .unset, .unset, .unset, .unset] [(.int (36 : Int32)), (.int (((p2.toUInt32 >>> ((16 : Int32) &&& 31).toUInt32).toInt32) &&& (65535 : Int32)))])) Xw_1 hx rfl (hb hby at_59) rfl (by decide) ?_
    exact ktg)
  obtain ⟨qv, hv_qv⟩ : ∃ nm_ : Int32, nm_ = ((((p2.toUInt32 >>> ((16 : Int32) &&& 31).toUInt32).toInt32) &&& (65535 : Int32)) % (36 : Int32)) := ⟨_, rfl⟩
  have pre_18 : Rch p.tables e below (s₁.setTop (entryFrame m #[(.int p0), (.int p1), (.int p2), (.int p3)] maxLocals)) (T_1.setTop (mkF m 60 #[.val (.int p0), .val (.int p1), .val (.int p2), .val (.int p3), .val (.ref ms), .val (.int st), .val (.int co), .val (.int kd), .val (.int (Int32.ofNat pn)), .unset, .unset, .unset, .unset, .unset, .unset, .unset, .unset, .unset, .unset, .unset, .unset, .unset] [(.int qv)])) := fun tgt ktg => pre_17 tgt (by rw [hv_qv] at ktg; exact ktg)
  obtain ⟨qn, hqn, eqn⟩ := own_m36 hv_qv
  subst eqn
  have pre_19 : Rch p.tables e below (s₁.setTop (entryFrame m #[(.int p0), (.int p1), (.int p2), (.int p3)] maxLocals)) (T_1.setTop (mkF m 66 #[.val (.int p0), .val (.int p1), .val (.int p2), .val (.int p3), .val (.ref ms), .val (.int st), .val (.int co), .val (.int kd), .val (.int (Int32.ofNat pn)), .val (.int (Int32.ofNat qn)), .unset, .unset, .unset, .unset, .unset, .unset, .unset, .unset, .unset, .unset, .unset, .unset] [(.int (Int32.ofNat pn)), (.ref ms)])) := fun tgt ktg => pre_18 tgt (by
    show Steps p.tables e below (T_1.setTop (mkF m 60 #[.val (.int p0), .val (.int p1), .val (.int p2), .val (.int p3), .val (.ref ms), .val (.int st), .val (.int co), .val (.int kd), .val (.int (Int32.ofNat pn)), .unset, .unset, .unset, .unset, .unset, .unset, .unset, .unset, .unset, .unset, .unset, .unset, .unset] [(.int (Int32.ofNat qn))])) _
    refine XS.istore Xw_1.here hx rfl (hb hby at_60) rfl (l' := #[.val (.int p0), .val (.int p1), .val (.int p2), .val (.int p3), .val (.ref ms), .val (.int st), .val (.int co), .val (.int kd), .val (.int (Int32.ofNat pn)), .val (.int (Int32.ofNat qn)), .unset, .unset, .unset, .unset, .unset, .unset, .unset, .unset, .unset, .unset, .unset, .unset]) rfl ?_
    show Steps p.tables e below (T_1.setTop (mkF m 62 #[.val (.int p0), .val (.int p1), .val (.int p2), .val (.int p3), .val (.ref ms), .val (.int st), .val (.int co), .val (.int kd), .val (.int (Int32.ofNat pn)), .val (.int (Int32.ofNat qn)), .unset, .unset, .unset, .unset, .unset, .unset, .unset, .unset, .unset, .unset, .unset, .unset] [])) _
    refine XS.aload Xw_1.here hx rfl (hb hby at_62) rfl rfl ?_
    show Steps p.tables e below (T_1.setTop (mkF m 64 #[.val (.int p0), .val (.int p1), .val (.int p2), .val (.int p3), .val (.ref ms), .val (.int st), .val (.int co), .val (.int kd), .val (.int (Int32.ofNat pn)), .val (.int (Int32.ofNat qn)), .unset, .unset, .unset, .unset, .unset, .unset, .unset, .unset, .unset, .unset, .unset, .unset] [(.ref ms)])) _
    refine XS.iload Xw_1.here hx rfl (hb hby at_64) rfl ?_
    exact ktg)
  obtain ⟨cq_20, kq_20, q_20a, q_20b, q_20c⟩ := isOf hZ rfl m1
  obtain ⟨_, _, ⟨T_20, L_20, k_20, n_20⟩, -, X_20, ⟨Lc_20, hQ_20, l_20, y_20, z_20⟩, st_20⟩ := Xw_1.virtualBack hx (y := (⟨"java/lang/String", "charAt", "(I)C"⟩ : MethodName)) (z := (⟨"java/lang/String", "charAt", "(I)C"⟩ : MethodName)) hown (mvT hZ (hw _ (List.mem_of_getElem? (i := 13) rfl))) (mvT hZ (hw _ (List.mem_of_getElem? (i := 14) rfl))) (notFace_of_selects (args := #[]) (mvT hZ (hw _ (List.mem_of_getElem? (i := 16) rfl)))) (mvT hZ (hw _ (List.mem_of_getElem? (i := 16) rfl))) (mvT hZ (hw _ (List.mem_of_getElem? (i := 15) rfl))) (by decide) (backOf (W := 0) (rmcha l Z a0 hw [] ms (Int32.ofNat pn) mb km (36 : Int32) (mkl.getD pn 0) _ u T_1.heap n0 z_6 m1 m2 m3 cs hcs f_4 hu f_5 m4 (own_inb (z := 36) (by decide) hpn) (own_at (l := mkl) (i := pn) (by omega))) hZ (hw _ (List.mem_of_getElem? (i := 17) rfl)) (hw _ (List.mem_of_getElem? (i := 5) rfl)) (by decide) (by decide)) q_20a q_20c (g := (mkF m 66 #[.val (.int p0), .val (.int p1), .val (.int p2), .val (.int p3), .val (.ref ms), .val (.int st), .val (.int co), .val (.int kd), .val (.int (Int32.ofNat pn)), .val (.int (Int32.ofNat qn)), .unset, .unset, .unset, .unset, .unset, .unset, .unset, .unset, .unset, .unset, .unset, .unset] [(.int (Int32.ofNat pn)), (.ref ms)])) rfl (by rw [hml]; rfl) (Steps.refl _) (argsL := [(.int (Int32.ofNat pn))]) (rest := []) (lenOf pd_18 rfl) rfl (by show 2 * 0 + _ ≤ _; exact Nat.le_of_eq rfl) (hb hby at_66) (fun _ _ => ⟨rfl, rfl, (by decide : 2 + 0 ≤ _), (by decide : 148 + 0 ≤ _)⟩)
  dsimp only [Pt.U, Pt.locs, Pt.cells, Pt.slots] at X_20 l_20 y_20 z_20 st_20 hQ_20
  subst l_20 y_20 z_20
  obtain ⟨rfl, Nq_20, eh_20⟩ := hQ_20
  have N_21 := Fr.app N_2 Nq_20
  have pre_20 : Rch p.tables e below (s₁.setTop (entryFrame m #[(.int p0), (.int p1), (.int p2), (.int p3)] maxLocals)) (T_20.setTop (mkF m 69 #[.val (.int p0), .val (.int p1), .val (.int p2), .val (.int p3), .val (.ref ms), .val (.int st), .val (.int co), .val (.int kd), .val (.int (Int32.ofNat pn)), .val (.int (Int32.ofNat qn)), .unset, .unset, .unset, .unset, .unset, .unset, .unset, .unset, .unset, .unset, .unset, .unset] [(.int ((mkl.getD pn 0) &&& 255))])) := fun tgt ktg => pre_19 tgt (st_20.trans ktg)
  obtain ⟨ap, hv_ap⟩ : ∃ nm_ : Int32, nm_ = ((mkl.getD pn 0) &&& 255) := ⟨_, rfl⟩
  have pre_22 : Rch p.tables e below (s₁.setTop (entryFrame m #[(.int p0), (.int p1), (.int p2), (.int p3)] maxLocals)) (T_20.setTop (mkF m 69 #[.val (.int p0), .val (.int p1), .val (.int p2), .val (.int p3), .val (.ref ms), .val (.int st), .val (.int co), .val (.int kd), .val (.int (Int32.ofNat pn)), .val (.int (Int32.ofNat qn)), .unset, .unset, .unset, .unset, .unset, .unset, .unset, .unset, .unset, .unset, .unset, .unset] [(.int ap)])) := fun tgt ktg => pre_20 tgt (by rw [hv_ap] at ktg; exact ktg)
  have eap : ap = mkl.getD pn 0 := by rw [hv_ap]; exact (own_mkr ⟨pn, hpn⟩).2.2.1
  have hap : ¬ ap < 0 ∧ ¬ (255 : Int32) < ap := by rw [eap]; exact ⟨(own_mkr ⟨pn, hpn⟩).1, (own_mkr ⟨pn, hpn⟩).2.1⟩
  have pre_23 : Rch p.tables e below (s₁.setTop (entryFrame m #[(.int p0), (.int p1), (.int p2), (.int p3)] maxLocals)) (T_20.setTop (mkF m 73 #[.val (.int p0), .val (.int p1), .val (.int p2), .val (.int p3), .val (.ref ms), .val (.int st), .val (.int co), .val (.int kd), .val (.int (Int32.ofNat pn)), .val (.int (Int32.ofNat qn)), .val (.int ap), .unset, .unset, .unset, .unset, .unset, .unset, .unset, .unset, .unset, .unset, .unset] [(.int co)])) := fun tgt ktg => pre_22 tgt (by
    show Steps p.tables e below (T_20.setTop (mkF m 69 #[.val (.int p0), .val (.int p1), .val (.int p2), .val (.int p3), .val (.ref ms), .val (.int st), .val (.int co), .val (.int kd), .val (.int (Int32.ofNat pn)), .val (.int (Int32.ofNat qn)), .unset, .unset, .unset, .unset, .unset, .unset, .unset, .unset, .unset, .unset, .unset, .unset] [(.int ap)])) _
    refine XS.istore X_20.here hx rfl (hb hby at_69) rfl (l' := #[.val (.int p0), .val (.int p1), .val (.int p2), .val (.int p3), .val (.ref ms), .val (.int st), .val (.int co), .val (.int kd), .val (.int (Int32.ofNat pn)), .val (.int (Int32.ofNat qn)), .val (.int ap), .unset, .unset, .unset, .unset, .unset, .unset, .unset, .unset, .unset, .unset, .unset]) rfl ?_
    show Steps p.tables e below (T_20.setTop (mkF m 71 #[.val (.int p0), .val (.int p1), .val (.int p2), .val (.int p3), .val (.ref ms), .val (.int st), .val (.int co), .val (.int kd), .val (.int (Int32.ofNat pn)), .val (.int (Int32.ofNat qn)), .val (.int ap), .unset, .unset, .unset, .unset, .unset, .unset, .unset, .unset, .unset, .unset, .unset] [])) _
    refine XS.iload X_20.here hx rfl (hb hby at_71) rfl ?_
    exact ktg)
  obtain ⟨xx, hv_xx⟩ : ∃ nm_ : Int32, nm_ = (if co = (0 : Int32) then ap else ((p3 &&& (255 : Int32)).toUInt32.toUInt16.toUInt32.toInt32)) := ⟨_, rfl⟩
  have pre_25 : Rch p.tables e below (s₁.setTop (entryFrame m #[(.int p0), (.int p1), (.int p2), (.int p3)] maxLocals)) (T_20.setTop (mkF m 87 #[.val (.int p0), .val (.int p1), .val (.int p2), .val (.int p3), .val (.ref ms), .val (.int st), .val (.int co), .val (.int kd), .val (.int (Int32.ofNat pn)), .val (.int (Int32.ofNat qn)), .val (.int ap), .unset, .unset, .unset, .unset, .unset, .unset, .unset, .unset, .unset, .unset, .unset] [(.int xx)])) := fun tgt ktg => pre_23 tgt (by
    by_cases q_24 : co = (0 : Int32)
    · skip
      show Steps p.tables e below (T_20.setTop (mkF m 73 #[.val (.int p0), .val (.int p1), .val (.int p2), .val (.int p3), .val (.ref ms), .val (.int st), .val (.int co), .val (.int kd), .val (.int (Int32.ofNat pn)), .val (.int (Int32.ofNat qn)), .val (.int ap), .unset, .unset, .unset, .unset, .unset, .unset, .unset, .unset, .unset, .unset, .unset] [(.int co)])) _
      refine XS.ifYes X_20.here hx rfl (pc0 := 73) (pc' := 85) rfl (hb hby at_73) rfl ((if0 _ _).trans (teq q_24).1) (by decide) (by decide) ?_
      show Steps p.tables e below (T_20.setTop (mkF m 85 #[.val (.int p0), .val (.int p1), .val (.int p2), .val (.int p3), .val (.ref ms), .val (.int st), .val (.int co), .val (.int kd), .val (.int (Int32.ofNat pn)), .val (.int (Int32.ofNat qn)), .val (.int ap), .unset, .unset, .unset, .unset, .unset, .unset, .unset, .unset, .unset, .unset, .unset] [])) _
      refine XS.iload X_20.here hx rfl (hb hby at_85) rfl ?_
      have ev_xx : xx = ap := by rw [hv_xx, if_pos q_24]
      rw [ev_xx] at ktg
      exact ktg
    · skip
      show Steps p.tables e below (T_20.setTop (mkF m 73 #[.val (.int p0), .val (.int p1), .val (.int p2), .val (.int p3), .val (.ref ms), .val (.int st), .val (.int co), .val (.int kd), .val (.int (Int32.ofNat pn)), .val (.int (Int32.ofNat qn)), .val (.int ap), .unset, .unset, .unset, .unset, .unset, .unset, .unset, .unset, .unset, .unset, .unset] [(.int co)])) _
      refine XS.ifNo X_20.here hx rfl (hb hby at_73) rfl ((if0 _ _).trans (feq q_24).1) ?_
      show Steps p.tables e below (T_20.setTop (mkF m 76 #[.val (.int p0), .val (.int p1), .val (.int p2), .val (.int p3), .val (.ref ms), .val (.int st), .val (.int co), .val (.int kd), .val (.int (Int32.ofNat pn)), .val (.int (Int32.ofNat qn)), .val (.int ap), .unset, .unset, .unset, .unset, .unset, .unset, .unset, .unset, .unset, .unset, .unset] [])) _
      refine XS.iloadN X_20.here hx rfl (hb hby at_76) rfl ?_
      show Steps p.tables e below (T_20.setTop (mkF m 77 #[.val (.int p0), .val (.int p1), .val (.int p2), .val (.int p3), .val (.ref ms), .val (.int st), .val (.int co), .val (.int kd), .val (.int (Int32.ofNat pn)), .val (.int (Int32.ofNat qn)), .val (.int ap), .unset, .unset, .unset, .unset, .unset, .unset, .unset, .unset, .unset, .unset, .unset] [(.int p3)])) _
      refine XS.sipush X_20.here hx rfl (hb hby at_77) ?_
      show Steps p.tables e below (T_20.setTop (mkF m 80 #[.val (.int p0), .val (.int p1), .val (.int p2), .val (.int p3), .val (.ref ms), .val (.int st), .val (.int co), .val (.int kd), .val (.int (Int32.ofNat pn)), .val (.int (Int32.ofNat qn)), .val (.int ap), .unset, .unset, .unset, .unset, .unset, .unset, .unset, .unset, .unset, .unset, .unset] [(.int (255 : Int32)), (.int p3)])) _
      refine XS.iand X_20.here hx rfl (hb hby at_80) rfl ?_
      show Steps p.tables e below (T_20.setTop (mkF m 81 #[.val (.int p0), .val (.int p1), .val (.int p2), .val (.int p3), .val (.ref ms), .val (.int st), .val (.int co), .val (.int kd), .val (.int (Int32.ofNat pn)), .val (.int (Int32.ofNat qn)), .val (.int ap), .unset, .unset, .unset, .unset, .unset, .unset, .unset, .unset, .unset, .unset, .unset] [(.int (p3 &&& (255 : Int32)))])) _
      refine XT.i2c X_20.here hx rfl (hb hby at_81) rfl ?_
      show Steps p.tables e below (T_20.setTop (mkF m 82 #[.val (.int p0), .val (.int p1), .val (.int p2), .val (.int p3), .val (.ref ms), .val (.int st), .val (.int co), .val (.int kd), .val (.int (Int32.ofNat pn)), .val (.int (Int32.ofNat qn)), .val (.int ap), .unset, .unset, .unset, .unset, .unset, .unset, .unset, .unset, .unset, .unset, .unset] [(.int ((p3 &&& (255 : Int32)).toUInt32.toUInt16.toUInt32.toInt32))])) _
      refine XS.goto X_20.here hx rfl (pc0 := 82) (pc' := 87) rfl (hb hby at_82) (by decide) (by decide) ?_
      have ev_xx : xx = ((p3 &&& (255 : Int32)).toUInt32.toUInt16.toUInt32.toInt32) := by rw [hv_xx, if_neg q_24]
      rw [ev_xx] at ktg
      exact ktg
    done)
  have hxx : ¬ xx < 0 ∧ ¬ (255 : Int32) < xx := by rw [hv_xx]; split <;> first | exact hap | exact own_byte rfl
  have pre_26 : Rch p.tables e below (s₁.setTop (entryFrame m #[(.int p0), (.int p1), (.int p2), (.int p3)] maxLocals)) (T_20.setTop (mkF m 98 #[.val (.int p0), .val (.int p1), .val (.int p2), .val (.int p3), .val (.ref ms), .val (.int st), .val (.int co), .val (.int kd), .val (.int (Int32.ofNat pn)), .val (.int (Int32.ofNat qn)), .val (.int ap), .val (.int xx), .unset, .unset, .unset, .unset, .unset, .unset, .unset, .unset, .unset, .unset] [(.int ((((p3.toUInt32 >>> ((8 : Int32) &&& 31).toUInt32).toInt32) &&& (255 : Int32)).toUInt32.toUInt16.toUInt32.toInt32))])) := fun tgt ktg => pre_25 tgt (by
    show Steps p.tables e below (T_20.setTop (mkF m 87 #[.val (.int p0), .val (.int p1), .val (.int p2), .val (.int p3), .val (.ref ms), .val (.int st), .val (.int co), .val (.int kd), .val (.int (Int32.ofNat pn)), .val (.int (Int32.ofNat qn)), .val (.int ap), .unset, .unset, .unset, .unset, .unset, .unset, .unset, .unset, .unset, .unset, .unset] [(.int xx)])) _
    refine XS.istore X_20.here hx rfl (hb hby at_87) rfl (l' := #[.val (.int p0), .val (.int p1), .val (.int p2), .val (.int p3), .val (.ref ms), .val (.int st), .val (.int co), .val (.int kd), .val (.int (Int32.ofNat pn)), .val (.int (Int32.ofNat qn)), .val (.int ap), .val (.int xx), .unset, .unset, .unset, .unset, .unset, .unset, .unset, .unset, .unset, .unset]) rfl ?_
    show Steps p.tables e below (T_20.setTop (mkF m 89 #[.val (.int p0), .val (.int p1), .val (.int p2), .val (.int p3), .val (.ref ms), .val (.int st), .val (.int co), .val (.int kd), .val (.int (Int32.ofNat pn)), .val (.int (Int32.ofNat qn)), .val (.int ap), .val (.int xx), .unset, .unset, .unset, .unset, .unset, .unset, .unset, .unset, .unset, .unset] [])) _
    refine XS.iloadN X_20.here hx rfl (hb hby at_89) rfl ?_
    show Steps p.tables e below (T_20.setTop (mkF m 90 #[.val (.int p0), .val (.int p1), .val (.int p2), .val (.int p3), .val (.ref ms), .val (.int st), .val (.int co), .val (.int kd), .val (.int (Int32.ofNat pn)), .val (.int (Int32.ofNat qn)), .val (.int ap), .val (.int xx), .unset, .unset, .unset, .unset, .unset, .unset, .unset, .unset, .unset, .unset] [(.int p3)])) _
    refine XS.bipush X_20.here hx rfl (hb hby at_90) ?_
    show Steps p.tables e below (T_20.setTop (mkF m 92 #[.val (.int p0), .val (.int p1), .val (.int p2), .val (.int p3), .val (.ref ms), .val (.int st), .val (.int co), .val (.int kd), .val (.int (Int32.ofNat pn)), .val (.int (Int32.ofNat qn)), .val (.int ap), .val (.int xx), .unset, .unset, .unset, .unset, .unset, .unset, .unset, .unset, .unset, .unset] [(.int (8 : Int32)), (.int p3)])) _
    refine XT.iushr X_20.here hx rfl (hb hby at_92) rfl ?_
    show Steps p.tables e below (T_20.setTop (mkF m 93 #[.val (.int p0), .val (.int p1), .val (.int p2), .val (.int p3), .val (.ref ms), .val (.int st), .val (.int co), .val (.int kd), .val (.int (Int32.ofNat pn)), .val (.int (Int32.ofNat qn)), .val (.int ap), .val (.int xx), .unset, .unset, .unset, .unset, .unset, .unset, .unset, .unset, .unset, .unset] [(.int ((p3.toUInt32 >>> ((8 : Int32) &&& 31).toUInt32).toInt32))])) _
    refine XS.sipush X_20.here hx rfl (hb hby at_93) ?_
    show Steps p.tables e below (T_20.setTop (mkF m 96 #[.val (.int p0), .val (.int p1), .val (.int p2), .val (.int p3), .val (.ref ms), .val (.int st), .val (.int co), .val (.int kd), .val (.int (Int32.ofNat pn)), .val (.int (Int32.ofNat qn)), .val (.int ap), .val (.int xx), .unset, .unset, .unset, .unset, .unset, .unset, .unset, .unset, .unset, .unset] [(.int (255 : Int32)), (.int ((p3.toUInt32 >>> ((8 : Int32) &&& 31).toUInt32).toInt32))])) _
    refine XS.iand X_20.here hx rfl (hb hby at_96) rfl ?_
    show Steps p.tables e below (T_20.setTop (mkF m 97 #[.val (.int p0), .val (.int p1), .val (.int p2), .val (.int p3), .val (.ref ms), .val (.int st), .val (.int co), .val (.int kd), .val (.int (Int32.ofNat pn)), .val (.int (Int32.ofNat qn)), .val (.int ap), .val (.int xx), .unset, .unset, .unset, .unset, .unset, .unset, .unset, .unset, .unset, .unset] [(.int (((p3.toUInt32 >>> ((8 : Int32) &&& 31).toUInt32).toInt32) &&& (255 : Int32)))])) _
    refine XT.i2c X_20.here hx rfl (hb hby at_97) rfl ?_
    exact ktg)
  obtain ⟨c0, hv_c0⟩ : ∃ nm_ : Int32, nm_ = ((((p3.toUInt32 >>> ((8 : Int32) &&& 31).toUInt32).toInt32) &&& (255 : Int32)).toUInt32.toUInt16.toUInt32.toInt32) := ⟨_, rfl⟩
  have pre_27 : Rch p.tables e below (s₁.setTop (entryFrame m #[(.int p0), (.int p1), (.int p2), (.int p3)] maxLocals)) (T_20.setTop (mkF m 98 #[.val (.int p0), .val (.int p1), .val (.int p2), .val (.int p3), .val (.ref ms), .val (.int st), .val (.int co), .val (.int kd), .val (.int (Int32.ofNat pn)), .val (.int (Int32.ofNat qn)), .val (.int ap), .val (.int xx), .unset, .unset, .unset, .unset, .unset, .unset, .unset, .unset, .unset, .unset] [(.int c0)])) := fun tgt ktg => pre_26 tgt (by rw [hv_c0] at ktg; exact ktg)
  have hc0 := own_byte hv_c0
  have pre_28 : Rch p.tables e below (s₁.setTop (entryFrame m #[(.int p0), (.int p1), (.int p2), (.int p3)] maxLocals)) (T_20.setTop (mkF m 109 #[.val (.int p0), .val (.int p1), .val (.int p2), .val (.int p3), .val (.ref ms), .val (.int st), .val (.int co), .val (.int kd), .val (.int (Int32.ofNat pn)), .val (.int (Int32.ofNat qn)), .val (.int ap), .val (.int xx), .val (.int c0), .unset, .unset, .unset, .unset, .unset, .unset, .unset, .unset, .unset] [(.int ((((p3.toUInt32 >>> ((16 : Int32) &&& 31).toUInt32).toInt32) &&& (255 : Int32)).toUInt32.toUInt16.toUInt32.toInt32))])) := fun tgt ktg => pre_27 tgt (by
    show Steps p.tables e below (T_20.setTop (mkF m 98 #[.val (.int p0), .val (.int p1), .val (.int p2), .val (.int p3), .val (.ref ms), .val (.int st), .val (.int co), .val (.int kd), .val (.int (Int32.ofNat pn)), .val (.int (Int32.ofNat qn)), .val (.int ap), .val (.int xx), .unset, .unset, .unset, .unset, .unset, .unset, .unset, .unset, .unset, .unset] [(.int c0)])) _
    refine XS.istore X_20.here hx rfl (hb hby at_98) rfl (l' := #[.val (.int p0), .val (.int p1), .val (.int p2), .val (.int p3), .val (.ref ms), .val (.int st), .val (.int co), .val (.int kd), .val (.int (Int32.ofNat pn)), .val (.int (Int32.ofNat qn)), .val (.int ap), .val (.int xx), .val (.int c0), .unset, .unset, .unset, .unset, .unset, .unset, .unset, .unset, .unset]) rfl ?_
    show Steps p.tables e below (T_20.setTop (mkF m 100 #[.val (.int p0), .val (.int p1), .val (.int p2), .val (.int p3), .val (.ref ms), .val (.int st), .val (.int co), .val (.int kd), .val (.int (Int32.ofNat pn)), .val (.int (Int32.ofNat qn)), .val (.int ap), .val (.int xx), .val (.int c0), .unset, .unset, .unset, .unset, .unset, .unset, .unset, .unset, .unset] [])) _
    refine XS.iloadN X_20.here hx rfl (hb hby at_100) rfl ?_
    show Steps p.tables e below (T_20.setTop (mkF m 101 #[.val (.int p0), .val (.int p1), .val (.int p2), .val (.int p3), .val (.ref ms), .val (.int st), .val (.int co), .val (.int kd), .val (.int (Int32.ofNat pn)), .val (.int (Int32.ofNat qn)), .val (.int ap), .val (.int xx), .val (.int c0), .unset, .unset, .unset, .unset, .unset, .unset, .unset, .unset, .unset] [(.int p3)])) _
    refine XS.bipush X_20.here hx rfl (hb hby at_101) ?_
    show Steps p.tables e below (T_20.setTop (mkF m 103 #[.val (.int p0), .val (.int p1), .val (.int p2), .val (.int p3), .val (.ref ms), .val (.int st), .val (.int co), .val (.int kd), .val (.int (Int32.ofNat pn)), .val (.int (Int32.ofNat qn)), .val (.int ap), .val (.int xx), .val (.int c0), .unset, .unset, .unset, .unset, .unset, .unset, .unset, .unset, .unset] [(.int (16 : Int32)), (.int p3)])) _
    refine XT.iushr X_20.here hx rfl (hb hby at_103) rfl ?_
    show Steps p.tables e below (T_20.setTop (mkF m 104 #[.val (.int p0), .val (.int p1), .val (.int p2), .val (.int p3), .val (.ref ms), .val (.int st), .val (.int co), .val (.int kd), .val (.int (Int32.ofNat pn)), .val (.int (Int32.ofNat qn)), .val (.int ap), .val (.int xx), .val (.int c0), .unset, .unset, .unset, .unset, .unset, .unset, .unset, .unset, .unset] [(.int ((p3.toUInt32 >>> ((16 : Int32) &&& 31).toUInt32).toInt32))])) _
    refine XS.sipush X_20.here hx rfl (hb hby at_104) ?_
    show Steps p.tables e below (T_20.setTop (mkF m 107 #[.val (.int p0), .val (.int p1), .val (.int p2), .val (.int p3), .val (.ref ms), .val (.int st), .val (.int co), .val (.int kd), .val (.int (Int32.ofNat pn)), .val (.int (Int32.ofNat qn)), .val (.int ap), .val (.int xx), .val (.int c0), .unset, .unset, .unset, .unset, .unset, .unset, .unset, .unset, .unset] [(.int (255 : Int32)), (.int ((p3.toUInt32 >>> ((16 : Int32) &&& 31).toUInt32).toInt32))])) _
    refine XS.iand X_20.here hx rfl (hb hby at_107) rfl ?_
    show Steps p.tables e below (T_20.setTop (mkF m 108 #[.val (.int p0), .val (.int p1), .val (.int p2), .val (.int p3), .val (.ref ms), .val (.int st), .val (.int co), .val (.int kd), .val (.int (Int32.ofNat pn)), .val (.int (Int32.ofNat qn)), .val (.int ap), .val (.int xx), .val (.int c0), .unset, .unset, .unset, .unset, .unset, .unset, .unset, .unset, .unset] [(.int (((p3.toUInt32 >>> ((16 : Int32) &&& 31).toUInt32).toInt32) &&& (255 : Int32)))])) _
    refine XT.i2c X_20.here hx rfl (hb hby at_108) rfl ?_
    exact ktg)
  obtain ⟨c1, hv_c1⟩ : ∃ nm_ : Int32, nm_ = ((((p3.toUInt32 >>> ((16 : Int32) &&& 31).toUInt32).toInt32) &&& (255 : Int32)).toUInt32.toUInt16.toUInt32.toInt32) := ⟨_, rfl⟩
  have pre_29 : Rch p.tables e below (s₁.setTop (entryFrame m #[(.int p0), (.int p1), (.int p2), (.int p3)] maxLocals)) (T_20.setTop (mkF m 109 #[.val (.int p0), .val (.int p1), .val (.int p2), .val (.int p3), .val (.ref ms), .val (.int st), .val (.int co), .val (.int kd), .val (.int (Int32.ofNat pn)), .val (.int (Int32.ofNat qn)), .val (.int ap), .val (.int xx), .val (.int c0), .unset, .unset, .unset, .unset, .unset, .unset, .unset, .unset, .unset] [(.int c1)])) := fun tgt ktg => pre_28 tgt (by rw [hv_c1] at ktg; exact ktg)
  have hc1 := own_byte hv_c1
  have pre_30 : Rch p.tables e below (s₁.setTop (entryFrame m #[(.int p0), (.int p1), (.int p2), (.int p3)] maxLocals)) (T_20.setTop (mkF m 120 #[.val (.int p0), .val (.int p1), .val (.int p2), .val (.int p3), .val (.ref ms), .val (.int st), .val (.int co), .val (.int kd), .val (.int (Int32.ofNat pn)), .val (.int (Int32.ofNat qn)), .val (.int ap), .val (.int xx), .val (.int c0), .val (.int c1), .unset, .unset, .unset, .unset, .unset, .unset, .unset, .unset] [(.int ((((p3.toUInt32 >>> ((24 : Int32) &&& 31).toUInt32).toInt32) &&& (255 : Int32)).toUInt32.toUInt16.toUInt32.toInt32))])) := fun tgt ktg => pre_29 tgt (by
    show Steps p.tables e below (T_20.setTop (mkF m 109 #[.val (.int p0), .val (.int p1), .val (.int p2), .val (.int p3), .val (.ref ms), .val (.int st), .val (.int co), .val (.int kd), .val (.int (Int32.ofNat pn)), .val (.int (Int32.ofNat qn)), .val (.int ap), .val (.int xx), .val (.int c0), .unset, .unset, .unset, .unset, .unset, .unset, .unset, .unset, .unset] [(.int c1)])) _
    refine XS.istore X_20.here hx rfl (hb hby at_109) rfl (l' := #[.val (.int p0), .val (.int p1), .val (.int p2), .val (.int p3), .val (.ref ms), .val (.int st), .val (.int co), .val (.int kd), .val (.int (Int32.ofNat pn)), .val (.int (Int32.ofNat qn)), .val (.int ap), .val (.int xx), .val (.int c0), .val (.int c1), .unset, .unset, .unset, .unset, .unset, .unset, .unset, .unset]) rfl ?_
    show Steps p.tables e below (T_20.setTop (mkF m 111 #[.val (.int p0), .val (.int p1), .val (.int p2), .val (.int p3), .val (.ref ms), .val (.int st), .val (.int co), .val (.int kd), .val (.int (Int32.ofNat pn)), .val (.int (Int32.ofNat qn)), .val (.int ap), .val (.int xx), .val (.int c0), .val (.int c1), .unset, .unset, .unset, .unset, .unset, .unset, .unset, .unset] [])) _
    refine XS.iloadN X_20.here hx rfl (hb hby at_111) rfl ?_
    show Steps p.tables e below (T_20.setTop (mkF m 112 #[.val (.int p0), .val (.int p1), .val (.int p2), .val (.int p3), .val (.ref ms), .val (.int st), .val (.int co), .val (.int kd), .val (.int (Int32.ofNat pn)), .val (.int (Int32.ofNat qn)), .val (.int ap), .val (.int xx), .val (.int c0), .val (.int c1), .unset, .unset, .unset, .unset, .unset, .unset, .unset, .unset] [(.int p3)])) _
    refine XS.bipush X_20.here hx rfl (hb hby at_112) ?_
    show Steps p.tables e below (T_20.setTop (mkF m 114 #[.val (.int p0), .val (.int p1), .val (.int p2), .val (.int p3), .val (.ref ms), .val (.int st), .val (.int co), .val (.int kd), .val (.int (Int32.ofNat pn)), .val (.int (Int32.ofNat qn)), .val (.int ap), .val (.int xx), .val (.int c0), .val (.int c1), .unset, .unset, .unset, .unset, .unset, .unset, .unset, .unset] [(.int (24 : Int32)), (.int p3)])) _
    refine XT.iushr X_20.here hx rfl (hb hby at_114) rfl ?_
    show Steps p.tables e below (T_20.setTop (mkF m 115 #[.val (.int p0), .val (.int p1), .val (.int p2), .val (.int p3), .val (.ref ms), .val (.int st), .val (.int co), .val (.int kd), .val (.int (Int32.ofNat pn)), .val (.int (Int32.ofNat qn)), .val (.int ap), .val (.int xx), .val (.int c0), .val (.int c1), .unset, .unset, .unset, .unset, .unset, .unset, .unset, .unset] [(.int ((p3.toUInt32 >>> ((24 : Int32) &&& 31).toUInt32).toInt32))])) _
    refine XS.sipush X_20.here hx rfl (hb hby at_115) ?_
    show Steps p.tables e below (T_20.setTop (mkF m 118 #[.val (.int p0), .val (.int p1), .val (.int p2), .val (.int p3), .val (.ref ms), .val (.int st), .val (.int co), .val (.int kd), .val (.int (Int32.ofNat pn)), .val (.int (Int32.ofNat qn)), .val (.int ap), .val (.int xx), .val (.int c0), .val (.int c1), .unset, .unset, .unset, .unset, .unset, .unset, .unset, .unset] [(.int (255 : Int32)), (.int ((p3.toUInt32 >>> ((24 : Int32) &&& 31).toUInt32).toInt32))])) _
    refine XS.iand X_20.here hx rfl (hb hby at_118) rfl ?_
    show Steps p.tables e below (T_20.setTop (mkF m 119 #[.val (.int p0), .val (.int p1), .val (.int p2), .val (.int p3), .val (.ref ms), .val (.int st), .val (.int co), .val (.int kd), .val (.int (Int32.ofNat pn)), .val (.int (Int32.ofNat qn)), .val (.int ap), .val (.int xx), .val (.int c0), .val (.int c1), .unset, .unset, .unset, .unset, .unset, .unset, .unset, .unset] [(.int (((p3.toUInt32 >>> ((24 : Int32) &&& 31).toUInt32).toInt32) &&& (255 : Int32)))])) _
    refine XT.i2c X_20.here hx rfl (hb hby at_119) rfl ?_
    exact ktg)
  obtain ⟨yd, hv_yd⟩ : ∃ nm_ : Int32, nm_ = ((((p3.toUInt32 >>> ((24 : Int32) &&& 31).toUInt32).toInt32) &&& (255 : Int32)).toUInt32.toUInt16.toUInt32.toInt32) := ⟨_, rfl⟩
  have pre_31 : Rch p.tables e below (s₁.setTop (entryFrame m #[(.int p0), (.int p1), (.int p2), (.int p3)] maxLocals)) (T_20.setTop (mkF m 120 #[.val (.int p0), .val (.int p1), .val (.int p2), .val (.int p3), .val (.ref ms), .val (.int st), .val (.int co), .val (.int kd), .val (.int (Int32.ofNat pn)), .val (.int (Int32.ofNat qn)), .val (.int ap), .val (.int xx), .val (.int c0), .val (.int c1), .unset, .unset, .unset, .unset, .unset, .unset, .unset, .unset] [(.int yd)])) := fun tgt ktg => pre_30 tgt (by rw [hv_yd] at ktg; exact ktg)
  have hyd := own_byte hv_yd
  have pre_32 : Rch p.tables e below (s₁.setTop (entryFrame m #[(.int p0), (.int p1), (.int p2), (.int p3)] maxLocals)) (T_20.setTop (mkF m 124 #[.val (.int p0), .val (.int p1), .val (.int p2), .val (.int p3), .val (.ref ms), .val (.int st), .val (.int co), .val (.int kd), .val (.int (Int32.ofNat pn)), .val (.int (Int32.ofNat qn)), .val (.int ap), .val (.int xx), .val (.int c0), .val (.int c1), .val (.int yd), .unset, .unset, .unset, .unset, .unset, .unset, .unset] [(.int (38 : Int32))])) := fun tgt ktg => pre_31 tgt (by
    show Steps p.tables e below (T_20.setTop (mkF m 120 #[.val (.int p0), .val (.int p1), .val (.int p2), .val (.int p3), .val (.ref ms), .val (.int st), .val (.int co), .val (.int kd), .val (.int (Int32.ofNat pn)), .val (.int (Int32.ofNat qn)), .val (.int ap), .val (.int xx), .val (.int c0), .val (.int c1), .unset, .unset, .unset, .unset, .unset, .unset, .unset, .unset] [(.int yd)])) _
    refine XS.istore X_20.here hx rfl (hb hby at_120) rfl (l' := #[.val (.int p0), .val (.int p1), .val (.int p2), .val (.int p3), .val (.ref ms), .val (.int st), .val (.int co), .val (.int kd), .val (.int (Int32.ofNat pn)), .val (.int (Int32.ofNat qn)), .val (.int ap), .val (.int xx), .val (.int c0), .val (.int c1), .val (.int yd), .unset, .unset, .unset, .unset, .unset, .unset, .unset]) rfl ?_
    show Steps p.tables e below (T_20.setTop (mkF m 122 #[.val (.int p0), .val (.int p1), .val (.int p2), .val (.int p3), .val (.ref ms), .val (.int st), .val (.int co), .val (.int kd), .val (.int (Int32.ofNat pn)), .val (.int (Int32.ofNat qn)), .val (.int ap), .val (.int xx), .val (.int c0), .val (.int c1), .val (.int yd), .unset, .unset, .unset, .unset, .unset, .unset, .unset] [])) _
    refine XS.bipush X_20.here hx rfl (hb hby at_122) ?_
    exact ktg)
  obtain ⟨T_33, h_33, k_33, X_33, e_33, E_33, A_33, st_33⟩ := newP X_20 hx hZ (hw _ (List.mem_of_getElem? (i := 38) rfl)) eh_20 (g := (mkF m 124 #[.val (.int p0), .val (.int p1), .val (.int p2), .val (.int p3), .val (.ref ms), .val (.int st), .val (.int co), .val (.int kd), .val (.int (Int32.ofNat pn)), .val (.int (Int32.ofNat qn)), .val (.int ap), .val (.int xx), .val (.int c0), .val (.int c1), .val (.int yd), .unset, .unset, .unset, .unset, .unset, .unset, .unset] [(.int (38 : Int32))])) rfl (hb hby at_124) rfl (by decide) (cap := 38) (by decide) (by decide) (by decide) (by decide)
  obtain ⟨ca, g_33⟩ : ∃ nm_, nm_ = T_1.heap.size := ⟨_, rfl⟩
  rw [← g_33] at A_33 st_33
  have ne_ms_ca : ms ≠ ca := Nat.ne_of_lt (Nat.lt_of_lt_of_le m1.lt (Nat.le_of_eq g_33.symm))
  have ne_mb_ca : mb ≠ ca := Nat.ne_of_lt (Nat.lt_of_lt_of_le m4.lt (Nat.le_of_eq g_33.symm))
  have g_ca : n0 ≤ ca := Nat.le_trans z_6 (Nat.le_of_eq g_33.symm)
  have f_34 : Safe Z consts_1 T_1.vm T_1.heap ca := Safe.new (Nat.le_of_eq g_33.symm)
  have pre_33 : Rch p.tables e below (s₁.setTop (entryFrame m #[(.int p0), (.int p1), (.int p2), (.int p3)] maxLocals)) (T_33.setTop (mkF m 126 #[.val (.int p0), .val (.int p1), .val (.int p2), .val (.int p3), .val (.ref ms), .val (.int st), .val (.int co), .val (.int kd), .val (.int (Int32.ofNat pn)), .val (.int (Int32.ofNat qn)), .val (.int ap), .val (.int xx), .val (.int c0), .val (.int c1), .val (.int yd), .unset, .unset, .unset, .unset, .unset, .unset, .unset] [(.ref ca)])) := fun tgt ktg => pre_32 tgt (st_33 tgt ktg)
  have C_35 : CHr Z consts_1 s.vm h0 T_1.vm h_33 := C_3.trans (CHr.ext E_33 C_3.1)
  have hk_35 := Nat.le_trans hk_1 E_33.1
  have f_36 : Sta Z h_33 "java/lang/String" "COMPACT_STRINGS" "Z" (.int cs) := f_4.ext E_33
  have f_37 : Sta Z h_33 "jdk/internal/util/Preconditions" "SIOOBE_FORMATTER" "Ljava/util/function/BiFunction;" u := f_5.ext E_33
  have f_38 : Exa Z h_33 ms "java/lang/String" := m1.ext E_33
  have f_39 : Fld Z h_33 ms "java/lang/String" "coder" "B" (.int (0 : Int32)) := m2.ext E_33
  have f_40 : Fld Z h_33 ms "java/lang/String" "value" "[B" (.ref mb) := m3.ext E_33
  have f_41 : Arv Z h_33 mb km .byte (36 : Int32) [(.int (60 : Int32)), (.int (115 : Int32)), (.int (111 : Int32)), (.int (97 : Int32)), (.int (112 : Int32)), (.int (58 : Int32)), (.int (86 : Int32)), (.int (97 : Int32)), (.int (108 : Int32)), (.int (117 : Int32)), (.int (101 : Int32)), (.int (62 : Int32)), (.int (115 : Int32)), (.int (111 : Int32)), (.int (97 : Int32)), (.int (112 : Int32)), (.int (58 : Int32)), (.int (83 : Int32)), (.int (101 : Int32)), (.int (110 : Int32)), (.int (100 : Int32)), (.int (101 : Int32)), (.int (114 : Int32)), (.int (60 : Int32)), (.int (47 : Int32)), (.int (115 : Int32)), (.int (111 : Int32)), (.int (97 : Int32)), (.int (112 : Int32)), (.int (58 : Int32)), (.int (86 : Int32)), (.int (97 : Int32)), (.int (108 : Int32)), (.int (117 : Int32)), (.int (101 : Int32)), (.int (62 : Int32))] (.int (0 : Int32)) := m4.ext E_33
  have f_42 : Safe Z consts_1 T_1.vm h_33 ca := Safe.ext E_33 C_3.1 f_34
  have z_43 : n0 ≤ h_33.size := Nat.le_trans z_6 E_33.1
  have f_44 : Arv Z h_33 ca k_33 .char (38 : Int32) [(.int (0 : Int32)), (.int (0 : Int32)), (.int (0 : Int32)), (.int (0 : Int32)), (.int (0 : Int32)), (.int (0 : Int32)), (.int (0 : Int32)), (.int (0 : Int32)), (.int (0 : Int32)), (.int (0 : Int32)), (.int (0 : Int32)), (.int (0 : Int32)), (.int (0 : Int32)), (.int (0 : Int32)), (.int (0 : Int32)), (.int (0 : Int32)), (.int (0 : Int32)), (.int (0 : Int32)), (.int (0 : Int32)), (.int (0 : Int32)), (.int (0 : Int32)), (.int (0 : Int32)), (.int (0 : Int32)), (.int (0 : Int32)), (.int (0 : Int32)), (.int (0 : Int32)), (.int (0 : Int32)), (.int (0 : Int32)), (.int (0 : Int32)), (.int (0 : Int32)), (.int (0 : Int32)), (.int (0 : Int32)), (.int (0 : Int32)), (.int (0 : Int32)), (.int (0 : Int32)), (.int (0 : Int32)), (.int (0 : Int32)), (.int (0 : Int32))] (.int (0 : Int32)) := (Arv.new A_33 (by decide)).pad (pad_rep [] (.int (0 : Int32)) 38)
  obtain ⟨T_45, h_45, L_45, X_45, e_45, N_45, Kq_45, zq_45, fA_45, R_45⟩ := pcfl0 (p0 := p0) (p1 := p1) (p2 := p2) (p3 := p3) (st := st) (co := co) (kd := kd) (ap := ap) (xx := xx) (yd := yd) (pn := pn) (qn := qn) (ms := ms) X_33 hx hZ hw hby hml hown (by decide) (by decide) e_33 N_21 z_43 f_44 g_ca hc0 hc1
  have pre_45 : Rch p.tables e below (s₁.setTop (entryFrame m #[(.int p0), (.int p1), (.int p2), (.int p3)] maxLocals)) (T_45.setTop (mkF m 180 #[.val (.int p0), .val (.int p1), .val (.int p2), .val (.int p3), .val (.ref ms), .val (.int st), .val (.int co), .val (.int kd), .val (.int (Int32.ofNat pn)), .val (.int (Int32.ofNat qn)), .val (.int ap), .val (.int xx), .val (.int c0), .val (.int c1), .val (.int yd), .unset, .unset, .unset, .unset, .unset, .unset, .unset] [(.ref ca)])) := fun tgt ktg => pre_33 tgt (R_45 tgt ktg)
  have C_46 : CHr Z consts_1 s.vm h0 T_1.vm h_45 := C_35.trans (CHr.keep Kq_45 (sfS f_42 sf0) C_35.1)
  have hk_46 := Nat.le_trans hk_35 Kq_45.1
  have f_47 : Sta Z h_45 "java/lang/String" "COMPACT_STRINGS" "Z" (.int cs) := own_sta_keep f_36 Kq_45 (nsS f_44.nostat ns0)
  have f_48 : Sta Z h_45 "jdk/internal/util/Preconditions" "SIOOBE_FORMATTER" "Ljava/util/function/BiFunction;" u := own_sta_keep f_37 Kq_45 (nsS f_44.nostat ns0)
  have f_49 : Exa Z h_45 ms "java/lang/String" := f_38.keep Kq_45
  have f_50 : Fld Z h_45 ms "java/lang/String" "coder" "B" (.int (0 : Int32)) := f_39.keep Kq_45 (ninS ne_ms_ca nin0)
  have f_51 : Fld Z h_45 ms "java/lang/String" "value" "[B" (.ref mb) := f_40.keep Kq_45 (ninS ne_ms_ca nin0)
  have f_52 : Arv Z h_45 mb km .byte (36 : Int32) [(.int (60 : Int32)), (.int (115 : Int32)), (.int (111 : Int32)), (.int (97 : Int32)), (.int (112 : Int32)), (.int (58 : Int32)), (.int (86 : Int32)), (.int (97 : Int32)), (.int (108 : Int32)), (.int (117 : Int32)), (.int (101 : Int32)), (.int (62 : Int32)), (.int (115 : Int32)), (.int (111 : Int32)), (.int (97 : Int32)), (.int (112 : Int32)), (.int (58 : Int32)), (.int (83 : Int32)), (.int (101 : Int32)), (.int (110 : Int32)), (.int (100 : Int32)), (.int (101 : Int32)), (.int (114 : Int32)), (.int (60 : Int32)), (.int (47 : Int32)), (.int (115 : Int32)), (.int (111 : Int32)), (.int (97 : Int32)), (.int (112 : Int32)), (.int (58 : Int32)), (.int (86 : Int32)), (.int (97 : Int32)), (.int (108 : Int32)), (.int (117 : Int32)), (.int (101 : Int32)), (.int (62 : Int32))] (.int (0 : Int32)) := f_41.keep Kq_45 (ninS ne_mb_ca nin0)
  have f_53 : Safe Z consts_1 T_1.vm h_45 ca := Safe.keep Kq_45 (sfS f_42 sf0) C_35.1 f_42
  have z_54 : n0 ≤ h_45.size := Nat.le_trans z_43 Kq_45.1
  obtain ⟨T_55, h_55, L_55, X_55, e_55, N_55, Kq_55, zq_55, fA_55, R_55⟩ := pcfl10 (p0 := p0) (p1 := p1) (p2 := p2) (p3 := p3) (st := st) (co := co) (kd := kd) (ap := ap) (xx := xx) (yd := yd) (pn := pn) (qn := qn) (ms := ms) X_45 hx hZ hw hby hml hown (by decide) (by decide) e_45 N_45 z_54 fA_45 g_ca hc0 hc1
  have pre_55 : Rch p.tables e below (s₁.setTop (entryFrame m #[(.int p0), (.int p1), (.int p2), (.int p3)] maxLocals)) (T_55.setTop (mkF m 240 #[.val (.int p0), .val (.int p1), .val (.int p2), .val (.int p3), .val (.ref ms), .val (.int st), .val (.int co), .val (.int kd), .val (.int (Int32.ofNat pn)), .val (.int (Int32.ofNat qn)), .val (.int ap), .val (.int xx), .val (.int c0), .val (.int c1), .val (.int yd), .unset, .unset, .unset, .unset, .unset, .unset, .unset] [(.ref ca)])) := fun tgt ktg => pre_45 tgt (R_55 tgt ktg)
  have C_56 : CHr Z consts_1 s.vm h0 T_1.vm h_55 := C_46.trans (CHr.keep Kq_55 (sfS f_53 sf0) C_46.1)
  have hk_56 := Nat.le_trans hk_46 Kq_55.1
  have f_57 : Sta Z h_55 "java/lang/String" "COMPACT_STRINGS" "Z" (.int cs) := own_sta_keep f_47 Kq_55 (nsS fA_45.nostat ns0)
  have f_58 : Sta Z h_55 "jdk/internal/util/Preconditions" "SIOOBE_FORMATTER" "Ljava/util/function/BiFunction;" u := own_sta_keep f_48 Kq_55 (nsS fA_45.nostat ns0)
  have f_59 : Exa Z h_55 ms "java/lang/String" := f_49.keep Kq_55
  have f_60 : Fld Z h_55 ms "java/lang/String" "coder" "B" (.int (0 : Int32)) := f_50.keep Kq_55 (ninS ne_ms_ca nin0)
  have f_61 : Fld Z h_55 ms "java/lang/String" "value" "[B" (.ref mb) := f_51.keep Kq_55 (ninS ne_ms_ca nin0)
  have f_62 : Arv Z h_55 mb km .byte (36 : Int32) [(.int (60 : Int32)), (.int (115 : Int32)), (.int (111 : Int32)), (.int (97 : Int32)), (.int (112 : Int32)), (.int (58 : Int32)), (.int (86 : Int32)), (.int (97 : Int32)), (.int (108 : Int32)), (.int (117 : Int32)), (.int (101 : Int32)), (.int (62 : Int32)), (.int (115 : Int32)), (.int (111 : Int32)), (.int (97 : Int32)), (.int (112 : Int32)), (.int (58 : Int32)), (.int (83 : Int32)), (.int (101 : Int32)), (.int (110 : Int32)), (.int (100 : Int32)), (.int (101 : Int32)), (.int (114 : Int32)), (.int (60 : Int32)), (.int (47 : Int32)), (.int (115 : Int32)), (.int (111 : Int32)), (.int (97 : Int32)), (.int (112 : Int32)), (.int (58 : Int32)), (.int (86 : Int32)), (.int (97 : Int32)), (.int (108 : Int32)), (.int (117 : Int32)), (.int (101 : Int32)), (.int (62 : Int32))] (.int (0 : Int32)) := f_52.keep Kq_55 (ninS ne_mb_ca nin0)
  have f_63 : Safe Z consts_1 T_1.vm h_55 ca := Safe.keep Kq_55 (sfS f_53 sf0) C_46.1 f_53
  have z_64 : n0 ≤ h_55.size := Nat.le_trans z_54 Kq_55.1
  obtain ⟨T_65, h_65, L_65, X_65, e_65, N_65, Kq_65, zq_65, fA_65, R_65⟩ := pcfl20 (p0 := p0) (p1 := p1) (p2 := p2) (p3 := p3) (st := st) (co := co) (kd := kd) (ap := ap) (xx := xx) (yd := yd) (pn := pn) (qn := qn) (ms := ms) X_55 hx hZ hw hby hml hown (by decide) (by decide) e_55 N_55 z_64 fA_55 g_ca hc0 hc1
  have pre_65 : Rch p.tables e below (s₁.setTop (entryFrame m #[(.int p0), (.int p1), (.int p2), (.int p3)] maxLocals)) (T_65.setTop (mkF m 300 #[.val (.int p0), .val (.int p1), .val (.int p2), .val (.int p3), .val (.ref ms), .val (.int st), .val (.int co), .val (.int kd), .val (.int (Int32.ofNat pn)), .val (.int (Int32.ofNat qn)), .val (.int ap), .val (.int xx), .val (.int c0), .val (.int c1), .val (.int yd), .unset, .unset, .unset, .unset, .unset, .unset, .unset] [(.ref ca)])) := fun tgt ktg => pre_55 tgt (R_65 tgt ktg)
  have C_66 : CHr Z consts_1 s.vm h0 T_1.vm h_65 := C_56.trans (CHr.keep Kq_65 (sfS f_63 sf0) C_56.1)
  have hk_66 := Nat.le_trans hk_56 Kq_65.1
  have f_67 : Sta Z h_65 "java/lang/String" "COMPACT_STRINGS" "Z" (.int cs) := own_sta_keep f_57 Kq_65 (nsS fA_55.nostat ns0)
  have f_68 : Sta Z h_65 "jdk/internal/util/Preconditions" "SIOOBE_FORMATTER" "Ljava/util/function/BiFunction;" u := own_sta_keep f_58 Kq_65 (nsS fA_55.nostat ns0)
  have f_69 : Exa Z h_65 ms "java/lang/String" := f_59.keep Kq_65
  have f_70 : Fld Z h_65 ms "java/lang/String" "coder" "B" (.int (0 : Int32)) := f_60.keep Kq_65 (ninS ne_ms_ca nin0)
  have f_71 : Fld Z h_65 ms "java/lang/String" "value" "[B" (.ref mb) := f_61.keep Kq_65 (ninS ne_ms_ca nin0)
  have f_72 : Arv Z h_65 mb km .byte (36 : Int32) [(.int (60 : Int32)), (.int (115 : Int32)), (.int (111 : Int32)), (.int (97 : Int32)), (.int (112 : Int32)), (.int (58 : Int32)), (.int (86 : Int32)), (.int (97 : Int32)), (.int (108 : Int32)), (.int (117 : Int32)), (.int (101 : Int32)), (.int (62 : Int32)), (.int (115 : Int32)), (.int (111 : Int32)), (.int (97 : Int32)), (.int (112 : Int32)), (.int (58 : Int32)), (.int (83 : Int32)), (.int (101 : Int32)), (.int (110 : Int32)), (.int (100 : Int32)), (.int (101 : Int32)), (.int (114 : Int32)), (.int (60 : Int32)), (.int (47 : Int32)), (.int (115 : Int32)), (.int (111 : Int32)), (.int (97 : Int32)), (.int (112 : Int32)), (.int (58 : Int32)), (.int (86 : Int32)), (.int (97 : Int32)), (.int (108 : Int32)), (.int (117 : Int32)), (.int (101 : Int32)), (.int (62 : Int32))] (.int (0 : Int32)) := f_62.keep Kq_65 (ninS ne_mb_ca nin0)
  have f_73 : Safe Z consts_1 T_1.vm h_65 ca := Safe.keep Kq_65 (sfS f_63 sf0) C_56.1 f_63
  have z_74 : n0 ≤ h_65.size := Nat.le_trans z_64 Kq_65.1
  obtain ⟨T_75, h_75, L_75, X_75, e_75, N_75, Kq_75, zq_75, fA_75, R_75⟩ := pcfl30 (p0 := p0) (p1 := p1) (p2 := p2) (p3 := p3) (st := st) (co := co) (kd := kd) (ap := ap) (xx := xx) (yd := yd) (pn := pn) (qn := qn) (ms := ms) X_65 hx hZ hw hby hml hown (by decide) (by decide) e_65 N_65 z_74 fA_65 g_ca hc0 hc1
  have pre_75 : Rch p.tables e below (s₁.setTop (entryFrame m #[(.int p0), (.int p1), (.int p2), (.int p3)] maxLocals)) (T_75.setTop (mkF m 348 #[.val (.int p0), .val (.int p1), .val (.int p2), .val (.int p3), .val (.ref ms), .val (.int st), .val (.int co), .val (.int kd), .val (.int (Int32.ofNat pn)), .val (.int (Int32.ofNat qn)), .val (.int ap), .val (.int xx), .val (.int c0), .val (.int c1), .val (.int yd), .unset, .unset, .unset, .unset, .unset, .unset, .unset] [(.ref ca)])) := fun tgt ktg => pre_65 tgt (R_75 tgt ktg)
  have C_76 : CHr Z consts_1 s.vm h0 T_1.vm h_75 := C_66.trans (CHr.keep Kq_75 (sfS f_73 sf0) C_66.1)
  have hk_76 := Nat.le_trans hk_66 Kq_75.1
  have f_77 : Sta Z h_75 "java/lang/String" "COMPACT_STRINGS" "Z" (.int cs) := own_sta_keep f_67 Kq_75 (nsS fA_65.nostat ns0)
  have f_78 : Sta Z h_75 "jdk/internal/util/Preconditions" "SIOOBE_FORMATTER" "Ljava/util/function/BiFunction;" u := own_sta_keep f_68 Kq_75 (nsS fA_65.nostat ns0)
  have f_79 : Exa Z h_75 ms "java/lang/String" := f_69.keep Kq_75
  have f_80 : Fld Z h_75 ms "java/lang/String" "coder" "B" (.int (0 : Int32)) := f_70.keep Kq_75 (ninS ne_ms_ca nin0)
  have f_81 : Fld Z h_75 ms "java/lang/String" "value" "[B" (.ref mb) := f_71.keep Kq_75 (ninS ne_ms_ca nin0)
  have f_82 : Arv Z h_75 mb km .byte (36 : Int32) [(.int (60 : Int32)), (.int (115 : Int32)), (.int (111 : Int32)), (.int (97 : Int32)), (.int (112 : Int32)), (.int (58 : Int32)), (.int (86 : Int32)), (.int (97 : Int32)), (.int (108 : Int32)), (.int (117 : Int32)), (.int (101 : Int32)), (.int (62 : Int32)), (.int (115 : Int32)), (.int (111 : Int32)), (.int (97 : Int32)), (.int (112 : Int32)), (.int (58 : Int32)), (.int (83 : Int32)), (.int (101 : Int32)), (.int (110 : Int32)), (.int (100 : Int32)), (.int (101 : Int32)), (.int (114 : Int32)), (.int (60 : Int32)), (.int (47 : Int32)), (.int (115 : Int32)), (.int (111 : Int32)), (.int (97 : Int32)), (.int (112 : Int32)), (.int (58 : Int32)), (.int (86 : Int32)), (.int (97 : Int32)), (.int (108 : Int32)), (.int (117 : Int32)), (.int (101 : Int32)), (.int (62 : Int32))] (.int (0 : Int32)) := f_72.keep Kq_75 (ninS ne_mb_ca nin0)
  have f_83 : Safe Z consts_1 T_1.vm h_75 ca := Safe.keep Kq_75 (sfS f_73 sf0) C_66.1 f_73
  have z_84 : n0 ≤ h_75.size := Nat.le_trans z_74 Kq_75.1
  have pre_85 : Rch p.tables e below (s₁.setTop (entryFrame m #[(.int p0), (.int p1), (.int p2), (.int p3)] maxLocals)) (T_75.setTop (mkF m 358 #[.val (.int p0), .val (.int p1), .val (.int p2), .val (.int p3), .val (.ref ms), .val (.int st), .val (.int co), .val (.int kd), .val (.int (Int32.ofNat pn)), .val (.int (Int32.ofNat qn)), .val (.int ap), .val (.int xx), .val (.int c0), .val (.int c1), .val (.int yd), .val (.ref ca), .unset, .unset, .unset, .unset, .unset, .unset] [(.int xx), (.int ((Int32.ofNat pn) + (1 : Int32))), (.ref ca)])) := fun tgt ktg => pre_75 tgt (by
    show Steps p.tables e below (T_75.setTop (mkF m 348 #[.val (.int p0), .val (.int p1), .val (.int p2), .val (.int p3), .val (.ref ms), .val (.int st), .val (.int co), .val (.int kd), .val (.int (Int32.ofNat pn)), .val (.int (Int32.ofNat qn)), .val (.int ap), .val (.int xx), .val (.int c0), .val (.int c1), .val (.int yd), .unset, .unset, .unset, .unset, .unset, .unset, .unset] [(.ref ca)])) _
    refine XS.astore X_75.here hx rfl (hb hby at_348) rfl rfl (l' := #[.val (.int p0), .val (.int p1), .val (.int p2), .val (.int p3), .val (.ref ms), .val (.int st), .val (.int co), .val (.int kd), .val (.int (Int32.ofNat pn)), .val (.int (Int32.ofNat qn)), .val (.int ap), .val (.int xx), .val (.int c0), .val (.int c1), .val (.int yd), .val (.ref ca), .unset, .unset, .unset, .unset, .unset, .unset]) rfl ?_
    show Steps p.tables e below (T_75.setTop (mkF m 350 #[.val (.int p0), .val (.int p1), .val (.int p2), .val (.int p3), .val (.ref ms), .val (.int st), .val (.int co), .val (.int kd), .val (.int (Int32.ofNat pn)), .val (.int (Int32.ofNat qn)), .val (.int ap), .val (.int xx), .val (.int c0), .val (.int c1), .val (.int yd), .val (.ref ca), .unset, .unset, .unset, .unset, .unset, .unset] [])) _
    refine XS.aload X_75.here hx rfl (hb hby at_350) rfl rfl ?_
    show Steps p.tables e below (T_75.setTop (mkF m 352 #[.val (.int p0), .val (.int p1), .val (.int p2), .val (.int p3), .val (.ref ms), .val (.int st), .val (.int co), .val (.int kd), .val (.int (Int32.ofNat pn)), .val (.int (Int32.ofNat qn)), .val (.int ap), .val (.int xx), .val (.int c0), .val (.int c1), .val (.int yd), .val (.ref ca), .unset, .unset, .unset, .unset, .unset, .unset] [(.ref ca)])) _
    refine XS.iload X_75.here hx rfl (hb hby at_352) rfl ?_
    show Steps p.tables e below (T_75.setTop (mkF m 354 #[.val (.int p0), .val (.int p1), .val (.int p2), .val (.int p3), .val (.ref ms), .val (.int st), .val (.int co), .val (.int kd), .val (.int (Int32.ofNat pn)), .val (.int (Int32.ofNat qn)), .val (.int ap), .val (.int xx), .val (.int c0), .val (.int c1), .val (.int yd), .val (.ref ca), .unset, .unset, .unset, .unset, .unset, .unset] [(.int (Int32.ofNat pn)), (.ref ca)])) _
    refine XS.iconst X_75.here hx rfl (hb hby at_354) ?_
    show Steps p.tables e below (T_75.setTop (mkF m 355 #[.val (.int p0), .val (.int p1), .val (.int p2), .val (.int p3), .val (.ref ms), .val (.int st), .val (.int co), .val (.int kd), .val (.int (Int32.ofNat pn)), .val (.int (Int32.ofNat qn)), .val (.int ap), .val (.int xx), .val (.int c0), .val (.int c1), .val (.int yd), .val (.ref ca), .unset, .unset, .unset, .unset, .unset, .unset] [(.int (1 : Int32)), (.int (Int32.ofNat pn)), (.ref ca)])) _
    refine XS.iadd X_75.here hx rfl (hb hby at_355) rfl ?_
    show Steps p.tables e below (T_75.setTop (mkF m 356 #[.val (.int p0), .val (.int p1), .val (.int p2), .val (.int p3), .val (.ref ms), .val (.int st), .val (.int co), .val (.int kd), .val (.int (Int32.ofNat pn)), .val (.int (Int32.ofNat qn)), .val (.int ap), .val (.int xx), .val (.int c0), .val (.int c1), .val (.int yd), .val (.ref ca), .unset, .unset, .unset, .unset, .unset, .unset] [(.int ((Int32.ofNat pn) + (1 : Int32))), (.ref ca)])) _
    refine XS.iload X_75.here hx rfl (hb hby at_356) rfl ?_
    exact ktg)
  have rc_86 : ((Int32.ofNat pn) + (1 : Int32)) = (Int32.ofNat (pn + 1)) := own_suc _
  have pre_86 : Rch p.tables e below (s₁.setTop (entryFrame m #[(.int p0), (.int p1), (.int p2), (.int p3)] maxLocals)) (T_75.setTop (mkF m 358 #[.val (.int p0), .val (.int p1), .val (.int p2), .val (.int p3), .val (.ref ms), .val (.int st), .val (.int co), .val (.int kd), .val (.int (Int32.ofNat pn)), .val (.int (Int32.ofNat qn)), .val (.int ap), .val (.int xx), .val (.int c0), .val (.int c1), .val (.int yd), .val (.ref ca), .unset, .unset, .unset, .unset, .unset, .unset] [(.int xx), (.int (Int32.ofNat (pn + 1))), (.ref ca)])) := fun tgt ktg => pre_85 tgt (by rw [rc_86]; exact ktg)
  obtain ⟨cl__87, Ar__87, q__87, S__87, N__87, H__87, G__87⟩ := id fA_75
  have hin__87 : ¬ ((Int32.ofNat (pn + 1)) < 0 ∨ cl__87.slots.size ≤ ((Int32.ofNat (pn + 1))).toNatClampNeg) := inb_of S__87 (own_inb (z := 38) (by decide) (by omega))
  obtain ⟨T_88, h_88, X_88, e_88, W_88, st_88⟩ := stC X_75 hx hZ e_75 Ar__87 (j := (Int32.ofNat (pn + 1))) hin__87 (g := (mkF m 358 #[.val (.int p0), .val (.int p1), .val (.int p2), .val (.int p3), .val (.ref ms), .val (.int st), .val (.int co), .val (.int kd), .val (.int (Int32.ofNat pn)), .val (.int (Int32.ofNat qn)), .val (.int ap), .val (.int xx), .val (.int c0), .val (.int c1), .val (.int yd), .val (.ref ca), .unset, .unset, .unset, .unset, .unset, .unset] [(.int xx), (.int (Int32.ofNat (pn + 1))), (.ref ca)])) rfl rfl (hb hby at_358)
  have pre_88 : Rch p.tables e below (s₁.setTop (entryFrame m #[(.int p0), (.int p1), (.int p2), (.int p3)] maxLocals)) (T_88.setTop (mkF m 359 #[.val (.int p0), .val (.int p1), .val (.int p2), .val (.int p3), .val (.ref ms), .val (.int st), .val (.int co), .val (.int kd), .val (.int (Int32.ofNat pn)), .val (.int (Int32.ofNat qn)), .val (.int ap), .val (.int xx), .val (.int c0), .val (.int c1), .val (.int yd), .val (.ref ca), .unset, .unset, .unset, .unset, .unset, .unset] [])) := fun tgt ktg => pre_86 tgt (st_88 tgt ktg)
  have C_89 : CHr Z consts_1 s.vm h0 T_1.vm h_88 := C_76.trans (CHr.wr W_88 f_83 C_76.1)
  have hk_89 := Nat.le_trans hk_76 (Keep.of_wr W_88).1
  have f_90 : Sta Z h_88 "java/lang/String" "COMPACT_STRINGS" "Z" (.int cs) := f_77.wr W_88
  have f_91 : Sta Z h_88 "jdk/internal/util/Preconditions" "SIOOBE_FORMATTER" "Ljava/util/function/BiFunction;" u := f_78.wr W_88
  have f_92 : Exa Z h_88 ms "java/lang/String" := f_79.wr W_88
  have f_93 : Fld Z h_88 ms "java/lang/String" "coder" "B" (.int (0 : Int32)) := f_80.other W_88 (Or.inl ne_ms_ca)
  have f_94 : Fld Z h_88 ms "java/lang/String" "value" "[B" (.ref mb) := f_81.other W_88 (Or.inl ne_ms_ca)
  have f_95 : Arv Z h_88 mb km .byte (36 : Int32) [(.int (60 : Int32)), (.int (115 : Int32)), (.int (111 : Int32)), (.int (97 : Int32)), (.int (112 : Int32)), (.int (58 : Int32)), (.int (86 : Int32)), (.int (97 : Int32)), (.int (108 : Int32)), (.int (117 : Int32)), (.int (101 : Int32)), (.int (62 : Int32)), (.int (115 : Int32)), (.int (111 : Int32)), (.int (97 : Int32)), (.int (112 : Int32)), (.int (58 : Int32)), (.int (83 : Int32)), (.int (101 : Int32)), (.int (110 : Int32)), (.int (100 : Int32)), (.int (101 : Int32)), (.int (114 : Int32)), (.int (60 : Int32)), (.int (47 : Int32)), (.int (115 : Int32)), (.int (111 : Int32)), (.int (97 : Int32)), (.int (112 : Int32)), (.int (58 : Int32)), (.int (86 : Int32)), (.int (97 : Int32)), (.int (108 : Int32)), (.int (117 : Int32)), (.int (101 : Int32)), (.int (62 : Int32))] (.int (0 : Int32)) := f_82.other W_88 ne_mb_ca
  have f_96 : Safe Z consts_1 T_1.vm h_88 ca := Safe.wr W_88 f_83 C_76.1 f_83
  have z_97 : n0 ≤ h_88.size := Nat.le_trans z_84 (Keep.of_wr W_88).1
  have f_98 : Arv Z h_88 ca k_33 .char (38 : Int32) ([(.int c0), (.int (60 : Int32)), (.int (115 : Int32)), (.int (111 : Int32)), (.int (97 : Int32)), (.int (112 : Int32)), (.int (58 : Int32)), (.int (86 : Int32)), (.int (97 : Int32)), (.int (108 : Int32)), (.int (117 : Int32)), (.int (101 : Int32)), (.int (62 : Int32)), (.int (115 : Int32)), (.int (111 : Int32)), (.int (97 : Int32)), (.int (112 : Int32)), (.int (58 : Int32)), (.int (83 : Int32)), (.int (101 : Int32)), (.int (110 : Int32)), (.int (100 : Int32)), (.int (101 : Int32)), (.int (114 : Int32)), (.int (60 : Int32)), (.int (47 : Int32)), (.int (115 : Int32)), (.int (111 : Int32)), (.int (97 : Int32)), (.int (112 : Int32)), (.int (58 : Int32)), (.int (86 : Int32)), (.int (97 : Int32)), (.int (108 : Int32)), (.int (117 : Int32)), (.int (101 : Int32)), (.int (62 : Int32)), (.int c1)].set (pn + 1) (.int (nar .char xx))) (.int (0 : Int32)) := Arv.set Ar__87 q__87 S__87 N__87 H__87 G__87 (fits_nar_char _) W_88 (pn + 1) (own_nn (by omega)) (by show pn + 1 < 38; omega)
  have N_99 := Fr.snoc X_88 N_75 g_ca
  rw [own_narc hxx.1 hxx.2] at f_98
  have f_100 : Arv Z h_88 ca k_33 .char (38 : Int32) (((cl0 c0 c1).set (pn + 1) xx).map Value.int) (.int (0 : Int32)) := by rw [List.map_set]; exact f_98
  obtain ⟨T_101, h_101, X_101, e_101, E_101, A_101, D_101, U_101, st_101⟩ := newO X_88 hx hZ hown (hw _ (List.mem_of_getElem? (i := 39) rfl)) (hw _ (List.mem_of_getElem? (i := 6) rfl)) (hw _ (List.mem_of_getElem? (i := 5) rfl)) e_88 (g := (mkF m 359 #[.val (.int p0), .val (.int p1), .val (.int p2), .val (.int p3), .val (.ref ms), .val (.int st), .val (.int co), .val (.int kd), .val (.int (Int32.ofNat pn)), .val (.int (Int32.ofNat qn)), .val (.int ap), .val (.int xx), .val (.int c0), .val (.int c1), .val (.int yd), .val (.ref ca), .unset, .unset, .unset, .unset, .unset, .unset] [])) rfl (hb hby at_359) (by decide) (by decide)
  obtain ⟨a, g_101⟩ : ∃ nm_, nm_ = h_88.size := ⟨_, rfl⟩
  rw [← g_101] at A_101 D_101 U_101 st_101
  have ne_ms_a : ms ≠ a := Nat.ne_of_lt (Nat.lt_of_lt_of_le f_92.lt (Nat.le_of_eq g_101.symm))
  have ne_mb_a : mb ≠ a := Nat.ne_of_lt (Nat.lt_of_lt_of_le f_95.lt (Nat.le_of_eq g_101.symm))
  have ne_ca_a : ca ≠ a := Nat.ne_of_lt (Nat.lt_of_lt_of_le f_100.lt (Nat.le_of_eq g_101.symm))
  have g_a : n0 ≤ a := Nat.le_trans z_97 (Nat.le_of_eq g_101.symm)
  have f_102 : Safe Z consts_1 T_1.vm h_88 a := Safe.new (Nat.le_of_eq g_101.symm)
  have pre_101 : Rch p.tables e below (s₁.setTop (entryFrame m #[(.int p0), (.int p1), (.int p2), (.int p3)] maxLocals)) (T_101.setTop (mkF m 362 #[.val (.int p0), .val (.int p1), .val (.int p2), .val (.int p3), .val (.ref ms), .val (.int st), .val (.int co), .val (.int kd), .val (.int (Int32.ofNat pn)), .val (.int (Int32.ofNat qn)), .val (.int ap), .val (.int xx), .val (.int c0), .val (.int c1), .val (.int yd), .val (.ref ca), .unset, .unset, .unset, .unset, .unset, .unset] [(.ref a)])) := fun tgt ktg => pre_88 tgt (st_101 tgt ktg)
  have C_103 : CHr Z consts_1 s.vm h0 T_1.vm h_101 := C_89.trans (CHr.ext E_101 C_89.1)
  have hk_103 := Nat.le_trans hk_89 E_101.1
  have f_104 : Sta Z h_101 "java/lang/String" "COMPACT_STRINGS" "Z" (.int cs) := f_90.ext E_101
  have f_105 : Sta Z h_101 "jdk/internal/util/Preconditions" "SIOOBE_FORMATTER" "Ljava/util/function/BiFunction;" u := f_91.ext E_101
  have f_106 : Exa Z h_101 ms "java/lang/String" := f_92.ext E_101
  have f_107 : Fld Z h_101 ms "java/lang/String" "coder" "B" (.int (0 : Int32)) := f_93.ext E_101
  have f_108 : Fld Z h_101 ms "java/lang/String" "value" "[B" (.ref mb) := f_94.ext E_101
  have f_109 : Arv Z h_101 mb km .byte (36 : Int32) [(.int (60 : Int32)), (.int (115 : Int32)), (.int (111 : Int32)), (.int (97 : Int32)), (.int (112 : Int32)), (.int (58 : Int32)), (.int (86 : Int32)), (.int (97 : Int32)), (.int (108 : Int32)), (.int (117 : Int32)), (.int (101 : Int32)), (.int (62 : Int32)), (.int (115 : Int32)), (.int (111 : Int32)), (.int (97 : Int32)), (.int (112 : Int32)), (.int (58 : Int32)), (.int (83 : Int32)), (.int (101 : Int32)), (.int (110 : Int32)), (.int (100 : Int32)), (.int (101 : Int32)), (.int (114 : Int32)), (.int (60 : Int32)), (.int (47 : Int32)), (.int (115 : Int32)), (.int (111 : Int32)), (.int (97 : Int32)), (.int (112 : Int32)), (.int (58 : Int32)), (.int (86 : Int32)), (.int (97 : Int32)), (.int (108 : Int32)), (.int (117 : Int32)), (.int (101 : Int32)), (.int (62 : Int32))] (.int (0 : Int32)) := f_95.ext E_101
  have f_110 : Safe Z consts_1 T_1.vm h_101 ca := Safe.ext E_101 C_89.1 f_96
  have f_111 : Arv Z h_101 ca k_33 .char (38 : Int32) (((cl0 c0 c1).set (pn + 1) xx).map Value.int) (.int (0 : Int32)) := f_100.ext E_101
  have f_112 : Safe Z consts_1 T_1.vm h_101 a := Safe.ext E_101 C_89.1 f_102
  have z_113 : n0 ≤ h_101.size := Nat.le_trans z_97 E_101.1
  have f_114 : Exa Z h_101 a "java/lang/String" := A_101
  have f_115 : Fld Z h_101 a "java/lang/String" "value" "[B" .null := D_101 (Or.inr (hw _ (List.mem_of_getElem? (i := 8) rfl))) (ty := (.array .byte)) (by decide)
  have f_116 : Fld Z h_101 a "java/lang/String" "coder" "B" (.int (0 : Int32)) := D_101 (Or.inr (hw _ (List.mem_of_getElem? (i := 9) rfl))) (ty := .byte) (by decide)
  have pre_117 : Rch p.tables e below (s₁.setTop (entryFrame m #[(.int p0), (.int p1), (.int p2), (.int p3)] maxLocals)) (T_101.setTop (mkF m 365 #[.val (.int p0), .val (.int p1), .val (.int p2), .val (.int p3), .val (.ref ms), .val (.int st), .val (.int co), .val (.int kd), .val (.int (Int32.ofNat pn)), .val (.int (Int32.ofNat qn)), .val (.int ap), .val (.int xx), .val (.int c0), .val (.int c1), .val (.int yd), .val (.ref ca), .unset, .unset, .unset, .unset, .unset, .unset] [(.ref ca), (.ref a), (.ref a)])) := fun tgt ktg => pre_101 tgt (by
    show Steps p.tables e below (T_101.setTop (mkF m 362 #[.val (.int p0), .val (.int p1), .val (.int p2), .val (.int p3), .val (.ref ms), .val (.int st), .val (.int co), .val (.int kd), .val (.int (Int32.ofNat pn)), .val (.int (Int32.ofNat qn)), .val (.int ap), .val (.int xx), .val (.int c0), .val (.int c1), .val (.int yd), .val (.ref ca), .unset, .unset, .unset, .unset, .unset, .unset] [(.ref a)])) _
    refine XS.dup X_101.here hx rfl (hb hby at_362) rfl rfl ?_
    show Steps p.tables e below (T_101.setTop (mkF m 363 #[.val (.int p0), .val (.int p1), .val (.int p2), .val (.int p3), .val (.ref ms), .val (.int st), .val (.int co), .val (.int kd), .val (.int (Int32.ofNat pn)), .val (.int (Int32.ofNat qn)), .val (.int ap), .val (.int xx), .val (.int c0), .val (.int c1), .val (.int yd), .val (.ref ca), .unset, .unset, .unset, .unset, .unset, .unset] [(.ref a), (.ref a)])) _
    refine XS.aload X_101.here hx rfl (hb hby at_363) rfl rfl ?_
    exact ktg)
  obtain ⟨_, _, ⟨T_118, L_118, k_118, n_118⟩, -, X_118, ⟨Lc_118, hQ_118, l_118, y_118, z_118⟩, st_118⟩ := X_101.specialBack hx (y := (⟨"java/lang/String", "<init>", "([C)V"⟩ : MethodName)) rfl hown (mvT hZ (hw _ (List.mem_of_getElem? (i := 40) rfl))) (mvT hZ (hw _ (List.mem_of_getElem? (i := 41) rfl))) (mvT hZ (hw _ (List.mem_of_getElem? (i := 42) rfl))) (by decide) (backOf (W := 1) (rmsc l Z a0 hw [] a ca k_33 ((cl0 c0 c1).set (pn + 1) xx) h_101 n0 z_113 f_114 f_115 f_116 f_111 ne_ca_a g_a (own_cll _ _ _ _) (own_clq hc0.2 hc1.2 hxx.2) cs hcs f_104) hZ (hw _ (List.mem_of_getElem? (i := 42) rfl)) (hw _ (List.mem_of_getElem? (i := 5) rfl)) (by decide) (by decide)) (g := (mkF m 365 #[.val (.int p0), .val (.int p1), .val (.int p2), .val (.int p3), .val (.ref ms), .val (.int st), .val (.int co), .val (.int kd), .val (.int (Int32.ofNat pn)), .val (.int (Int32.ofNat qn)), .val (.int ap), .val (.int xx), .val (.int c0), .val (.int c1), .val (.int yd), .val (.ref ca), .unset, .unset, .unset, .unset, .unset, .unset] [(.ref ca), (.ref a), (.ref a)])) rfl (by rw [hml]; rfl) (Steps.refl _) (a := a) (argsL := [(.ref ca)]) (rest := [(.ref a)]) (lenOf pd_19 rfl) rfl (by show 2 * 0 + _ ≤ _; exact Nat.le_of_eq rfl) (hb hby at_365) (fun _ _ => ⟨rfl, e_101, (by decide : 4 + 1 ≤ _), (by decide : 190 + 38 ≤ _)⟩)
  dsimp only [Pt.U, Pt.locs, Pt.cells, Pt.slots] at X_118 l_118 y_118 z_118 st_118 hQ_118
  subst l_118 y_118 z_118
  obtain ⟨ba, kb, rfl, Nq_118, Kq_118, b1, b2, b3, b4⟩ := hQ_118
  have N_119 := Fr.app N_99 Nq_118
  have pre_118 : Rch p.tables e below (s₁.setTop (entryFrame m #[(.int p0), (.int p1), (.int p2), (.int p3)] maxLocals)) (T_118.setTop (mkF m 368 #[.val (.int p0), .val (.int p1), .val (.int p2), .val (.int p3), .val (.ref ms), .val (.int st), .val (.int co), .val (.int kd), .val (.int (Int32.ofNat pn)), .val (.int (Int32.ofNat qn)), .val (.int ap), .val (.int xx), .val (.int c0), .val (.int c1), .val (.int yd), .val (.ref ca), .unset, .unset, .unset, .unset, .unset, .unset] [(.ref a)])) := fun tgt ktg => pre_117 tgt (st_118.trans ktg)
  have C_120 : CHr Z consts_1 s.vm h0 T_1.vm T_118.heap := C_103.trans (CHr.keep Kq_118 (sfS f_112 sf0) C_103.1)
  have hk_120 := Nat.le_trans hk_103 Kq_118.1
  have f_121 : Sta Z T_118.heap "java/lang/String" "COMPACT_STRINGS" "Z" (.int cs) := own_sta_keep f_104 Kq_118 (nsS f_114.nostat ns0)
  have f_122 : Sta Z T_118.heap "jdk/internal/util/Preconditions" "SIOOBE_FORMATTER" "Ljava/util/function/BiFunction;" u := own_sta_keep f_105 Kq_118 (nsS f_114.nostat ns0)
  have f_123 : Exa Z T_118.heap ms "java/lang/String" := f_106.keep Kq_118
  have f_124 : Fld Z T_118.heap ms "java/lang/String" "coder" "B" (.int (0 : Int32)) := f_107.keep Kq_118 (ninS ne_ms_a nin0)
  have f_125 : Fld Z T_118.heap ms "java/lang/String" "value" "[B" (.ref mb) := f_108.keep Kq_118 (ninS ne_ms_a nin0)
  have f_126 : Arv Z T_118.heap mb km .byte (36 : Int32) [(.int (60 : Int32)), (.int (115 : Int32)), (.int (111 : Int32)), (.int (97 : Int32)), (.int (112 : Int32)), (.int (58 : Int32)), (.int (86 : Int32)), (.int (97 : Int32)), (.int (108 : Int32)), (.int (117 : Int32)), (.int (101 : Int32)), (.int (62 : Int32)), (.int (115 : Int32)), (.int (111 : Int32)), (.int (97 : Int32)), (.int (112 : Int32)), (.int (58 : Int32)), (.int (83 : Int32)), (.int (101 : Int32)), (.int (110 : Int32)), (.int (100 : Int32)), (.int (101 : Int32)), (.int (114 : Int32)), (.int (60 : Int32)), (.int (47 : Int32)), (.int (115 : Int32)), (.int (111 : Int32)), (.int (97 : Int32)), (.int (112 : Int32)), (.int (58 : Int32)), (.int (86 : Int32)), (.int (97 : Int32)), (.int (108 : Int32)), (.int (117 : Int32)), (.int (101 : Int32)), (.int (62 : Int32))] (.int (0 : Int32)) := f_109.keep Kq_118 (ninS ne_mb_a nin0)
  have f_127 : Safe Z consts_1 T_1.vm T_118.heap ca := Safe.keep Kq_118 (sfS f_112 sf0) C_103.1 f_110
  have f_128 : Arv Z T_118.heap ca k_33 .char (38 : Int32) (((cl0 c0 c1).set (pn + 1) xx).map Value.int) (.int (0 : Int32)) := f_111.keep Kq_118 (ninS ne_ca_a nin0)
  have f_129 : Safe Z consts_1 T_1.vm T_118.heap a := Safe.keep Kq_118 (sfS f_112 sf0) C_103.1 f_112
  have f_130 : Exa Z T_118.heap a "java/lang/String" := f_114.keep Kq_118
  have z_131 : n0 ≤ T_118.heap.size := Nat.le_trans z_113 Kq_118.1
  have pre_132 : Rch p.tables e below (s₁.setTop (entryFrame m #[(.int p0), (.int p1), (.int p2), (.int p3)] maxLocals)) (T_118.setTop (mkF m 374 #[.val (.int p0), .val (.int p1), .val (.int p2), .val (.int p3), .val (.ref ms), .val (.int st), .val (.int co), .val (.int kd), .val (.int (Int32.ofNat pn)), .val (.int (Int32.ofNat qn)), .val (.int ap), .val (.int xx), .val (.int c0), .val (.int c1), .val (.int yd), .val (.ref ca), .val (.ref a), .unset, .unset, .unset, .unset, .unset] [(.int ap), (.int xx)])) := fun tgt ktg => pre_118 tgt (by
    show Steps p.tables e below (T_118.setTop (mkF m 368 #[.val (.int p0), .val (.int p1), .val (.int p2), .val (.int p3), .val (.ref ms), .val (.int st), .val (.int co), .val (.int kd), .val (.int (Int32.ofNat pn)), .val (.int (Int32.ofNat qn)), .val (.int ap), .val (.int xx), .val (.int c0), .val (.int c1), .val (.int yd), .val (.ref ca), .unset, .unset, .unset, .unset, .unset, .unset] [(.ref a)])) _
    refine XS.astore X_118.here hx rfl (hb hby at_368) rfl rfl (l' := #[.val (.int p0), .val (.int p1), .val (.int p2), .val (.int p3), .val (.ref ms), .val (.int st), .val (.int co), .val (.int kd), .val (.int (Int32.ofNat pn)), .val (.int (Int32.ofNat qn)), .val (.int ap), .val (.int xx), .val (.int c0), .val (.int c1), .val (.int yd), .val (.ref ca), .val (.ref a), .unset, .unset, .unset, .unset, .unset]) rfl ?_
    show Steps p.tables e below (T_118.setTop (mkF m 370 #[.val (.int p0), .val (.int p1), .val (.int p2), .val (.int p3), .val (.ref ms), .val (.int st), .val (.int co), .val (.int kd), .val (.int (Int32.ofNat pn)), .val (.int (Int32.ofNat qn)), .val (.int ap), .val (.int xx), .val (.int c0), .val (.int c1), .val (.int yd), .val (.ref ca), .val (.ref a), .unset, .unset, .unset, .unset, .unset] [])) _
    refine XS.iload X_118.here hx rfl (hb hby at_370) rfl ?_
    show Steps p.tables e below (T_118.setTop (mkF m 372 #[.val (.int p0), .val (.int p1), .val (.int p2), .val (.int p3), .val (.ref ms), .val (.int st), .val (.int co), .val (.int kd), .val (.int (Int32.ofNat pn)), .val (.int (Int32.ofNat qn)), .val (.int ap), .val (.int xx), .val (.int c0), .val (.int c1), .val (.int yd), .val (.ref ca), .val (.ref a), .unset, .unset, .unset, .unset, .unset] [(.int xx)])) _
    refine XS.iload X_118.here hx rfl (hb hby at_372) rfl ?_
    exact ktg)
  obtain ⟨mi, hv_mi⟩ : ∃ nm_ : Int32, nm_ = (if xx = ap then (1 : Int32) else (0 : Int32)) := ⟨_, rfl⟩
  have pre_134 : Rch p.tables e below (s₁.setTop (entryFrame m #[(.int p0), (.int p1), (.int p2), (.int p3)] maxLocals)) (T_118.setTop (mkF m 382 #[.val (.int p0), .val (.int p1), .val (.int p2), .val (.int p3), .val (.ref ms), .val (.int st), .val (.int co), .val (.int kd), .val (.int (Int32.ofNat pn)), .val (.int (Int32.ofNat qn)), .val (.int ap), .val (.int xx), .val (.int c0), .val (.int c1), .val (.int yd), .val (.ref ca), .val (.ref a), .unset, .unset, .unset, .unset, .unset] [(.int mi)])) := fun tgt ktg => pre_132 tgt (by
    by_cases q_133 : xx = ap
    · skip
      show Steps p.tables e below (T_118.setTop (mkF m 374 #[.val (.int p0), .val (.int p1), .val (.int p2), .val (.int p3), .val (.ref ms), .val (.int st), .val (.int co), .val (.int kd), .val (.int (Int32.ofNat pn)), .val (.int (Int32.ofNat qn)), .val (.int ap), .val (.int xx), .val (.int c0), .val (.int c1), .val (.int yd), .val (.ref ca), .val (.ref a), .unset, .unset, .unset, .unset, .unset] [(.int ap), (.int xx)])) _
      refine XS.icmpNo X_118.here hx rfl (hb hby at_374) rfl (teq q_133).2 ?_
      show Steps p.tables e below (T_118.setTop (mkF m 377 #[.val (.int p0), .val (.int p1), .val (.int p2), .val (.int p3), .val (.ref ms), .val (.int st), .val (.int co), .val (.int kd), .val (.int (Int32.ofNat pn)), .val (.int (Int32.ofNat qn)), .val (.int ap), .val (.int xx), .val (.int c0), .val (.int c1), .val (.int yd), .val (.ref ca), .val (.ref a), .unset, .unset, .unset, .unset, .unset] [])) _
      refine XS.iconst X_118.here hx rfl (hb hby at_377) ?_
      show Steps p.tables e below (T_118.setTop (mkF m 378 #[.val (.int p0), .val (.int p1), .val (.int p2), .val (.int p3), .val (.ref ms), .val (.int st), .val (.int co), .val (.int kd), .val (.int (Int32.ofNat pn)), .val (.int (Int32.ofNat qn)), .val (.int ap), .val (.int xx), .val (.int c0), .val (.int c1), .val (.int yd), .val (.ref ca), .val (.ref a), .unset, .unset, .unset, .unset, .unset] [(.int (1 : Int32))])) _
      refine XS.goto X_118.here hx rfl (pc0 := 378) (pc' := 382) rfl (hb hby at_378) (by decide) (by decide) ?_
      have ev_mi : mi = (1 : Int32) := by rw [hv_mi, if_pos q_133]
      rw [ev_mi] at ktg
      exact ktg
    · skip
      show Steps p.tables e below (T_118.setTop (mkF m 374 #[.val (.int p0), .val (.int p1), .val (.int p2), .val (.int p3), .val (.ref ms), .val (.int st), .val (.int co), .val (.int kd), .val (.int (Int32.ofNat pn)), .val (.int (Int32.ofNat qn)), .val (.int ap), .val (.int xx), .val (.int c0), .val (.int c1), .val (.int yd), .val (.ref ca), .val (.ref a), .unset, .unset, .unset, .unset, .unset] [(.int ap), (.int xx)])) _
      refine XS.icmpYes X_118.here hx rfl (pc0 := 374) (pc' := 381) rfl (hb hby at_374) rfl (feq q_133).2 (by decide) (by decide) ?_
      show Steps p.tables e below (T_118.setTop (mkF m 381 #[.val (.int p0), .val (.int p1), .val (.int p2), .val (.int p3), .val (.ref ms), .val (.int st), .val (.int co), .val (.int kd), .val (.int (Int32.ofNat pn)), .val (.int (Int32.ofNat qn)), .val (.int ap), .val (.int xx), .val (.int c0), .val (.int c1), .val (.int yd), .val (.ref ca), .val (.ref a), .unset, .unset, .unset, .unset, .unset] [])) _
      refine XS.iconst X_118.here hx rfl (hb hby at_381) ?_
      have ev_mi : mi = (0 : Int32) := by rw [hv_mi, if_neg q_133]
      rw [ev_mi] at ktg
      exact ktg
    done)
  have pre_135 : Rch p.tables e below (s₁.setTop (entryFrame m #[(.int p0), (.int p1), (.int p2), (.int p3)] maxLocals)) (T_118.setTop (mkF m 387 #[.val (.int p0), .val (.int p1), .val (.int p2), .val (.int p3), .val (.ref ms), .val (.int st), .val (.int co), .val (.int kd), .val (.int (Int32.ofNat pn)), .val (.int (Int32.ofNat qn)), .val (.int ap), .val (.int xx), .val (.int c0), .val (.int c1), .val (.int yd), .val (.ref ca), .val (.ref a), .val (.int mi), .unset, .unset, .unset, .unset] [(.int (1 : Int32)), (.int kd)])) := fun tgt ktg => pre_134 tgt (by
    show Steps p.tables e below (T_118.setTop (mkF m 382 #[.val (.int p0), .val (.int p1), .val (.int p2), .val (.int p3), .val (.ref ms), .val (.int st), .val (.int co), .val (.int kd), .val (.int (Int32.ofNat pn)), .val (.int (Int32.ofNat qn)), .val (.int ap), .val (.int xx), .val (.int c0), .val (.int c1), .val (.int yd), .val (.ref ca), .val (.ref a), .unset, .unset, .unset, .unset, .unset] [(.int mi)])) _
    refine XS.istore X_118.here hx rfl (hb hby at_382) rfl (l' := #[.val (.int p0), .val (.int p1), .val (.int p2), .val (.int p3), .val (.ref ms), .val (.int st), .val (.int co), .val (.int kd), .val (.int (Int32.ofNat pn)), .val (.int (Int32.ofNat qn)), .val (.int ap), .val (.int xx), .val (.int c0), .val (.int c1), .val (.int yd), .val (.ref ca), .val (.ref a), .val (.int mi), .unset, .unset, .unset, .unset]) rfl ?_
    show Steps p.tables e below (T_118.setTop (mkF m 384 #[.val (.int p0), .val (.int p1), .val (.int p2), .val (.int p3), .val (.ref ms), .val (.int st), .val (.int co), .val (.int kd), .val (.int (Int32.ofNat pn)), .val (.int (Int32.ofNat qn)), .val (.int ap), .val (.int xx), .val (.int c0), .val (.int c1), .val (.int yd), .val (.ref ca), .val (.ref a), .val (.int mi), .unset, .unset, .unset, .unset] [])) _
    refine XS.iload X_118.here hx rfl (hb hby at_384) rfl ?_
    show Steps p.tables e below (T_118.setTop (mkF m 386 #[.val (.int p0), .val (.int p1), .val (.int p2), .val (.int p3), .val (.ref ms), .val (.int st), .val (.int co), .val (.int kd), .val (.int (Int32.ofNat pn)), .val (.int (Int32.ofNat qn)), .val (.int ap), .val (.int xx), .val (.int c0), .val (.int c1), .val (.int yd), .val (.ref ca), .val (.ref a), .val (.int mi), .unset, .unset, .unset, .unset] [(.int kd)])) _
    refine XS.iconst X_118.here hx rfl (hb hby at_386) ?_
    exact ktg)
  have J_136 : ∃ (V' : Vm) (K' : Nat) (T' : State) (h' : Heap) (L' : List Loc) (rs : Addr) (rb : Addr) (kr : ClassId) (rz : Nat) (rin : Int32) (ts : List Int32) (s20 : Slot), Stand p l e room_1 (s.setVm V') m #[(.int p0), (.int p1), (.int p2), (.int p3)] below meth c T' L' 7 264 ∧ T'.heap = h' ∧ Fr n0 L' ∧ n0 ≤ h'.size ∧ s.Since V' K' ∧ K' ≤ h'.size ∧ Z.Warmed39 (s.setVm V').vm ∧ (s.setVm V').vm.findClass "ResponseIsSenderFaultPinLaw" = some m.cls ∧ CHr Z consts_1 s.vm h0 V' h' ∧ (Exa Z h' a "java/lang/String") ∧ (Fld Z h' a "java/lang/String" "coder" "B" (.int (0 : Int32))) ∧ (Fld Z h' a "java/lang/String" "value" "[B" (.ref ba)) ∧ (Arv Z h' ba kb .byte (38 : Int32) ((bl ((cl0 c0 c1).set (pn + 1) xx)).map Value.int) (.int (0 : Int32))) ∧ (Sta Z h' "java/lang/String" "COMPACT_STRINGS" "Z" (.int cs)) ∧ (Exa Z h' rs "java/lang/String") ∧ (Fld Z h' rs "java/lang/String" "coder" "B" (.int (0 : Int32))) ∧ (Fld Z h' rs "java/lang/String" "value" "[B" (.ref rb)) ∧ (Arv Z h' rb kr .byte (Int32.ofNat rz) (ts.map Value.int) (.int (0 : Int32))) ∧ (rz ≤ 38 ∧ ts.length = rz) ∧ (xx = ap → (Has (bl ((cl0 c0 c1).set (pn + 1) xx)) ts ↔ ¬ rin = 0)) ∧ (Pl s20) ∧ Rch p.tables e below (s₁.setTop (entryFrame m #[(.int p0), (.int p1), (.int p2), (.int p3)] maxLocals)) (T'.setTop (mkF m 551 #[.val (.int p0), .val (.int p1), .val (.int p2), .val (.int p3), .val (.ref ms), .val (.int st), .val (.int co), .val (.int kd), .val (.int (Int32.ofNat pn)), .val (.int (Int32.ofNat qn)), .val (.int ap), .val (.int xx), .val (.int c0), .val (.int c1), .val (.int yd), .val (.ref ca), .val (.ref a), .val (.int mi), .val (.ref rs), .val (.int rin), s20, .unset] [])) := by
    by_cases c_137 : kd = (1 : Int32)
    · skip
      have pre_138 : Rch p.tables e below (s₁.setTop (entryFrame m #[(.int p0), (.int p1), (.int p2), (.int p3)] maxLocals)) (T_118.setTop (mkF m 390 #[.val (.int p0), .val (.int p1), .val (.int p2), .val (.int p3), .val (.ref ms), .val (.int st), .val (.int co), .val (.int kd), .val (.int (Int32.ofNat pn)), .val (.int (Int32.ofNat qn)), .val (.int ap), .val (.int xx), .val (.int c0), .val (.int c1), .val (.int yd), .val (.ref ca), .val (.ref a), .val (.int mi), .unset, .unset, .unset, .unset] [])) := fun tgt ktg => pre_135 tgt (by
        show Steps p.tables e below (T_118.setTop (mkF m 387 #[.val (.int p0), .val (.int p1), .val (.int p2), .val (.int p3), .val (.ref ms), .val (.int st), .val (.int co), .val (.int kd), .val (.int (Int32.ofNat pn)), .val (.int (Int32.ofNat qn)), .val (.int ap), .val (.int xx), .val (.int c0), .val (.int c1), .val (.int yd), .val (.ref ca), .val (.ref a), .val (.int mi), .unset, .unset, .unset, .unset] [(.int (1 : Int32)), (.int kd)])) _
        refine XS.icmpNo X_118.here hx rfl (hb hby at_387) rfl (teq c_137).2 ?_
        exact ktg)
      have pre_139 : Rch p.tables e below (s₁.setTop (entryFrame m #[(.int p0), (.int p1), (.int p2), (.int p3)] maxLocals)) (T_118.setTop (mkF m 392 #[.val (.int p0), .val (.int p1), .val (.int p2), .val (.int p3), .val (.ref ms), .val (.int st), .val (.int co), .val (.int kd), .val (.int (Int32.ofNat pn)), .val (.int (Int32.ofNat qn)), .val (.int ap), .val (.int xx), .val (.int c0), .val (.int c1), .val (.int yd), .val (.ref ca), .val (.ref a), .val (.int mi), .unset, .unset, .unset, .unset] [(.int yd)])) := fun tgt ktg => pre_138 tgt (by
        show Steps p.tables e below (T_118.setTop (mkF m 390 #[.val (.int p0), .val (.int p1), .val (.int p2), .val (.int p3), .val (.ref ms), .val (.int st), .val (.int co), .val (.int kd), .val (.int (Int32.ofNat pn)), .val (.int (Int32.ofNat qn)), .val (.int ap), .val (.int xx), .val (.int c0), .val (.int c1), .val (.int yd), .val (.ref ca), .val (.ref a), .val (.int mi), .unset, .unset, .unset, .unset] [])) _
        refine XS.iload X_118.here hx rfl (hb hby at_390) rfl ?_
        exact ktg)
      obtain ⟨_, _, ⟨T_140, L_140, k_140, n_140⟩, -, X_140, ⟨Lc_140, hQ_140, l_140, y_140, z_140⟩, st_140⟩ := Jvm.LawKit.callS X_118 hx (y := (⟨"java/lang/String", "valueOf", "(C)Ljava/lang/String;"⟩ : MethodName)) hown (mvT hZ (hw _ (List.mem_of_getElem? (i := 113) rfl))) (mvT hZ (hw _ (List.mem_of_getElem? (i := 114) rfl))) (mvT hZ (hw _ (List.mem_of_getElem? (i := 5) rfl))) (mvT hZ (hw _ (List.mem_of_getElem? (i := 115) rfl))) (by decide) (backOf (W := 0) (rmvo l Z a0 hw [] yd T_118.heap n0 z_131 hyd.2 cs hcs f_121) hZ (hw _ (List.mem_of_getElem? (i := 115) rfl)) (hw _ (List.mem_of_getElem? (i := 5) rfl)) (by decide) (by decide)) (g := (mkF m 392 #[.val (.int p0), .val (.int p1), .val (.int p2), .val (.int p3), .val (.ref ms), .val (.int st), .val (.int co), .val (.int kd), .val (.int (Int32.ofNat pn)), .val (.int (Int32.ofNat qn)), .val (.int ap), .val (.int xx), .val (.int c0), .val (.int c1), .val (.int yd), .val (.ref ca), .val (.ref a), .val (.int mi), .unset, .unset, .unset, .unset] [(.int yd)])) rfl (by rw [hml]; rfl) (argsL := [(.int yd)]) (rest := []) (lenOf pd_20 rfl) rfl (by show 2 * 0 + _ ≤ _; exact Nat.le_of_eq rfl) (hb hby at_392) (fun _ _ => ⟨rfl, rfl, (by decide : 5 + 2 ≤ _), (by decide : 228 + 5 ≤ _)⟩)
      dsimp only [Pt.U, Pt.locs, Pt.cells, Pt.slots] at X_140 l_140 y_140 z_140 st_140 hQ_140
      subst l_140 y_140 z_140
      obtain ⟨vs, vb, kv, rfl, Nq_140, Kq_140, v1, v2, v3, v4⟩ := hQ_140
      have N_141 := Fr.app N_119 Nq_140
      have pre_140 : Rch p.tables e below (s₁.setTop (entryFrame m #[(.int p0), (.int p1), (.int p2), (.int p3)] maxLocals)) (T_140.setTop (mkF m 395 #[.val (.int p0), .val (.int p1), .val (.int p2), .val (.int p3), .val (.ref ms), .val (.int st), .val (.int co), .val (.int kd), .val (.int (Int32.ofNat pn)), .val (.int (Int32.ofNat qn)), .val (.int ap), .val (.int xx), .val (.int c0), .val (.int c1), .val (.int yd), .val (.ref ca), .val (.ref a), .val (.int mi), .unset, .unset, .unset, .unset] [(.ref vs)])) := fun tgt ktg => pre_139 tgt (st_140 tgt ktg)
      have C_142 : CHr Z consts_1 s.vm h0 T_1.vm T_140.heap := C_120.trans (CHr.keep Kq_140 sf0 C_120.1)
      have hk_142 := Nat.le_trans hk_120 Kq_140.1
      have f_143 : Sta Z T_140.heap "java/lang/String" "COMPACT_STRINGS" "Z" (.int cs) := own_sta_keep f_121 Kq_140 ns0
      have f_144 : Sta Z T_140.heap "jdk/internal/util/Preconditions" "SIOOBE_FORMATTER" "Ljava/util/function/BiFunction;" u := own_sta_keep f_122 Kq_140 ns0
      have f_145 : Exa Z T_140.heap ms "java/lang/String" := f_123.keep Kq_140
      have f_146 : Fld Z T_140.heap ms "java/lang/String" "coder" "B" (.int (0 : Int32)) := f_124.keep Kq_140 nin0
      have f_147 : Fld Z T_140.heap ms "java/lang/String" "value" "[B" (.ref mb) := f_125.keep Kq_140 nin0
      have f_148 : Arv Z T_140.heap mb km .byte (36 : Int32) [(.int (60 : Int32)), (.int (115 : Int32)), (.int (111 : Int32)), (.int (97 : Int32)), (.int (112 : Int32)), (.int (58 : Int32)), (.int (86 : Int32)), (.int (97 : Int32)), (.int (108 : Int32)), (.int (117 : Int32)), (.int (101 : Int32)), (.int (62 : Int32)), (.int (115 : Int32)), (.int (111 : Int32)), (.int (97 : Int32)), (.int (112 : Int32)), (.int (58 : Int32)), (.int (83 : Int32)), (.int (101 : Int32)), (.int (110 : Int32)), (.int (100 : Int32)), (.int (101 : Int32)), (.int (114 : Int32)), (.int (60 : Int32)), (.int (47 : Int32)), (.int (115 : Int32)), (.int (111 : Int32)), (.int (97 : Int32)), (.int (112 : Int32)), (.int (58 : Int32)), (.int (86 : Int32)), (.int (97 : Int32)), (.int (108 : Int32)), (.int (117 : Int32)), (.int (101 : Int32)), (.int (62 : Int32))] (.int (0 : Int32)) := f_126.keep Kq_140 nin0
      have f_149 : Exa Z T_140.heap a "java/lang/String" := b1.keep Kq_140
      have f_150 : Fld Z T_140.heap a "java/lang/String" "coder" "B" (.int (0 : Int32)) := b2.keep Kq_140 nin0
      have f_151 : Fld Z T_140.heap a "java/lang/String" "value" "[B" (.ref ba) := b3.keep Kq_140 nin0
      have f_152 : Arv Z T_140.heap ba kb .byte (38 : Int32) ((bl ((cl0 c0 c1).set (pn + 1) xx)).map Value.int) (.int (0 : Int32)) := b4.keep Kq_140 nin0
      have z_153 : n0 ≤ T_140.heap.size := Nat.le_trans z_131 Kq_140.1
      have pre_154 : Rch p.tables e below (s₁.setTop (entryFrame m #[(.int p0), (.int p1), (.int p2), (.int p3)] maxLocals)) (T_140.setTop (mkF m 407 #[.val (.int p0), .val (.int p1), .val (.int p2), .val (.int p3), .val (.ref ms), .val (.int st), .val (.int co), .val (.int kd), .val (.int (Int32.ofNat pn)), .val (.int (Int32.ofNat qn)), .val (.int ap), .val (.int xx), .val (.int c0), .val (.int c1), .val (.int yd), .val (.ref ca), .val (.ref a), .val (.int mi), .val (.ref vs), .unset, .unset, .unset] [(.int ap), (.int xx), (.int c1), (.int c0), (.int yd)])) := fun tgt ktg => pre_140 tgt (by
        show Steps p.tables e below (T_140.setTop (mkF m 395 #[.val (.int p0), .val (.int p1), .val (.int p2), .val (.int p3), .val (.ref ms), .val (.int st), .val (.int co), .val (.int kd), .val (.int (Int32.ofNat pn)), .val (.int (Int32.ofNat qn)), .val (.int ap), .val (.int xx), .val (.int c0), .val (.int c1), .val (.int yd), .val (.ref ca), .val (.ref a), .val (.int mi), .unset, .unset, .unset, .unset] [(.ref vs)])) _
        refine XS.astore X_140.here hx rfl (hb hby at_395) rfl rfl (l' := #[.val (.int p0), .val (.int p1), .val (.int p2), .val (.int p3), .val (.ref ms), .val (.int st), .val (.int co), .val (.int kd), .val (.int (Int32.ofNat pn)), .val (.int (Int32.ofNat qn)), .val (.int ap), .val (.int xx), .val (.int c0), .val (.int c1), .val (.int yd), .val (.ref ca), .val (.ref a), .val (.int mi), .val (.ref vs), .unset, .unset, .unset]) rfl ?_
        show Steps p.tables e below (T_140.setTop (mkF m 397 #[.val (.int p0), .val (.int p1), .val (.int p2), .val (.int p3), .val (.ref ms), .val (.int st), .val (.int co), .val (.int kd), .val (.int (Int32.ofNat pn)), .val (.int (Int32.ofNat qn)), .val (.int ap), .val (.int xx), .val (.int c0), .val (.int c1), .val (.int yd), .val (.ref ca), .val (.ref a), .val (.int mi), .val (.ref vs), .unset, .unset, .unset] [])) _
        refine XS.iload X_140.here hx rfl (hb hby at_397) rfl ?_
        show Steps p.tables e below (T_140.setTop (mkF m 399 #[.val (.int p0), .val (.int p1), .val (.int p2), .val (.int p3), .val (.ref ms), .val (.int st), .val (.int co), .val (.int kd), .val (.int (Int32.ofNat pn)), .val (.int (Int32.ofNat qn)), .val (.int ap), .val (.int xx), .val (.int c0), .val (.int c1), .val (.int yd), .val (.ref ca), .val (.ref a), .val (.int mi), .val (.ref vs), .unset, .unset, .unset] [(.int yd)])) _
        refine XS.iload X_140.here hx rfl (hb hby at_399) rfl ?_
        show Steps p.tables e below (T_140.setTop (mkF m 401 #[.val (.int p0), .val (.int p1), .val (.int p2), .val (.int p3), .val (.ref ms), .val (.int st), .val (.int co), .val (.int kd), .val (.int (Int32.ofNat pn)), .val (.int (Int32.ofNat qn)), .val (.int ap), .val (.int xx), .val (.int c0), .val (.int c1), .val (.int yd), .val (.ref ca), .val (.ref a), .val (.int mi), .val (.ref vs), .unset, .unset, .unset] [(.int c0), (.int yd)])) _
        refine XS.iload X_140.here hx rfl (hb hby at_401) rfl ?_
        show Steps p.tables e below (T_140.setTop (mkF m 403 #[.val (.int p0), .val (.int p1), .val (.int p2), .val (.int p3), .val (.ref ms), .val (.int st), .val (.int co), .val (.int kd), .val (.int (Int32.ofNat pn)), .val (.int (Int32.ofNat qn)), .val (.int ap), .val (.int xx), .val (.int c0), .val (.int c1), .val (.int yd), .val (.ref ca), .val (.ref a), .val (.int mi), .val (.ref vs), .unset, .unset, .unset] [(.int c1), (.int c0), (.int yd)])) _
        refine XS.iload X_140.here hx rfl (hb hby at_403) rfl ?_
        show Steps p.tables e below (T_140.setTop (mkF m 405 #[.val (.int p0), .val (.int p1), .val (.int p2), .val (.int p3), .val (.ref ms), .val (.int st), .val (.int co), .val (.int kd), .val (.int (Int32.ofNat pn)), .val (.int (Int32.ofNat qn)), .val (.int ap), .val (.int xx), .val (.int c0), .val (.int c1), .val (.int yd), .val (.ref ca), .val (.ref a), .val (.int mi), .val (.ref vs), .unset, .unset, .unset] [(.int xx), (.int c1), (.int c0), (.int yd)])) _
        refine XS.iload X_140.here hx rfl (hb hby at_405) rfl ?_
        exact ktg)
      obtain ⟨_, _, ⟨T_155, L_155, k_155, n_155⟩, -, X_155, ⟨Lc_155, hQ_155, l_155, y_155, z_155⟩, st_155⟩ := Jvm.LawKit.callS X_140 hx (y := (⟨"ResponseIsSenderFaultPinLaw", "hasChar", "(CCCCC)Z"⟩ : MethodName)) hown (mvT hZ (hw _ (List.mem_of_getElem? (i := 126) rfl))) (mvT hZ (hw _ (List.mem_of_getElem? (i := 127) rfl))) (mvT hZ (hw _ (List.mem_of_getElem? (i := 2) rfl))) (mvT hZ (hw _ (List.mem_of_getElem? (i := 128) rfl))) (by decide) (backOf (W := 0) (rmhc l Z a0 hw [] yd c0 c1 xx ap T_140.heap n0 z_153) hZ (hw _ (List.mem_of_getElem? (i := 128) rfl)) (hw _ (List.mem_of_getElem? (i := 2) rfl)) (by decide) (by decide)) (g := (mkF m 407 #[.val (.int p0), .val (.int p1), .val (.int p2), .val (.int p3), .val (.ref ms), .val (.int st), .val (.int co), .val (.int kd), .val (.int (Int32.ofNat pn)), .val (.int (Int32.ofNat qn)), .val (.int ap), .val (.int xx), .val (.int c0), .val (.int c1), .val (.int yd), .val (.ref ca), .val (.ref a), .val (.int mi), .val (.ref vs), .unset, .unset, .unset] [(.int ap), (.int xx), (.int c1), (.int c0), (.int yd)])) rfl (by rw [hml]; rfl) (argsL := [(.int yd), (.int c0), (.int c1), (.int xx), (.int ap)]) (rest := []) (lenOf pd_21 rfl) rfl (by show 2 * 0 + _ ≤ _; exact Nat.le_of_eq rfl) (hb hby at_407) (fun _ _ => ⟨rfl, rfl, (by decide : 7 + 0 ≤ _), (by decide : 233 + 0 ≤ _)⟩)
      dsimp only [Pt.U, Pt.locs, Pt.cells, Pt.slots] at X_155 l_155 y_155 z_155 st_155 hQ_155
      subst l_155 y_155 z_155
      obtain ⟨rfl, Nq_155, eh_155⟩ := hQ_155
      have N_156 := Fr.app N_141 Nq_155
      have pre_155 : Rch p.tables e below (s₁.setTop (entryFrame m #[(.int p0), (.int p1), (.int p2), (.int p3)] maxLocals)) (T_155.setTop (mkF m 410 #[.val (.int p0), .val (.int p1), .val (.int p2), .val (.int p3), .val (.ref ms), .val (.int st), .val (.int co), .val (.int kd), .val (.int (Int32.ofNat pn)), .val (.int (Int32.ofNat qn)), .val (.int ap), .val (.int xx), .val (.int c0), .val (.int c1), .val (.int yd), .val (.ref ca), .val (.ref a), .val (.int mi), .val (.ref vs), .unset, .unset, .unset] [(.int (hch yd c0 c1 xx ap))])) := fun tgt ktg => pre_154 tgt (st_155 tgt ktg)
      have pre_157 : Rch p.tables e below (s₁.setTop (entryFrame m #[(.int p0), (.int p1), (.int p2), (.int p3)] maxLocals)) (T_155.setTop (mkF m 551 #[.val (.int p0), .val (.int p1), .val (.int p2), .val (.int p3), .val (.ref ms), .val (.int st), .val (.int co), .val (.int kd), .val (.int (Int32.ofNat pn)), .val (.int (Int32.ofNat qn)), .val (.int ap), .val (.int xx), .val (.int c0), .val (.int c1), .val (.int yd), .val (.ref ca), .val (.ref a), .val (.int mi), .val (.ref vs), .val (.int (hch yd c0 c1 xx ap)), .unset, .unset] [])) := fun tgt ktg => pre_155 tgt (by
        show Steps p.tables e below (T_155.setTop (mkF m 410 #[.val (.int p0), .val (.int p1), .val (.int p2), .val (.int p3), .val (.ref ms), .val (.int st), .val (.int co), .val (.int kd), .val (.int (Int32.ofNat pn)), .val (.int (Int32.ofNat qn)), .val (.int ap), .val (.int xx), .val (.int c0), .val (.int c1), .val (.int yd), .val (.ref ca), .val (.ref a), .val (.int mi), .val (.ref vs), .unset, .unset, .unset] [(.int (hch yd c0 c1 xx ap))])) _
        refine XS.istore X_155.here hx rfl (hb hby at_410) rfl (l' := #[.val (.int p0), .val (.int p1), .val (.int p2), .val (.int p3), .val (.ref ms), .val (.int st), .val (.int co), .val (.int kd), .val (.int (Int32.ofNat pn)), .val (.int (Int32.ofNat qn)), .val (.int ap), .val (.int xx), .val (.int c0), .val (.int c1), .val (.int yd), .val (.ref ca), .val (.ref a), .val (.int mi), .val (.ref vs), .val (.int (hch yd c0 c1 xx ap)), .unset, .unset]) rfl ?_
        show Steps p.tables e below (T_155.setTop (mkF m 412 #[.val (.int p0), .val (.int p1), .val (.int p2), .val (.int p3), .val (.ref ms), .val (.int st), .val (.int co), .val (.int kd), .val (.int (Int32.ofNat pn)), .val (.int (Int32.ofNat qn)), .val (.int ap), .val (.int xx), .val (.int c0), .val (.int c1), .val (.int yd), .val (.ref ca), .val (.ref a), .val (.int mi), .val (.ref vs), .val (.int (hch yd c0 c1 xx ap)), .unset, .unset] [])) _
        refine XS.goto X_155.here hx rfl (pc0 := 412) (pc' := 551) rfl (hb hby at_412) (by decide) (by decide) ?_
        exact ktg)
      exact ⟨T_1.vm, _, T_155, T_140.heap, _, vs, vb, kv, 1, (hch yd c0 c1 xx ap), [(yd.toInt8.toInt32)], .unset, X_155.more (by decide) (by decide), eh_155, N_156, z_153, hS_1, hk_142, hZ, hown, C_142, f_149, f_150, f_151, f_152, f_143, v1, v2, v3, v4, ⟨by decide, rfl⟩, (fun hxa => own_k1 hpn eap hc0 hc1 hyd hxa), Or.inl rfl, pre_157⟩
    · skip
      have pre_158 : Rch p.tables e below (s₁.setTop (entryFrame m #[(.int p0), (.int p1), (.int p2), (.int p3)] maxLocals)) (T_118.setTop (mkF m 415 #[.val (.int p0), .val (.int p1), .val (.int p2), .val (.int p3), .val (.ref ms), .val (.int st), .val (.int co), .val (.int kd), .val (.int (Int32.ofNat pn)), .val (.int (Int32.ofNat qn)), .val (.int ap), .val (.int xx), .val (.int c0), .val (.int c1), .val (.int yd), .val (.ref ca), .val (.ref a), .val (.int mi), .unset, .unset, .unset, .unset] [])) := fun tgt ktg => pre_135 tgt (by
        show Steps p.tables e below (T_118.setTop (mkF m 387 #[.val (.int p0), .val (.int p1), .val (.int p2), .val (.int p3), .val (.ref ms), .val (.int st), .val (.int co), .val (.int kd), .val (.int (Int32.ofNat pn)), .val (.int (Int32.ofNat qn)), .val (.int ap), .val (.int xx), .val (.int c0), .val (.int c1), .val (.int yd), .val (.ref ca), .val (.ref a), .val (.int mi), .unset, .unset, .unset, .unset] [(.int (1 : Int32)), (.int kd)])) _
        refine XS.icmpYes X_118.here hx rfl (pc0 := 387) (pc' := 415) rfl (hb hby at_387) rfl (feq c_137).2 (by decide) (by decide) ?_
        exact ktg)
      have pre_159 : Rch p.tables e below (s₁.setTop (entryFrame m #[(.int p0), (.int p1), (.int p2), (.int p3)] maxLocals)) (T_118.setTop (mkF m 418 #[.val (.int p0), .val (.int p1), .val (.int p2), .val (.int p3), .val (.ref ms), .val (.int st), .val (.int co), .val (.int kd), .val (.int (Int32.ofNat pn)), .val (.int (Int32.ofNat qn)), .val (.int ap), .val (.int xx), .val (.int c0), .val (.int c1), .val (.int yd), .val (.ref ca), .val (.ref a), .val (.int mi), .unset, .unset, .unset, .unset] [(.int (2 : Int32)), (.int kd)])) := fun tgt ktg => pre_158 tgt (by
        show Steps p.tables e below (T_118.setTop (mkF m 415 #[.val (.int p0), .val (.int p1), .val (.int p2), .val (.int p3), .val (.ref ms), .val (.int st), .val (.int co), .val (.int kd), .val (.int (Int32.ofNat pn)), .val (.int (Int32.ofNat qn)), .val (.int ap), .val (.int xx), .val (.int c0), .val (.int c1), .val (.int yd), .val (.ref ca), .val (.ref a), .val (.int mi), .unset, .unset, .unset, .unset] [])) _
        refine XS.iload X_118.here hx rfl (hb hby at_415) rfl ?_
        show Steps p.tables e below (T_118.setTop (mkF m 417 #[.val (.int p0), .val (.int p1), .val (.int p2), .val (.int p3), .val (.ref ms), .val (.int st), .val (.int co), .val (.int kd), .val (.int (Int32.ofNat pn)), .val (.int (Int32.ofNat qn)), .val (.int ap), .val (.int xx), .val (.int c0), .val (.int c1), .val (.int yd), .val (.ref ca), .val (.ref a), .val (.int mi), .unset, .unset, .unset, .unset] [(.int kd)])) _
        refine XS.iconst X_118.here hx rfl (hb hby at_417) ?_
        exact ktg)
      by_cases c_160 : kd = (2 : Int32)
      · skip
        have pre_161 : Rch p.tables e below (s₁.setTop (entryFrame m #[(.int p0), (.int p1), (.int p2), (.int p3)] maxLocals)) (T_118.setTop (mkF m 421 #[.val (.int p0), .val (.int p1), .val (.int p2), .val (.int p3), .val (.ref ms), .val (.int st), .val (.int co), .val (.int kd), .val (.int (Int32.ofNat pn)), .val (.int (Int32.ofNat qn)), .val (.int ap), .val (.int xx), .val (.int c0), .val (.int c1), .val (.int yd), .val (.ref ca), .val (.ref a), .val (.int mi), .unset, .unset, .unset, .unset] [])) := fun tgt ktg => pre_159 tgt (by
          show Steps p.tables e below (T_118.setTop (mkF m 418 #[.val (.int p0), .val (.int p1), .val (.int p2), .val (.int p3), .val (.ref ms), .val (.int st), .val (.int co), .val (.int kd), .val (.int (Int32.ofNat pn)), .val (.int (Int32.ofNat qn)), .val (.int ap), .val (.int xx), .val (.int c0), .val (.int c1), .val (.int yd), .val (.ref ca), .val (.ref a), .val (.int mi), .unset, .unset, .unset, .unset] [(.int (2 : Int32)), (.int kd)])) _
          refine XS.icmpNo X_118.here hx rfl (hb hby at_418) rfl (teq c_160).2 ?_
          exact ktg)
        have pre_162 : Rch p.tables e below (s₁.setTop (entryFrame m #[(.int p0), (.int p1), (.int p2), (.int p3)] maxLocals)) (T_118.setTop (mkF m 425 #[.val (.int p0), .val (.int p1), .val (.int p2), .val (.int p3), .val (.ref ms), .val (.int st), .val (.int co), .val (.int kd), .val (.int (Int32.ofNat pn)), .val (.int (Int32.ofNat qn)), .val (.int ap), .val (.int xx), .val (.int c0), .val (.int c1), .val (.int yd), .val (.ref ca), .val (.ref a), .val (.int mi), .unset, .unset, .unset, .unset] [(.int (Int32.ofNat qn)), (.ref ms)])) := fun tgt ktg => pre_161 tgt (by
          show Steps p.tables e below (T_118.setTop (mkF m 421 #[.val (.int p0), .val (.int p1), .val (.int p2), .val (.int p3), .val (.ref ms), .val (.int st), .val (.int co), .val (.int kd), .val (.int (Int32.ofNat pn)), .val (.int (Int32.ofNat qn)), .val (.int ap), .val (.int xx), .val (.int c0), .val (.int c1), .val (.int yd), .val (.ref ca), .val (.ref a), .val (.int mi), .unset, .unset, .unset, .unset] [])) _
          refine XS.aload X_118.here hx rfl (hb hby at_421) rfl rfl ?_
          show Steps p.tables e below (T_118.setTop (mkF m 423 #[.val (.int p0), .val (.int p1), .val (.int p2), .val (.int p3), .val (.ref ms), .val (.int st), .val (.int co), .val (.int kd), .val (.int (Int32.ofNat pn)), .val (.int (Int32.ofNat qn)), .val (.int ap), .val (.int xx), .val (.int c0), .val (.int c1), .val (.int yd), .val (.ref ca), .val (.ref a), .val (.int mi), .unset, .unset, .unset, .unset] [(.ref ms)])) _
          refine XS.iload X_118.here hx rfl (hb hby at_423) rfl ?_
          exact ktg)
        obtain ⟨cq_163, kq_163, q_163a, q_163b, q_163c⟩ := isOf hZ rfl f_123
        obtain ⟨_, _, ⟨T_163, L_163, k_163, n_163⟩, -, X_163, ⟨Lc_163, hQ_163, l_163, y_163, z_163⟩, st_163⟩ := X_118.virtualBack hx (y := (⟨"java/lang/String", "charAt", "(I)C"⟩ : MethodName)) (z := (⟨"java/lang/String", "charAt", "(I)C"⟩ : MethodName)) hown (mvT hZ (hw _ (List.mem_of_getElem? (i := 13) rfl))) (mvT hZ (hw _ (List.mem_of_getElem? (i := 14) rfl))) (notFace_of_selects (args := #[]) (mvT hZ (hw _ (List.mem_of_getElem? (i := 16) rfl)))) (mvT hZ (hw _ (List.mem_of_getElem? (i := 16) rfl))) (mvT hZ (hw _ (List.mem_of_getElem? (i := 15) rfl))) (by decide) (backOf (W := 0) (rmcha l Z a0 hw [] ms (Int32.ofNat qn) mb km (36 : Int32) (mkl.getD qn 0) _ u T_118.heap n0 z_131 f_123 f_124 f_125 cs hcs f_121 hu f_122 f_126 (own_inb (z := 36) (by decide) hqn) (own_at (l := mkl) (i := qn) (by omega))) hZ (hw _ (List.mem_of_getElem? (i := 17) rfl)) (hw _ (List.mem_of_getElem? (i := 5) rfl)) (by decide) (by decide)) q_163a q_163c (g := (mkF m 425 #[.val (.int p0), .val (.int p1), .val (.int p2), .val (.int p3), .val (.ref ms), .val (.int st), .val (.int co), .val (.int kd), .val (.int (Int32.ofNat pn)), .val (.int (Int32.ofNat qn)), .val (.int ap), .val (.int xx), .val (.int c0), .val (.int c1), .val (.int yd), .val (.ref ca), .val (.ref a), .val (.int mi), .unset, .unset, .unset, .unset] [(.int (Int32.ofNat qn)), (.ref ms)])) rfl (by rw [hml]; rfl) (Steps.refl _) (argsL := [(.int (Int32.ofNat qn))]) (rest := []) (lenOf pd_18 rfl) rfl (by show 2 * 0 + _ ≤ _; exact Nat.le_of_eq rfl) (hb hby at_425) (fun _ _ => ⟨rfl, rfl, (by decide : 5 + 0 ≤ _), (by decide : 228 + 0 ≤ _)⟩)
        dsimp only [Pt.U, Pt.locs, Pt.cells, Pt.slots] at X_163 l_163 y_163 z_163 st_163 hQ_163
        subst l_163 y_163 z_163
        obtain ⟨rfl, Nq_163, eh_163⟩ := hQ_163
        have N_164 := Fr.app N_119 Nq_163
        have pre_163 : Rch p.tables e below (s₁.setTop (entryFrame m #[(.int p0), (.int p1), (.int p2), (.int p3)] maxLocals)) (T_163.setTop (mkF m 428 #[.val (.int p0), .val (.int p1), .val (.int p2), .val (.int p3), .val (.ref ms), .val (.int st), .val (.int co), .val (.int kd), .val (.int (Int32.ofNat pn)), .val (.int (Int32.ofNat qn)), .val (.int ap), .val (.int xx), .val (.int c0), .val (.int c1), .val (.int yd), .val (.ref ca), .val (.ref a), .val (.int mi), .unset, .unset, .unset, .unset] [(.int ((mkl.getD qn 0) &&& 255))])) := fun tgt ktg => pre_162 tgt (st_163.trans ktg)
        obtain ⟨yy, hv_yy⟩ : ∃ nm_ : Int32, nm_ = ((mkl.getD qn 0) &&& 255) := ⟨_, rfl⟩
        have pre_165 : Rch p.tables e below (s₁.setTop (entryFrame m #[(.int p0), (.int p1), (.int p2), (.int p3)] maxLocals)) (T_163.setTop (mkF m 428 #[.val (.int p0), .val (.int p1), .val (.int p2), .val (.int p3), .val (.ref ms), .val (.int st), .val (.int co), .val (.int kd), .val (.int (Int32.ofNat pn)), .val (.int (Int32.ofNat qn)), .val (.int ap), .val (.int xx), .val (.int c0), .val (.int c1), .val (.int yd), .val (.ref ca), .val (.ref a), .val (.int mi), .unset, .unset, .unset, .unset] [(.int yy)])) := fun tgt ktg => pre_163 tgt (by rw [hv_yy] at ktg; exact ktg)
        have eyy : yy = mkl.getD qn 0 := by rw [hv_yy]; exact (own_mkr ⟨qn, hqn⟩).2.2.1
        have hyy : ¬ yy < 0 ∧ ¬ (255 : Int32) < yy := by rw [eyy]; exact ⟨(own_mkr ⟨qn, hqn⟩).1, (own_mkr ⟨qn, hqn⟩).2.1⟩
        have pre_166 : Rch p.tables e below (s₁.setTop (entryFrame m #[(.int p0), (.int p1), (.int p2), (.int p3)] maxLocals)) (T_163.setTop (mkF m 432 #[.val (.int p0), .val (.int p1), .val (.int p2), .val (.int p3), .val (.ref ms), .val (.int st), .val (.int co), .val (.int kd), .val (.int (Int32.ofNat pn)), .val (.int (Int32.ofNat qn)), .val (.int ap), .val (.int xx), .val (.int c0), .val (.int c1), .val (.int yd), .val (.ref ca), .val (.ref a), .val (.int mi), .unset, .unset, .val (.int yy), .unset] [(.int yy)])) := fun tgt ktg => pre_165 tgt (by
          show Steps p.tables e below (T_163.setTop (mkF m 428 #[.val (.int p0), .val (.int p1), .val (.int p2), .val (.int p3), .val (.ref ms), .val (.int st), .val (.int co), .val (.int kd), .val (.int (Int32.ofNat pn)), .val (.int (Int32.ofNat qn)), .val (.int ap), .val (.int xx), .val (.int c0), .val (.int c1), .val (.int yd), .val (.ref ca), .val (.ref a), .val (.int mi), .unset, .unset, .unset, .unset] [(.int yy)])) _
          refine XS.istore X_163.here hx rfl (hb hby at_428) rfl (l' := #[.val (.int p0), .val (.int p1), .val (.int p2), .val (.int p3), .val (.ref ms), .val (.int st), .val (.int co), .val (.int kd), .val (.int (Int32.ofNat pn)), .val (.int (Int32.ofNat qn)), .val (.int ap), .val (.int xx), .val (.int c0), .val (.int c1), .val (.int yd), .val (.ref ca), .val (.ref a), .val (.int mi), .unset, .unset, .val (.int yy), .unset]) rfl ?_
          show Steps p.tables e below (T_163.setTop (mkF m 430 #[.val (.int p0), .val (.int p1), .val (.int p2), .val (.int p3), .val (.ref ms), .val (.int st), .val (.int co), .val (.int kd), .val (.int (Int32.ofNat pn)), .val (.int (Int32.ofNat qn)), .val (.int ap), .val (.int xx), .val (.int c0), .val (.int c1), .val (.int yd), .val (.ref ca), .val (.ref a), .val (.int mi), .unset, .unset, .val (.int yy), .unset] [])) _
          refine XS.iload X_163.here hx rfl (hb hby at_430) rfl ?_
          exact ktg)
        obtain ⟨_, _, ⟨T_167, L_167, k_167, n_167⟩, -, X_167, ⟨Lc_167, hQ_167, l_167, y_167, z_167⟩, st_167⟩ := Jvm.LawKit.callS X_163 hx (y := (⟨"java/lang/String", "valueOf", "(C)Ljava/lang/String;"⟩ : MethodName)) hown (mvT hZ (hw _ (List.mem_of_getElem? (i := 113) rfl))) (mvT hZ (hw _ (List.mem_of_getElem? (i := 114) rfl))) (mvT hZ (hw _ (List.mem_of_getElem? (i := 5) rfl))) (mvT hZ (hw _ (List.mem_of_getElem? (i := 115) rfl))) (by decide) (backOf (W := 0) (rmvo l Z a0 hw [] yy T_118.heap n0 z_131 hyy.2 cs hcs f_121) hZ (hw _ (List.mem_of_getElem? (i := 115) rfl)) (hw _ (List.mem_of_getElem? (i := 5) rfl)) (by decide) (by decide)) (g := (mkF m 432 #[.val (.int p0), .val (.int p1), .val (.int p2), .val (.int p3), .val (.ref ms), .val (.int st), .val (.int co), .val (.int kd), .val (.int (Int32.ofNat pn)), .val (.int (Int32.ofNat qn)), .val (.int ap), .val (.int xx), .val (.int c0), .val (.int c1), .val (.int yd), .val (.ref ca), .val (.ref a), .val (.int mi), .unset, .unset, .val (.int yy), .unset] [(.int yy)])) rfl (by rw [hml]; rfl) (argsL := [(.int yy)]) (rest := []) (lenOf pd_20 rfl) rfl (by show 2 * 0 + _ ≤ _; exact Nat.le_of_eq rfl) (hb hby at_432) (fun _ _ => ⟨rfl, eh_163, (by decide : 5 + 2 ≤ _), (by decide : 228 + 5 ≤ _)⟩)
        dsimp only [Pt.U, Pt.locs, Pt.cells, Pt.slots] at X_167 l_167 y_167 z_167 st_167 hQ_167
        subst l_167 y_167 z_167
        obtain ⟨vs, vb, kv, rfl, Nq_167, Kq_167, v1, v2, v3, v4⟩ := hQ_167
        have N_168 := Fr.app N_164 Nq_167
        have pre_167 : Rch p.tables e below (s₁.setTop (entryFrame m #[(.int p0), (.int p1), (.int p2), (.int p3)] maxLocals)) (T_167.setTop (mkF m 435 #[.val (.int p0), .val (.int p1), .val (.int p2), .val (.int p3), .val (.ref ms), .val (.int st), .val (.int co), .val (.int kd), .val (.int (Int32.ofNat pn)), .val (.int (Int32.ofNat qn)), .val (.int ap), .val (.int xx), .val (.int c0), .val (.int c1), .val (.int yd), .val (.ref ca), .val (.ref a), .val (.int mi), .unset, .unset, .val (.int yy), .unset] [(.ref vs)])) := fun tgt ktg => pre_166 tgt (st_167 tgt ktg)
        have C_169 : CHr Z consts_1 s.vm h0 T_1.vm T_167.heap := C_120.trans (CHr.keep Kq_167 sf0 C_120.1)
        have hk_169 := Nat.le_trans hk_120 Kq_167.1
        have f_170 : Sta Z T_167.heap "java/lang/String" "COMPACT_STRINGS" "Z" (.int cs) := own_sta_keep f_121 Kq_167 ns0
        have f_171 : Sta Z T_167.heap "jdk/internal/util/Preconditions" "SIOOBE_FORMATTER" "Ljava/util/function/BiFunction;" u := own_sta_keep f_122 Kq_167 ns0
        have f_172 : Exa Z T_167.heap ms "java/lang/String" := f_123.keep Kq_167
        have f_173 : Fld Z T_167.heap ms "java/lang/String" "coder" "B" (.int (0 : Int32)) := f_124.keep Kq_167 nin0
        have f_174 : Fld Z T_167.heap ms "java/lang/String" "value" "[B" (.ref mb) := f_125.keep Kq_167 nin0
        have f_175 : Arv Z T_167.heap mb km .byte (36 : Int32) [(.int (60 : Int32)), (.int (115 : Int32)), (.int (111 : Int32)), (.int (97 : Int32)), (.int (112 : Int32)), (.int (58 : Int32)), (.int (86 : Int32)), (.int (97 : Int32)), (.int (108 : Int32)), (.int (117 : Int32)), (.int (101 : Int32)), (.int (62 : Int32)), (.int (115 : Int32)), (.int (111 : Int32)), (.int (97 : Int32)), (.int (112 : Int32)), (.int (58 : Int32)), (.int (83 : Int32)), (.int (101 : Int32)), (.int (110 : Int32)), (.int (100 : Int32)), (.int (101 : Int32)), (.int (114 : Int32)), (.int (60 : Int32)), (.int (47 : Int32)), (.int (115 : Int32)), (.int (111 : Int32)), (.int (97 : Int32)), (.int (112 : Int32)), (.int (58 : Int32)), (.int (86 : Int32)), (.int (97 : Int32)), (.int (108 : Int32)), (.int (117 : Int32)), (.int (101 : Int32)), (.int (62 : Int32))] (.int (0 : Int32)) := f_126.keep Kq_167 nin0
        have f_176 : Exa Z T_167.heap a "java/lang/String" := b1.keep Kq_167
        have f_177 : Fld Z T_167.heap a "java/lang/String" "coder" "B" (.int (0 : Int32)) := b2.keep Kq_167 nin0
        have f_178 : Fld Z T_167.heap a "java/lang/String" "value" "[B" (.ref ba) := b3.keep Kq_167 nin0
        have f_179 : Arv Z T_167.heap ba kb .byte (38 : Int32) ((bl ((cl0 c0 c1).set (pn + 1) xx)).map Value.int) (.int (0 : Int32)) := b4.keep Kq_167 nin0
        have z_180 : n0 ≤ T_167.heap.size := Nat.le_trans z_131 Kq_167.1
        have pre_181 : Rch p.tables e below (s₁.setTop (entryFrame m #[(.int p0), (.int p1), (.int p2), (.int p3)] maxLocals)) (T_167.setTop (mkF m 447 #[.val (.int p0), .val (.int p1), .val (.int p2), .val (.int p3), .val (.ref ms), .val (.int st), .val (.int co), .val (.int kd), .val (.int (Int32.ofNat pn)), .val (.int (Int32.ofNat qn)), .val (.int ap), .val (.int xx), .val (.int c0), .val (.int c1), .val (.int yd), .val (.ref ca), .val (.ref a), .val (.int mi), .val (.ref vs), .unset, .val (.int yy), .unset] [(.int ap), (.int xx), (.int c1), (.int c0), (.int yy)])) := fun tgt ktg => pre_167 tgt (by
          show Steps p.tables e below (T_167.setTop (mkF m 435 #[.val (.int p0), .val (.int p1), .val (.int p2), .val (.int p3), .val (.ref ms), .val (.int st), .val (.int co), .val (.int kd), .val (.int (Int32.ofNat pn)), .val (.int (Int32.ofNat qn)), .val (.int ap), .val (.int xx), .val (.int c0), .val (.int c1), .val (.int yd), .val (.ref ca), .val (.ref a), .val (.int mi), .unset, .unset, .val (.int yy), .unset] [(.ref vs)])) _
          refine XS.astore X_167.here hx rfl (hb hby at_435) rfl rfl (l' := #[.val (.int p0), .val (.int p1), .val (.int p2), .val (.int p3), .val (.ref ms), .val (.int st), .val (.int co), .val (.int kd), .val (.int (Int32.ofNat pn)), .val (.int (Int32.ofNat qn)), .val (.int ap), .val (.int xx), .val (.int c0), .val (.int c1), .val (.int yd), .val (.ref ca), .val (.ref a), .val (.int mi), .val (.ref vs), .unset, .val (.int yy), .unset]) rfl ?_
          show Steps p.tables e below (T_167.setTop (mkF m 437 #[.val (.int p0), .val (.int p1), .val (.int p2), .val (.int p3), .val (.ref ms), .val (.int st), .val (.int co), .val (.int kd), .val (.int (Int32.ofNat pn)), .val (.int (Int32.ofNat qn)), .val (.int ap), .val (.int xx), .val (.int c0), .val (.int c1), .val (.int yd), .val (.ref ca), .val (.ref a), .val (.int mi), .val (.ref vs), .unset, .val (.int yy), .unset] [])) _
          refine XS.iload X_167.here hx rfl (hb hby at_437) rfl ?_
          show Steps p.tables e below (T_167.setTop (mkF m 439 #[.val (.int p0), .val (.int p1), .val (.int p2), .val (.int p3), .val (.ref ms), .val (.int st), .val (.int co), .val (.int kd), .val (.int (Int32.ofNat pn)), .val (.int (Int32.ofNat qn)), .val (.int ap), .val (.int xx), .val (.int c0), .val (.int c1), .val (.int yd), .val (.ref ca), .val (.ref a), .val (.int mi), .val (.ref vs), .unset, .val (.int yy), .unset] [(.int yy)])) _
          refine XS.iload X_167.here hx rfl (hb hby at_439) rfl ?_
          show Steps p.tables e below (T_167.setTop (mkF m 441 #[.val (.int p0), .val (.int p1), .val (.int p2), .val (.int p3), .val (.ref ms), .val (.int st), .val (.int co), .val (.int kd), .val (.int (Int32.ofNat pn)), .val (.int (Int32.ofNat qn)), .val (.int ap), .val (.int xx), .val (.int c0), .val (.int c1), .val (.int yd), .val (.ref ca), .val (.ref a), .val (.int mi), .val (.ref vs), .unset, .val (.int yy), .unset] [(.int c0), (.int yy)])) _
          refine XS.iload X_167.here hx rfl (hb hby at_441) rfl ?_
          show Steps p.tables e below (T_167.setTop (mkF m 443 #[.val (.int p0), .val (.int p1), .val (.int p2), .val (.int p3), .val (.ref ms), .val (.int st), .val (.int co), .val (.int kd), .val (.int (Int32.ofNat pn)), .val (.int (Int32.ofNat qn)), .val (.int ap), .val (.int xx), .val (.int c0), .val (.int c1), .val (.int yd), .val (.ref ca), .val (.ref a), .val (.int mi), .val (.ref vs), .unset, .val (.int yy), .unset] [(.int c1), (.int c0), (.int yy)])) _
          refine XS.iload X_167.here hx rfl (hb hby at_443) rfl ?_
          show Steps p.tables e below (T_167.setTop (mkF m 445 #[.val (.int p0), .val (.int p1), .val (.int p2), .val (.int p3), .val (.ref ms), .val (.int st), .val (.int co), .val (.int kd), .val (.int (Int32.ofNat pn)), .val (.int (Int32.ofNat qn)), .val (.int ap), .val (.int xx), .val (.int c0), .val (.int c1), .val (.int yd), .val (.ref ca), .val (.ref a), .val (.int mi), .val (.ref vs), .unset, .val (.int yy), .unset] [(.int xx), (.int c1), (.int c0), (.int yy)])) _
          refine XS.iload X_167.here hx rfl (hb hby at_445) rfl ?_
          exact ktg)
        obtain ⟨_, _, ⟨T_182, L_182, k_182, n_182⟩, -, X_182, ⟨Lc_182, hQ_182, l_182, y_182, z_182⟩, st_182⟩ := Jvm.LawKit.callS X_167 hx (y := (⟨"ResponseIsSenderFaultPinLaw", "hasChar", "(CCCCC)Z"⟩ : MethodName)) hown (mvT hZ (hw _ (List.mem_of_getElem? (i := 126) rfl))) (mvT hZ (hw _ (List.mem_of_getElem? (i := 127) rfl))) (mvT hZ (hw _ (List.mem_of_getElem? (i := 2) rfl))) (mvT hZ (hw _ (List.mem_of_getElem? (i := 128) rfl))) (by decide) (backOf (W := 0) (rmhc l Z a0 hw [] yy c0 c1 xx ap T_167.heap n0 z_180) hZ (hw _ (List.mem_of_getElem? (i := 128) rfl)) (hw _ (List.mem_of_getElem? (i := 2) rfl)) (by decide) (by decide)) (g := (mkF m 447 #[.val (.int p0), .val (.int p1), .val (.int p2), .val (.int p3), .val (.ref ms), .val (.int st), .val (.int co), .val (.int kd), .val (.int (Int32.ofNat pn)), .val (.int (Int32.ofNat qn)), .val (.int ap), .val (.int xx), .val (.int c0), .val (.int c1), .val (.int yd), .val (.ref ca), .val (.ref a), .val (.int mi), .val (.ref vs), .unset, .val (.int yy), .unset] [(.int ap), (.int xx), (.int c1), (.int c0), (.int yy)])) rfl (by rw [hml]; rfl) (argsL := [(.int yy), (.int c0), (.int c1), (.int xx), (.int ap)]) (rest := []) (lenOf pd_21 rfl) rfl (by show 2 * 0 + _ ≤ _; exact Nat.le_of_eq rfl) (hb hby at_447) (fun _ _ => ⟨rfl, rfl, (by decide : 7 + 0 ≤ _), (by decide : 233 + 0 ≤ _)⟩)
        dsimp only [Pt.U, Pt.locs, Pt.cells, Pt.slots] at X_182 l_182 y_182 z_182 st_182 hQ_182
        subst l_182 y_182 z_182
        obtain ⟨rfl, Nq_182, eh_182⟩ := hQ_182
        have N_183 := Fr.app N_168 Nq_182
        have pre_182 : Rch p.tables e below (s₁.setTop (entryFrame m #[(.int p0), (.int p1), (.int p2), (.int p3)] maxLocals)) (T_182.setTop (mkF m 450 #[.val (.int p0), .val (.int p1), .val (.int p2), .val (.int p3), .val (.ref ms), .val (.int st), .val (.int co), .val (.int kd), .val (.int (Int32.ofNat pn)), .val (.int (Int32.ofNat qn)), .val (.int ap), .val (.int xx), .val (.int c0), .val (.int c1), .val (.int yd), .val (.ref ca), .val (.ref a), .val (.int mi), .val (.ref vs), .unset, .val (.int yy), .unset] [(.int (hch yy c0 c1 xx ap))])) := fun tgt ktg => pre_181 tgt (st_182 tgt ktg)
        have pre_184 : Rch p.tables e below (s₁.setTop (entryFrame m #[(.int p0), (.int p1), (.int p2), (.int p3)] maxLocals)) (T_182.setTop (mkF m 551 #[.val (.int p0), .val (.int p1), .val (.int p2), .val (.int p3), .val (.ref ms), .val (.int st), .val (.int co), .val (.int kd), .val (.int (Int32.ofNat pn)), .val (.int (Int32.ofNat qn)), .val (.int ap), .val (.int xx), .val (.int c0), .val (.int c1), .val (.int yd), .val (.ref ca), .val (.ref a), .val (.int mi), .val (.ref vs), .val (.int (hch yy c0 c1 xx ap)), .val (.int yy), .unset] [])) := fun tgt ktg => pre_182 tgt (by
          show Steps p.tables e below (T_182.setTop (mkF m 450 #[.val (.int p0), .val (.int p1), .val (.int p2), .val (.int p3), .val (.ref ms), .val (.int st), .val (.int co), .val (.int kd), .val (.int (Int32.ofNat pn)), .val (.int (Int32.ofNat qn)), .val (.int ap), .val (.int xx), .val (.int c0), .val (.int c1), .val (.int yd), .val (.ref ca), .val (.ref a), .val (.int mi), .val (.ref vs), .unset, .val (.int yy), .unset] [(.int (hch yy c0 c1 xx ap))])) _
          refine XS.istore X_182.here hx rfl (hb hby at_450) rfl (l' := #[.val (.int p0), .val (.int p1), .val (.int p2), .val (.int p3), .val (.ref ms), .val (.int st), .val (.int co), .val (.int kd), .val (.int (Int32.ofNat pn)), .val (.int (Int32.ofNat qn)), .val (.int ap), .val (.int xx), .val (.int c0), .val (.int c1), .val (.int yd), .val (.ref ca), .val (.ref a), .val (.int mi), .val (.ref vs), .val (.int (hch yy c0 c1 xx ap)), .val (.int yy), .unset]) rfl ?_
          show Steps p.tables e below (T_182.setTop (mkF m 452 #[.val (.int p0), .val (.int p1), .val (.int p2), .val (.int p3), .val (.ref ms), .val (.int st), .val (.int co), .val (.int kd), .val (.int (Int32.ofNat pn)), .val (.int (Int32.ofNat qn)), .val (.int ap), .val (.int xx), .val (.int c0), .val (.int c1), .val (.int yd), .val (.ref ca), .val (.ref a), .val (.int mi), .val (.ref vs), .val (.int (hch yy c0 c1 xx ap)), .val (.int yy), .unset] [])) _
          refine XS.goto X_182.here hx rfl (pc0 := 452) (pc' := 551) rfl (hb hby at_452) (by decide) (by decide) ?_
          exact ktg)
        exact ⟨T_1.vm, _, T_182, T_167.heap, _, vs, vb, kv, 1, (hch yy c0 c1 xx ap), [(yy.toInt8.toInt32)], (.val (.int yy)), X_182.more (by decide) (by decide), eh_182, N_183, z_180, hS_1, hk_169, hZ, hown, C_169, f_176, f_177, f_178, f_179, f_170, v1, v2, v3, v4, ⟨by decide, rfl⟩, (fun hxa => own_k1 hpn eap hc0 hc1 hyy hxa), Or.inr ⟨_, rfl⟩, pre_184⟩
      · skip
        have pre_185 : Rch p.tables e below (s₁.setTop (entryFrame m #[(.int p0), (.int p1), (.int p2), (.int p3)] maxLocals)) (T_118.setTop (mkF m 455 #[.val (.int p0), .val (.int p1), .val (.int p2), .val (.int p3), .val (.ref ms), .val (.int st), .val (.int co), .val (.int kd), .val (.int (Int32.ofNat pn)), .val (.int (Int32.ofNat qn)), .val (.int ap), .val (.int xx), .val (.int c0), .val (.int c1), .val (.int yd), .val (.ref ca), .val (.ref a), .val (.int mi), .unset, .unset, .unset, .unset] [])) := fun tgt ktg => pre_159 tgt (by
          show Steps p.tables e below (T_118.setTop (mkF m 418 #[.val (.int p0), .val (.int p1), .val (.int p2), .val (.int p3), .val (.ref ms), .val (.int st), .val (.int co), .val (.int kd), .val (.int (Int32.ofNat pn)), .val (.int (Int32.ofNat qn)), .val (.int ap), .val (.int xx), .val (.int c0), .val (.int c1), .val (.int yd), .val (.ref ca), .val (.ref a), .val (.int mi), .unset, .unset, .unset, .unset] [(.int (2 : Int32)), (.int kd)])) _
          refine XS.icmpYes X_118.here hx rfl (pc0 := 418) (pc' := 455) rfl (hb hby at_418) rfl (feq c_160).2 (by decide) (by decide) ?_
          exact ktg)
        have pre_186 : Rch p.tables e below (s₁.setTop (entryFrame m #[(.int p0), (.int p1), (.int p2), (.int p3)] maxLocals)) (T_118.setTop (mkF m 458 #[.val (.int p0), .val (.int p1), .val (.int p2), .val (.int p3), .val (.ref ms), .val (.int st), .val (.int co), .val (.int kd), .val (.int (Int32.ofNat pn)), .val (.int (Int32.ofNat qn)), .val (.int ap), .val (.int xx), .val (.int c0), .val (.int c1), .val (.int yd), .val (.ref ca), .val (.ref a), .val (.int mi), .unset, .unset, .unset, .unset] [(.int (3 : Int32)), (.int kd)])) := fun tgt ktg => pre_185 tgt (by
          show Steps p.tables e below (T_118.setTop (mkF m 455 #[.val (.int p0), .val (.int p1), .val (.int p2), .val (.int p3), .val (.ref ms), .val (.int st), .val (.int co), .val (.int kd), .val (.int (Int32.ofNat pn)), .val (.int (Int32.ofNat qn)), .val (.int ap), .val (.int xx), .val (.int c0), .val (.int c1), .val (.int yd), .val (.ref ca), .val (.ref a), .val (.int mi), .unset, .unset, .unset, .unset] [])) _
          refine XS.iload X_118.here hx rfl (hb hby at_455) rfl ?_
          show Steps p.tables e below (T_118.setTop (mkF m 457 #[.val (.int p0), .val (.int p1), .val (.int p2), .val (.int p3), .val (.ref ms), .val (.int st), .val (.int co), .val (.int kd), .val (.int (Int32.ofNat pn)), .val (.int (Int32.ofNat qn)), .val (.int ap), .val (.int xx), .val (.int c0), .val (.int c1), .val (.int yd), .val (.ref ca), .val (.ref a), .val (.int mi), .unset, .unset, .unset, .unset] [(.int kd)])) _
          refine XS.iconst X_118.here hx rfl (hb hby at_457) ?_
          exact ktg)
        by_cases c_187 : kd = (3 : Int32)
        · skip
          have pre_188 : Rch p.tables e below (s₁.setTop (entryFrame m #[(.int p0), (.int p1), (.int p2), (.int p3)] maxLocals)) (T_118.setTop (mkF m 461 #[.val (.int p0), .val (.int p1), .val (.int p2), .val (.int p3), .val (.ref ms), .val (.int st), .val (.int co), .val (.int kd), .val (.int (Int32.ofNat pn)), .val (.int (Int32.ofNat qn)), .val (.int ap), .val (.int xx), .val (.int c0), .val (.int c1), .val (.int yd), .val (.ref ca), .val (.ref a), .val (.int mi), .unset, .unset, .unset, .unset] [])) := fun tgt ktg => pre_186 tgt (by
            show Steps p.tables e below (T_118.setTop (mkF m 458 #[.val (.int p0), .val (.int p1), .val (.int p2), .val (.int p3), .val (.ref ms), .val (.int st), .val (.int co), .val (.int kd), .val (.int (Int32.ofNat pn)), .val (.int (Int32.ofNat qn)), .val (.int ap), .val (.int xx), .val (.int c0), .val (.int c1), .val (.int yd), .val (.ref ca), .val (.ref a), .val (.int mi), .unset, .unset, .unset, .unset] [(.int (3 : Int32)), (.int kd)])) _
            refine XS.icmpNo X_118.here hx rfl (hb hby at_458) rfl (teq c_187).2 ?_
            exact ktg)
          obtain ⟨x, T_189, h_189, k1__189, xb, kl_189, X_189, e_189, E_189, hS_189, hk_189, hZ, hown, fE_189, fC_189, fV_189, fA_189, la_189, lb_189, hC_189, hL_189, hne_189, st_189⟩ := ldcCH X_118 hx hZ hown (hw _ (List.mem_of_getElem? (i := 132) rfl)) wS rfl hS_1 hk_120 hEL (List.mem_of_getElem? (i := 1) rfl) C_120.1 (vs := [(.int (83 : Int32)), (.int (101 : Int32)), (.int (110 : Int32)), (.int (100 : Int32)), (.int (101 : Int32)), (.int (114 : Int32))]) (z := (6 : Int32)) ⟨by decide, by rfl⟩ (by decide) rfl (g := (mkF m 461 #[.val (.int p0), .val (.int p1), .val (.int p2), .val (.int p3), .val (.ref ms), .val (.int st), .val (.int co), .val (.int kd), .val (.int (Int32.ofNat pn)), .val (.int (Int32.ofNat qn)), .val (.int ap), .val (.int xx), .val (.int c0), .val (.int c1), .val (.int yd), .val (.ref ca), .val (.ref a), .val (.int mi), .unset, .unset, .unset, .unset] [])) rfl (hb hby at_461) (n := 24) (by decide) (by decide) (by decide) (by decide)
          have pre_189 : Rch p.tables e below (s₁.setTop (entryFrame m #[(.int p0), (.int p1), (.int p2), (.int p3)] maxLocals)) (T_189.setTop (mkF m 463 #[.val (.int p0), .val (.int p1), .val (.int p2), .val (.int p3), .val (.ref ms), .val (.int st), .val (.int co), .val (.int kd), .val (.int (Int32.ofNat pn)), .val (.int (Int32.ofNat qn)), .val (.int ap), .val (.int xx), .val (.int c0), .val (.int c1), .val (.int yd), .val (.ref ca), .val (.ref a), .val (.int mi), .unset, .unset, .unset, .unset] [(.ref x)])) := fun tgt ktg => pre_188 tgt (st_189 tgt ktg)
          have C_190 : CHr Z consts_1 s.vm h0 T_189.vm h_189 := C_120.trans hC_189
          have f_191 : Sta Z h_189 "java/lang/String" "COMPACT_STRINGS" "Z" (.int cs) := f_121.ext E_189
          have f_192 : Sta Z h_189 "jdk/internal/util/Preconditions" "SIOOBE_FORMATTER" "Ljava/util/function/BiFunction;" u := f_122.ext E_189
          have f_193 : Exa Z h_189 ms "java/lang/String" := f_123.ext E_189
          have f_194 : Fld Z h_189 ms "java/lang/String" "coder" "B" (.int (0 : Int32)) := f_124.ext E_189
          have f_195 : Fld Z h_189 ms "java/lang/String" "value" "[B" (.ref mb) := f_125.ext E_189
          have f_196 : Arv Z h_189 mb km .byte (36 : Int32) [(.int (60 : Int32)), (.int (115 : Int32)), (.int (111 : Int32)), (.int (97 : Int32)), (.int (112 : Int32)), (.int (58 : Int32)), (.int (86 : Int32)), (.int (97 : Int32)), (.int (108 : Int32)), (.int (117 : Int32)), (.int (101 : Int32)), (.int (62 : Int32)), (.int (115 : Int32)), (.int (111 : Int32)), (.int (97 : Int32)), (.int (112 : Int32)), (.int (58 : Int32)), (.int (83 : Int32)), (.int (101 : Int32)), (.int (110 : Int32)), (.int (100 : Int32)), (.int (101 : Int32)), (.int (114 : Int32)), (.int (60 : Int32)), (.int (47 : Int32)), (.int (115 : Int32)), (.int (111 : Int32)), (.int (97 : Int32)), (.int (112 : Int32)), (.int (58 : Int32)), (.int (86 : Int32)), (.int (97 : Int32)), (.int (108 : Int32)), (.int (117 : Int32)), (.int (101 : Int32)), (.int (62 : Int32))] (.int (0 : Int32)) := f_126.ext E_189
          have f_197 : Exa Z h_189 a "java/lang/String" := b1.ext E_189
          have f_198 : Fld Z h_189 a "java/lang/String" "coder" "B" (.int (0 : Int32)) := b2.ext E_189
          have f_199 : Fld Z h_189 a "java/lang/String" "value" "[B" (.ref ba) := b3.ext E_189
          have f_200 : Arv Z h_189 ba kb .byte (38 : Int32) ((bl ((cl0 c0 c1).set (pn + 1) xx)).map Value.int) (.int (0 : Int32)) := b4.ext E_189
          have z_201 : n0 ≤ h_189.size := Nat.le_trans z_131 E_189.1
          have pre_202 : Rch p.tables e below (s₁.setTop (entryFrame m #[(.int p0), (.int p1), (.int p2), (.int p3)] maxLocals)) (T_189.setTop (mkF m 469 #[.val (.int p0), .val (.int p1), .val (.int p2), .val (.int p3), .val (.ref ms), .val (.int st), .val (.int co), .val (.int kd), .val (.int (Int32.ofNat pn)), .val (.int (Int32.ofNat qn)), .val (.int ap), .val (.int xx), .val (.int c0), .val (.int c1), .val (.int yd), .val (.ref ca), .val (.ref a), .val (.int mi), .val (.ref x), .unset, .unset, .unset] [(.int (17 : Int32)), (.int (Int32.ofNat pn))])) := fun tgt ktg => pre_189 tgt (by
            show Steps p.tables e below (T_189.setTop (mkF m 463 #[.val (.int p0), .val (.int p1), .val (.int p2), .val (.int p3), .val (.ref ms), .val (.int st), .val (.int co), .val (.int kd), .val (.int (Int32.ofNat pn)), .val (.int (Int32.ofNat qn)), .val (.int ap), .val (.int xx), .val (.int c0), .val (.int c1), .val (.int yd), .val (.ref ca), .val (.ref a), .val (.int mi), .unset, .unset, .unset, .unset] [(.ref x)])) _
            refine XS.astore X_189.here hx rfl (hb hby at_463) rfl rfl (l' := #[.val (.int p0), .val (.int p1), .val (.int p2), .val (.int p3), .val (.ref ms), .val (.int st), .val (.int co), .val (.int kd), .val (.int (Int32.ofNat pn)), .val (.int (Int32.ofNat qn)), .val (.int ap), .val (.int xx), .val (.int c0), .val (.int c1), .val (.int yd), .val (.ref ca), .val (.ref a), .val (.int mi), .val (.ref x), .unset, .unset, .unset]) rfl ?_
            show Steps p.tables e below (T_189.setTop (mkF m 465 #[.val (.int p0), .val (.int p1), .val (.int p2), .val (.int p3), .val (.ref ms), .val (.int st), .val (.int co), .val (.int kd), .val (.int (Int32.ofNat pn)), .val (.int (Int32.ofNat qn)), .val (.int ap), .val (.int xx), .val (.int c0), .val (.int c1), .val (.int yd), .val (.ref ca), .val (.ref a), .val (.int mi), .val (.ref x), .unset, .unset, .unset] [])) _
            refine XS.iload X_189.here hx rfl (hb hby at_465) rfl ?_
            show Steps p.tables e below (T_189.setTop (mkF m 467 #[.val (.int p0), .val (.int p1), .val (.int p2), .val (.int p3), .val (.ref ms), .val (.int st), .val (.int co), .val (.int kd), .val (.int (Int32.ofNat pn)), .val (.int (Int32.ofNat qn)), .val (.int ap), .val (.int xx), .val (.int c0), .val (.int c1), .val (.int yd), .val (.ref ca), .val (.ref a), .val (.int mi), .val (.ref x), .unset, .unset, .unset] [(.int (Int32.ofNat pn))])) _
            refine XS.bipush X_189.here hx rfl (hb hby at_467) ?_
            exact ktg)
          obtain ⟨ri, hv_ri⟩ : ∃ nm_ : Int32, nm_ = (if (Int32.ofNat pn) < (17 : Int32) then (1 : Int32) else (if (22 : Int32) < (Int32.ofNat pn) then (1 : Int32) else (if mi = (0 : Int32) then (0 : Int32) else (1 : Int32)))) := ⟨_, rfl⟩
          have pre_206 : Rch p.tables e below (s₁.setTop (entryFrame m #[(.int p0), (.int p1), (.int p2), (.int p3)] maxLocals)) (T_189.setTop (mkF m 489 #[.val (.int p0), .val (.int p1), .val (.int p2), .val (.int p3), .val (.ref ms), .val (.int st), .val (.int co), .val (.int kd), .val (.int (Int32.ofNat pn)), .val (.int (Int32.ofNat qn)), .val (.int ap), .val (.int xx), .val (.int c0), .val (.int c1), .val (.int yd), .val (.ref ca), .val (.ref a), .val (.int mi), .val (.ref x), .unset, .unset, .unset] [(.int ri)])) := fun tgt ktg => pre_202 tgt (by
            by_cases q_203 : (Int32.ofNat pn) < (17 : Int32)
            · skip
              show Steps p.tables e below (T_189.setTop (mkF m 469 #[.val (.int p0), .val (.int p1), .val (.int p2), .val (.int p3), .val (.ref ms), .val (.int st), .val (.int co), .val (.int kd), .val (.int (Int32.ofNat pn)), .val (.int (Int32.ofNat qn)), .val (.int ap), .val (.int xx), .val (.int c0), .val (.int c1), .val (.int yd), .val (.ref ca), .val (.ref a), .val (.int mi), .val (.ref x), .unset, .unset, .unset] [(.int (17 : Int32)), (.int (Int32.ofNat pn))])) _
              refine XS.icmpYes X_189.here hx rfl (pc0 := 469) (pc' := 484) rfl (hb hby at_469) rfl (tlt q_203).1 (by decide) (by decide) ?_
              show Steps p.tables e below (T_189.setTop (mkF m 484 #[.val (.int p0), .val (.int p1), .val (.int p2), .val (.int p3), .val (.ref ms), .val (.int st), .val (.int co), .val (.int kd), .val (.int (Int32.ofNat pn)), .val (.int (Int32.ofNat qn)), .val (.int ap), .val (.int xx), .val (.int c0), .val (.int c1), .val (.int yd), .val (.ref ca), .val (.ref a), .val (.int mi), .val (.ref x), .unset, .unset, .unset] [])) _
              refine XS.iconst X_189.here hx rfl (hb hby at_484) ?_
              show Steps p.tables e below (T_189.setTop (mkF m 485 #[.val (.int p0), .val (.int p1), .val (.int p2), .val (.int p3), .val (.ref ms), .val (.int st), .val (.int co), .val (.int kd), .val (.int (Int32.ofNat pn)), .val (.int (Int32.ofNat qn)), .val (.int ap), .val (.int xx), .val (.int c0), .val (.int c1), .val (.int yd), .val (.ref ca), .val (.ref a), .val (.int mi), .val (.ref x), .unset, .unset, .unset] [(.int (1 : Int32))])) _
              refine XS.goto X_189.here hx rfl (pc0 := 485) (pc' := 489) rfl (hb hby at_485) (by decide) (by decide) ?_
              have ev_ri : ri = (1 : Int32) := by rw [hv_ri, if_pos q_203]
              rw [ev_ri] at ktg
              exact ktg
            · skip
              show Steps p.tables e below (T_189.setTop (mkF m 469 #[.val (.int p0), .val (.int p1), .val (.int p2), .val (.int p3), .val (.ref ms), .val (.int st), .val (.int co), .val (.int kd), .val (.int (Int32.ofNat pn)), .val (.int (Int32.ofNat qn)), .val (.int ap), .val (.int xx), .val (.int c0), .val (.int c1), .val (.int yd), .val (.ref ca), .val (.ref a), .val (.int mi), .val (.ref x), .unset, .unset, .unset] [(.int (17 : Int32)), (.int (Int32.ofNat pn))])) _
              refine XS.icmpNo X_189.here hx rfl (hb hby at_469) rfl (flt q_203).1 ?_
              show Steps p.tables e below (T_189.setTop (mkF m 472 #[.val (.int p0), .val (.int p1), .val (.int p2), .val (.int p3), .val (.ref ms), .val (.int st), .val (.int co), .val (.int kd), .val (.int (Int32.ofNat pn)), .val (.int (Int32.ofNat qn)), .val (.int ap), .val (.int xx), .val (.int c0), .val (.int c1), .val (.int yd), .val (.ref ca), .val (.ref a), .val (.int mi), .val (.ref x), .unset, .unset, .unset] [])) _
              refine XS.iload X_189.here hx rfl (hb hby at_472) rfl ?_
              show Steps p.tables e below (T_189.setTop (mkF m 474 #[.val (.int p0), .val (.int p1), .val (.int p2), .val (.int p3), .val (.ref ms), .val (.int st), .val (.int co), .val (.int kd), .val (.int (Int32.ofNat pn)), .val (.int (Int32.ofNat qn)), .val (.int ap), .val (.int xx), .val (.int c0), .val (.int c1), .val (.int yd), .val (.ref ca), .val (.ref a), .val (.int mi), .val (.ref x), .unset, .unset, .unset] [(.int (Int32.ofNat pn))])) _
              refine XS.bipush X_189.here hx rfl (hb hby at_474) ?_
              by_cases q_204 : (22 : Int32) < (Int32.ofNat pn)
              · skip
                show Steps p.tables e below (T_189.setTop (mkF m 476 #[.val (.int p0), .val (.int p1), .val (.int p2), .val (.int p3), .val (.ref ms), .val (.int st), .val (.int co), .val (.int kd), .val (.int (Int32.ofNat pn)), .val (.int (Int32.ofNat qn)), .val (.int ap), .val (.int xx), .val (.int c0), .val (.int c1), .val (.int yd), .val (.ref ca), .val (.ref a), .val (.int mi), .val (.ref x), .unset, .unset, .unset] [(.int (22 : Int32)), (.int (Int32.ofNat pn))])) _
                refine XS.icmpYes X_189.here hx rfl (pc0 := 476) (pc' := 484) rfl (hb hby at_476) rfl (tlt q_204).2.2.1 (by decide) (by decide) ?_
                show Steps p.tables e below (T_189.setTop (mkF m 484 #[.val (.int p0), .val (.int p1), .val (.int p2), .val (.int p3), .val (.ref ms), .val (.int st), .val (.int co), .val (.int kd), .val (.int (Int32.ofNat pn)), .val (.int (Int32.ofNat qn)), .val (.int ap), .val (.int xx), .val (.int c0), .val (.int c1), .val (.int yd), .val (.ref ca), .val (.ref a), .val (.int mi), .val (.ref x), .unset, .unset, .unset] [])) _
                refine XS.iconst X_189.here hx rfl (hb hby at_484) ?_
                show Steps p.tables e below (T_189.setTop (mkF m 485 #[.val (.int p0), .val (.int p1), .val (.int p2), .val (.int p3), .val (.ref ms), .val (.int st), .val (.int co), .val (.int kd), .val (.int (Int32.ofNat pn)), .val (.int (Int32.ofNat qn)), .val (.int ap), .val (.int xx), .val (.int c0), .val (.int c1), .val (.int yd), .val (.ref ca), .val (.ref a), .val (.int mi), .val (.ref x), .unset, .unset, .unset] [(.int (1 : Int32))])) _
                refine XS.goto X_189.here hx rfl (pc0 := 485) (pc' := 489) rfl (hb hby at_485) (by decide) (by decide) ?_
                have ev_ri : ri = (1 : Int32) := by rw [hv_ri, if_neg q_203, if_pos q_204]
                rw [ev_ri] at ktg
                exact ktg
              · skip
                show Steps p.tables e below (T_189.setTop (mkF m 476 #[.val (.int p0), .val (.int p1), .val (.int p2), .val (.int p3), .val (.ref ms), .val (.int st), .val (.int co), .val (.int kd), .val (.int (Int32.ofNat pn)), .val (.int (Int32.ofNat qn)), .val (.int ap), .val (.int xx), .val (.int c0), .val (.int c1), .val (.int yd), .val (.ref ca), .val (.ref a), .val (.int mi), .val (.ref x), .unset, .unset, .unset] [(.int (22 : Int32)), (.int (Int32.ofNat pn))])) _
                refine XS.icmpNo X_189.here hx rfl (hb hby at_476) rfl (flt q_204).2.2.1 ?_
                show Steps p.tables e below (T_189.setTop (mkF m 479 #[.val (.int p0), .val (.int p1), .val (.int p2), .val (.int p3), .val (.ref ms), .val (.int st), .val (.int co), .val (.int kd), .val (.int (Int32.ofNat pn)), .val (.int (Int32.ofNat qn)), .val (.int ap), .val (.int xx), .val (.int c0), .val (.int c1), .val (.int yd), .val (.ref ca), .val (.ref a), .val (.int mi), .val (.ref x), .unset, .unset, .unset] [])) _
                refine XS.iload X_189.here hx rfl (hb hby at_479) rfl ?_
                by_cases q_205 : mi = (0 : Int32)
                · skip
                  show Steps p.tables e below (T_189.setTop (mkF m 481 #[.val (.int p0), .val (.int p1), .val (.int p2), .val (.int p3), .val (.ref ms), .val (.int st), .val (.int co), .val (.int kd), .val (.int (Int32.ofNat pn)), .val (.int (Int32.ofNat qn)), .val (.int ap), .val (.int xx), .val (.int c0), .val (.int c1), .val (.int yd), .val (.ref ca), .val (.ref a), .val (.int mi), .val (.ref x), .unset, .unset, .unset] [(.int mi)])) _
                  refine XS.ifYes X_189.here hx rfl (pc0 := 481) (pc' := 488) rfl (hb hby at_481) rfl ((if0 _ _).trans (teq q_205).1) (by decide) (by decide) ?_
                  show Steps p.tables e below (T_189.setTop (mkF m 488 #[.val (.int p0), .val (.int p1), .val (.int p2), .val (.int p3), .val (.ref ms), .val (.int st), .val (.int co), .val (.int kd), .val (.int (Int32.ofNat pn)), .val (.int (Int32.ofNat qn)), .val (.int ap), .val (.int xx), .val (.int c0), .val (.int c1), .val (.int yd), .val (.ref ca), .val (.ref a), .val (.int mi), .val (.ref x), .unset, .unset, .unset] [])) _
                  refine XS.iconst X_189.here hx rfl (hb hby at_488) ?_
                  have ev_ri : ri = (0 : Int32) := by rw [hv_ri, if_neg q_203, if_neg q_204, if_pos q_205]
                  rw [ev_ri] at ktg
                  exact ktg
                · skip
                  show Steps p.tables e below (T_189.setTop (mkF m 481 #[.val (.int p0), .val (.int p1), .val (.int p2), .val (.int p3), .val (.ref ms), .val (.int st), .val (.int co), .val (.int kd), .val (.int (Int32.ofNat pn)), .val (.int (Int32.ofNat qn)), .val (.int ap), .val (.int xx), .val (.int c0), .val (.int c1), .val (.int yd), .val (.ref ca), .val (.ref a), .val (.int mi), .val (.ref x), .unset, .unset, .unset] [(.int mi)])) _
                  refine XS.ifNo X_189.here hx rfl (hb hby at_481) rfl ((if0 _ _).trans (feq q_205).1) ?_
                  show Steps p.tables e below (T_189.setTop (mkF m 484 #[.val (.int p0), .val (.int p1), .val (.int p2), .val (.int p3), .val (.ref ms), .val (.int st), .val (.int co), .val (.int kd), .val (.int (Int32.ofNat pn)), .val (.int (Int32.ofNat qn)), .val (.int ap), .val (.int xx), .val (.int c0), .val (.int c1), .val (.int yd), .val (.ref ca), .val (.ref a), .val (.int mi), .val (.ref x), .unset, .unset, .unset] [])) _
                  refine XS.iconst X_189.here hx rfl (hb hby at_484) ?_
                  show Steps p.tables e below (T_189.setTop (mkF m 485 #[.val (.int p0), .val (.int p1), .val (.int p2), .val (.int p3), .val (.ref ms), .val (.int st), .val (.int co), .val (.int kd), .val (.int (Int32.ofNat pn)), .val (.int (Int32.ofNat qn)), .val (.int ap), .val (.int xx), .val (.int c0), .val (.int c1), .val (.int yd), .val (.ref ca), .val (.ref a), .val (.int mi), .val (.ref x), .unset, .unset, .unset] [(.int (1 : Int32))])) _
                  refine XS.goto X_189.here hx rfl (pc0 := 485) (pc' := 489) rfl (hb hby at_485) (by decide) (by decide) ?_
                  have ev_ri : ri = (1 : Int32) := by rw [hv_ri, if_neg q_203, if_neg q_204, if_neg q_205]
                  rw [ev_ri] at ktg
                  exact ktg
            done)
          have hri : xx = ap → ri = 1 := fun hxa => by rw [hv_ri, hv_mi]; simp [hxa]
          have pre_207 : Rch p.tables e below (s₁.setTop (entryFrame m #[(.int p0), (.int p1), (.int p2), (.int p3)] maxLocals)) (T_189.setTop (mkF m 551 #[.val (.int p0), .val (.int p1), .val (.int p2), .val (.int p3), .val (.ref ms), .val (.int st), .val (.int co), .val (.int kd), .val (.int (Int32.ofNat pn)), .val (.int (Int32.ofNat qn)), .val (.int ap), .val (.int xx), .val (.int c0), .val (.int c1), .val (.int yd), .val (.ref ca), .val (.ref a), .val (.int mi), .val (.ref x), .val (.int ri), .unset, .unset] [])) := fun tgt ktg => pre_206 tgt (by
            show Steps p.tables e below (T_189.setTop (mkF m 489 #[.val (.int p0), .val (.int p1), .val (.int p2), .val (.int p3), .val (.ref ms), .val (.int st), .val (.int co), .val (.int kd), .val (.int (Int32.ofNat pn)), .val (.int (Int32.ofNat qn)), .val (.int ap), .val (.int xx), .val (.int c0), .val (.int c1), .val (.int yd), .val (.ref ca), .val (.ref a), .val (.int mi), .val (.ref x), .unset, .unset, .unset] [(.int ri)])) _
            refine XS.istore X_189.here hx rfl (hb hby at_489) rfl (l' := #[.val (.int p0), .val (.int p1), .val (.int p2), .val (.int p3), .val (.ref ms), .val (.int st), .val (.int co), .val (.int kd), .val (.int (Int32.ofNat pn)), .val (.int (Int32.ofNat qn)), .val (.int ap), .val (.int xx), .val (.int c0), .val (.int c1), .val (.int yd), .val (.ref ca), .val (.ref a), .val (.int mi), .val (.ref x), .val (.int ri), .unset, .unset]) rfl ?_
            show Steps p.tables e below (T_189.setTop (mkF m 491 #[.val (.int p0), .val (.int p1), .val (.int p2), .val (.int p3), .val (.ref ms), .val (.int st), .val (.int co), .val (.int kd), .val (.int (Int32.ofNat pn)), .val (.int (Int32.ofNat qn)), .val (.int ap), .val (.int xx), .val (.int c0), .val (.int c1), .val (.int yd), .val (.ref ca), .val (.ref a), .val (.int mi), .val (.ref x), .val (.int ri), .unset, .unset] [])) _
            refine XS.goto X_189.here hx rfl (pc0 := 491) (pc' := 551) rfl (hb hby at_491) (by decide) (by decide) ?_
            exact ktg)
          exact ⟨T_189.vm, _, T_189, h_189, _, x, xb, kl_189, 6, ri, [83, 101, 110, 100, 101, 114], .unset, X_189.more (by decide) (by decide), e_189, N_119, z_201, hS_189, hk_189, hZ, hown, C_190, f_197, f_198, f_199, f_200, f_191, fE_189, fC_189, fV_189, fA_189, ⟨by decide, rfl⟩, (fun hxa => own_k3 hpn eap (hri hxa) hxa), Or.inl rfl, pre_207⟩
        · skip
          have pre_208 : Rch p.tables e below (s₁.setTop (entryFrame m #[(.int p0), (.int p1), (.int p2), (.int p3)] maxLocals)) (T_118.setTop (mkF m 494 #[.val (.int p0), .val (.int p1), .val (.int p2), .val (.int p3), .val (.ref ms), .val (.int st), .val (.int co), .val (.int kd), .val (.int (Int32.ofNat pn)), .val (.int (Int32.ofNat qn)), .val (.int ap), .val (.int xx), .val (.int c0), .val (.int c1), .val (.int yd), .val (.ref ca), .val (.ref a), .val (.int mi), .unset, .unset, .unset, .unset] [])) := fun tgt ktg => pre_186 tgt (by
            show Steps p.tables e below (T_118.setTop (mkF m 458 #[.val (.int p0), .val (.int p1), .val (.int p2), .val (.int p3), .val (.ref ms), .val (.int st), .val (.int co), .val (.int kd), .val (.int (Int32.ofNat pn)), .val (.int (Int32.ofNat qn)), .val (.int ap), .val (.int xx), .val (.int c0), .val (.int c1), .val (.int yd), .val (.ref ca), .val (.ref a), .val (.int mi), .unset, .unset, .unset, .unset] [(.int (3 : Int32)), (.int kd)])) _
            refine XS.icmpYes X_118.here hx rfl (pc0 := 458) (pc' := 494) rfl (hb hby at_458) rfl (feq c_187).2 (by decide) (by decide) ?_
            exact ktg)
          have pre_209 : Rch p.tables e below (s₁.setTop (entryFrame m #[(.int p0), (.int p1), (.int p2), (.int p3)] maxLocals)) (T_118.setTop (mkF m 497 #[.val (.int p0), .val (.int p1), .val (.int p2), .val (.int p3), .val (.ref ms), .val (.int st), .val (.int co), .val (.int kd), .val (.int (Int32.ofNat pn)), .val (.int (Int32.ofNat qn)), .val (.int ap), .val (.int xx), .val (.int c0), .val (.int c1), .val (.int yd), .val (.ref ca), .val (.ref a), .val (.int mi), .unset, .unset, .unset, .unset] [(.int (4 : Int32)), (.int kd)])) := fun tgt ktg => pre_208 tgt (by
            show Steps p.tables e below (T_118.setTop (mkF m 494 #[.val (.int p0), .val (.int p1), .val (.int p2), .val (.int p3), .val (.ref ms), .val (.int st), .val (.int co), .val (.int kd), .val (.int (Int32.ofNat pn)), .val (.int (Int32.ofNat qn)), .val (.int ap), .val (.int xx), .val (.int c0), .val (.int c1), .val (.int yd), .val (.ref ca), .val (.ref a), .val (.int mi), .unset, .unset, .unset, .unset] [])) _
            refine XS.iload X_118.here hx rfl (hb hby at_494) rfl ?_
            show Steps p.tables e below (T_118.setTop (mkF m 496 #[.val (.int p0), .val (.int p1), .val (.int p2), .val (.int p3), .val (.ref ms), .val (.int st), .val (.int co), .val (.int kd), .val (.int (Int32.ofNat pn)), .val (.int (Int32.ofNat qn)), .val (.int ap), .val (.int xx), .val (.int c0), .val (.int c1), .val (.int yd), .val (.ref ca), .val (.ref a), .val (.int mi), .unset, .unset, .unset, .unset] [(.int kd)])) _
            refine XS.iconst X_118.here hx rfl (hb hby at_496) ?_
            exact ktg)
          by_cases c_210 : kd = (4 : Int32)
          · skip
            have pre_211 : Rch p.tables e below (s₁.setTop (entryFrame m #[(.int p0), (.int p1), (.int p2), (.int p3)] maxLocals)) (T_118.setTop (mkF m 500 #[.val (.int p0), .val (.int p1), .val (.int p2), .val (.int p3), .val (.ref ms), .val (.int st), .val (.int co), .val (.int kd), .val (.int (Int32.ofNat pn)), .val (.int (Int32.ofNat qn)), .val (.int ap), .val (.int xx), .val (.int c0), .val (.int c1), .val (.int yd), .val (.ref ca), .val (.ref a), .val (.int mi), .unset, .unset, .unset, .unset] [])) := fun tgt ktg => pre_209 tgt (by
              show Steps p.tables e below (T_118.setTop (mkF m 497 #[.val (.int p0), .val (.int p1), .val (.int p2), .val (.int p3), .val (.ref ms), .val (.int st), .val (.int co), .val (.int kd), .val (.int (Int32.ofNat pn)), .val (.int (Int32.ofNat qn)), .val (.int ap), .val (.int xx), .val (.int c0), .val (.int c1), .val (.int yd), .val (.ref ca), .val (.ref a), .val (.int mi), .unset, .unset, .unset, .unset] [(.int (4 : Int32)), (.int kd)])) _
              refine XS.icmpNo X_118.here hx rfl (hb hby at_497) rfl (teq c_210).2 ?_
              exact ktg)
            obtain ⟨x, T_212, h_212, k1__212, xb, kl_212, X_212, e_212, E_212, hS_212, hk_212, hZ, hown, fE_212, fC_212, fV_212, fA_212, la_212, lb_212, hC_212, hL_212, hne_212, st_212⟩ := ldcCH X_118 hx hZ hown (hw _ (List.mem_of_getElem? (i := 133) rfl)) wS rfl hS_1 hk_120 hEL (List.mem_of_getElem? (i := 2) rfl) C_120.1 (vs := [(.int (82 : Int32)), (.int (101 : Int32)), (.int (99 : Int32)), (.int (101 : Int32)), (.int (105 : Int32)), (.int (118 : Int32)), (.int (101 : Int32)), (.int (114 : Int32))]) (z := (8 : Int32)) ⟨by decide, by rfl⟩ (by decide) rfl (g := (mkF m 500 #[.val (.int p0), .val (.int p1), .val (.int p2), .val (.int p3), .val (.ref ms), .val (.int st), .val (.int co), .val (.int kd), .val (.int (Int32.ofNat pn)), .val (.int (Int32.ofNat qn)), .val (.int ap), .val (.int xx), .val (.int c0), .val (.int c1), .val (.int yd), .val (.ref ca), .val (.ref a), .val (.int mi), .unset, .unset, .unset, .unset] [])) rfl (hb hby at_500) (n := 32) (by decide) (by decide) (by decide) (by decide)
            have pre_212 : Rch p.tables e below (s₁.setTop (entryFrame m #[(.int p0), (.int p1), (.int p2), (.int p3)] maxLocals)) (T_212.setTop (mkF m 502 #[.val (.int p0), .val (.int p1), .val (.int p2), .val (.int p3), .val (.ref ms), .val (.int st), .val (.int co), .val (.int kd), .val (.int (Int32.ofNat pn)), .val (.int (Int32.ofNat qn)), .val (.int ap), .val (.int xx), .val (.int c0), .val (.int c1), .val (.int yd), .val (.ref ca), .val (.ref a), .val (.int mi), .unset, .unset, .unset, .unset] [(.ref x)])) := fun tgt ktg => pre_211 tgt (st_212 tgt ktg)
            have C_213 : CHr Z consts_1 s.vm h0 T_212.vm h_212 := C_120.trans hC_212
            have f_214 : Sta Z h_212 "java/lang/String" "COMPACT_STRINGS" "Z" (.int cs) := f_121.ext E_212
            have f_215 : Sta Z h_212 "jdk/internal/util/Preconditions" "SIOOBE_FORMATTER" "Ljava/util/function/BiFunction;" u := f_122.ext E_212
            have f_216 : Exa Z h_212 ms "java/lang/String" := f_123.ext E_212
            have f_217 : Fld Z h_212 ms "java/lang/String" "coder" "B" (.int (0 : Int32)) := f_124.ext E_212
            have f_218 : Fld Z h_212 ms "java/lang/String" "value" "[B" (.ref mb) := f_125.ext E_212
            have f_219 : Arv Z h_212 mb km .byte (36 : Int32) [(.int (60 : Int32)), (.int (115 : Int32)), (.int (111 : Int32)), (.int (97 : Int32)), (.int (112 : Int32)), (.int (58 : Int32)), (.int (86 : Int32)), (.int (97 : Int32)), (.int (108 : Int32)), (.int (117 : Int32)), (.int (101 : Int32)), (.int (62 : Int32)), (.int (115 : Int32)), (.int (111 : Int32)), (.int (97 : Int32)), (.int (112 : Int32)), (.int (58 : Int32)), (.int (83 : Int32)), (.int (101 : Int32)), (.int (110 : Int32)), (.int (100 : Int32)), (.int (101 : Int32)), (.int (114 : Int32)), (.int (60 : Int32)), (.int (47 : Int32)), (.int (115 : Int32)), (.int (111 : Int32)), (.int (97 : Int32)), (.int (112 : Int32)), (.int (58 : Int32)), (.int (86 : Int32)), (.int (97 : Int32)), (.int (108 : Int32)), (.int (117 : Int32)), (.int (101 : Int32)), (.int (62 : Int32))] (.int (0 : Int32)) := f_126.ext E_212
            have f_220 : Exa Z h_212 a "java/lang/String" := b1.ext E_212
            have f_221 : Fld Z h_212 a "java/lang/String" "coder" "B" (.int (0 : Int32)) := b2.ext E_212
            have f_222 : Fld Z h_212 a "java/lang/String" "value" "[B" (.ref ba) := b3.ext E_212
            have f_223 : Arv Z h_212 ba kb .byte (38 : Int32) ((bl ((cl0 c0 c1).set (pn + 1) xx)).map Value.int) (.int (0 : Int32)) := b4.ext E_212
            have z_224 : n0 ≤ h_212.size := Nat.le_trans z_131 E_212.1
            have pre_225 : Rch p.tables e below (s₁.setTop (entryFrame m #[(.int p0), (.int p1), (.int p2), (.int p3)] maxLocals)) (T_212.setTop (mkF m 551 #[.val (.int p0), .val (.int p1), .val (.int p2), .val (.int p3), .val (.ref ms), .val (.int st), .val (.int co), .val (.int kd), .val (.int (Int32.ofNat pn)), .val (.int (Int32.ofNat qn)), .val (.int ap), .val (.int xx), .val (.int c0), .val (.int c1), .val (.int yd), .val (.ref ca), .val (.ref a), .val (.int mi), .val (.ref x), .val (.int (0 : Int32)), .unset, .unset] [])) := fun tgt ktg => pre_212 tgt (by
              show Steps p.tables e below (T_212.setTop (mkF m 502 #[.val (.int p0), .val (.int p1), .val (.int p2), .val (.int p3), .val (.ref ms), .val (.int st), .val (.int co), .val (.int kd), .val (.int (Int32.ofNat pn)), .val (.int (Int32.ofNat qn)), .val (.int ap), .val (.int xx), .val (.int c0), .val (.int c1), .val (.int yd), .val (.ref ca), .val (.ref a), .val (.int mi), .unset, .unset, .unset, .unset] [(.ref x)])) _
              refine XS.astore X_212.here hx rfl (hb hby at_502) rfl rfl (l' := #[.val (.int p0), .val (.int p1), .val (.int p2), .val (.int p3), .val (.ref ms), .val (.int st), .val (.int co), .val (.int kd), .val (.int (Int32.ofNat pn)), .val (.int (Int32.ofNat qn)), .val (.int ap), .val (.int xx), .val (.int c0), .val (.int c1), .val (.int yd), .val (.ref ca), .val (.ref a), .val (.int mi), .val (.ref x), .unset, .unset, .unset]) rfl ?_
              show Steps p.tables e below (T_212.setTop (mkF m 504 #[.val (.int p0), .val (.int p1), .val (.int p2), .val (.int p3), .val (.ref ms), .val (.int st), .val (.int co), .val (.int kd), .val (.int (Int32.ofNat pn)), .val (.int (Int32.ofNat qn)), .val (.int ap), .val (.int xx), .val (.int c0), .val (.int c1), .val (.int yd), .val (.ref ca), .val (.ref a), .val (.int mi), .val (.ref x), .unset, .unset, .unset] [])) _
              refine XS.iconst X_212.here hx rfl (hb hby at_504) ?_
              show Steps p.tables e below (T_212.setTop (mkF m 505 #[.val (.int p0), .val (.int p1), .val (.int p2), .val (.int p3), .val (.ref ms), .val (.int st), .val (.int co), .val (.int kd), .val (.int (Int32.ofNat pn)), .val (.int (Int32.ofNat qn)), .val (.int ap), .val (.int xx), .val (.int c0), .val (.int c1), .val (.int yd), .val (.ref ca), .val (.ref a), .val (.int mi), .val (.ref x), .unset, .unset, .unset] [(.int (0 : Int32))])) _
              refine XS.istore X_212.here hx rfl (hb hby at_505) rfl (l' := #[.val (.int p0), .val (.int p1), .val (.int p2), .val (.int p3), .val (.ref ms), .val (.int st), .val (.int co), .val (.int kd), .val (.int (Int32.ofNat pn)), .val (.int (Int32.ofNat qn)), .val (.int ap), .val (.int xx), .val (.int c0), .val (.int c1), .val (.int yd), .val (.ref ca), .val (.ref a), .val (.int mi), .val (.ref x), .val (.int (0 : Int32)), .unset, .unset]) rfl ?_
              show Steps p.tables e below (T_212.setTop (mkF m 507 #[.val (.int p0), .val (.int p1), .val (.int p2), .val (.int p3), .val (.ref ms), .val (.int st), .val (.int co), .val (.int kd), .val (.int (Int32.ofNat pn)), .val (.int (Int32.ofNat qn)), .val (.int ap), .val (.int xx), .val (.int c0), .val (.int c1), .val (.int yd), .val (.ref ca), .val (.ref a), .val (.int mi), .val (.ref x), .val (.int (0 : Int32)), .unset, .unset] [])) _
              refine XS.goto X_212.here hx rfl (pc0 := 507) (pc' := 551) rfl (hb hby at_507) (by decide) (by decide) ?_
              exact ktg)
            exact ⟨T_212.vm, _, T_212, h_212, _, x, xb, kl_212, 8, 0, [82, 101, 99, 101, 105, 118, 101, 114], .unset, X_212.more (by decide) (by decide), e_212, N_119, z_224, hS_212, hk_212, hZ, hown, C_213, f_220, f_221, f_222, f_223, f_214, fE_212, fC_212, fV_212, fA_212, ⟨by decide, rfl⟩, (fun hxa => own_k4 hpn eap hxa), Or.inl rfl, pre_225⟩
          · skip
            have pre_226 : Rch p.tables e below (s₁.setTop (entryFrame m #[(.int p0), (.int p1), (.int p2), (.int p3)] maxLocals)) (T_118.setTop (mkF m 510 #[.val (.int p0), .val (.int p1), .val (.int p2), .val (.int p3), .val (.ref ms), .val (.int st), .val (.int co), .val (.int kd), .val (.int (Int32.ofNat pn)), .val (.int (Int32.ofNat qn)), .val (.int ap), .val (.int xx), .val (.int c0), .val (.int c1), .val (.int yd), .val (.ref ca), .val (.ref a), .val (.int mi), .unset, .unset, .unset, .unset] [])) := fun tgt ktg => pre_209 tgt (by
              show Steps p.tables e below (T_118.setTop (mkF m 497 #[.val (.int p0), .val (.int p1), .val (.int p2), .val (.int p3), .val (.ref ms), .val (.int st), .val (.int co), .val (.int kd), .val (.int (Int32.ofNat pn)), .val (.int (Int32.ofNat qn)), .val (.int ap), .val (.int xx), .val (.int c0), .val (.int c1), .val (.int yd), .val (.ref ca), .val (.ref a), .val (.int mi), .unset, .unset, .unset, .unset] [(.int (4 : Int32)), (.int kd)])) _
              refine XS.icmpYes X_118.here hx rfl (pc0 := 497) (pc' := 510) rfl (hb hby at_497) rfl (feq c_210).2 (by decide) (by decide) ?_
              exact ktg)
            have pre_227 : Rch p.tables e below (s₁.setTop (entryFrame m #[(.int p0), (.int p1), (.int p2), (.int p3)] maxLocals)) (T_118.setTop (mkF m 513 #[.val (.int p0), .val (.int p1), .val (.int p2), .val (.int p3), .val (.ref ms), .val (.int st), .val (.int co), .val (.int kd), .val (.int (Int32.ofNat pn)), .val (.int (Int32.ofNat qn)), .val (.int ap), .val (.int xx), .val (.int c0), .val (.int c1), .val (.int yd), .val (.ref ca), .val (.ref a), .val (.int mi), .unset, .unset, .unset, .unset] [(.int (5 : Int32)), (.int kd)])) := fun tgt ktg => pre_226 tgt (by
              show Steps p.tables e below (T_118.setTop (mkF m 510 #[.val (.int p0), .val (.int p1), .val (.int p2), .val (.int p3), .val (.ref ms), .val (.int st), .val (.int co), .val (.int kd), .val (.int (Int32.ofNat pn)), .val (.int (Int32.ofNat qn)), .val (.int ap), .val (.int xx), .val (.int c0), .val (.int c1), .val (.int yd), .val (.ref ca), .val (.ref a), .val (.int mi), .unset, .unset, .unset, .unset] [])) _
              refine XS.iload X_118.here hx rfl (hb hby at_510) rfl ?_
              show Steps p.tables e below (T_118.setTop (mkF m 512 #[.val (.int p0), .val (.int p1), .val (.int p2), .val (.int p3), .val (.ref ms), .val (.int st), .val (.int co), .val (.int kd), .val (.int (Int32.ofNat pn)), .val (.int (Int32.ofNat qn)), .val (.int ap), .val (.int xx), .val (.int c0), .val (.int c1), .val (.int yd), .val (.ref ca), .val (.ref a), .val (.int mi), .unset, .unset, .unset, .unset] [(.int kd)])) _
              refine XS.iconst X_118.here hx rfl (hb hby at_512) ?_
              exact ktg)
            by_cases c_228 : kd = (5 : Int32)
            · skip
              have pre_229 : Rch p.tables e below (s₁.setTop (entryFrame m #[(.int p0), (.int p1), (.int p2), (.int p3)] maxLocals)) (T_118.setTop (mkF m 516 #[.val (.int p0), .val (.int p1), .val (.int p2), .val (.int p3), .val (.ref ms), .val (.int st), .val (.int co), .val (.int kd), .val (.int (Int32.ofNat pn)), .val (.int (Int32.ofNat qn)), .val (.int ap), .val (.int xx), .val (.int c0), .val (.int c1), .val (.int yd), .val (.ref ca), .val (.ref a), .val (.int mi), .unset, .unset, .unset, .unset] [])) := fun tgt ktg => pre_227 tgt (by
                show Steps p.tables e below (T_118.setTop (mkF m 513 #[.val (.int p0), .val (.int p1), .val (.int p2), .val (.int p3), .val (.ref ms), .val (.int st), .val (.int co), .val (.int kd), .val (.int (Int32.ofNat pn)), .val (.int (Int32.ofNat qn)), .val (.int ap), .val (.int xx), .val (.int c0), .val (.int c1), .val (.int yd), .val (.ref ca), .val (.ref a), .val (.int mi), .unset, .unset, .unset, .unset] [(.int (5 : Int32)), (.int kd)])) _
                refine XS.icmpNo X_118.here hx rfl (hb hby at_513) rfl (teq c_228).2 ?_
                exact ktg)
              have pre_230 : Rch p.tables e below (s₁.setTop (entryFrame m #[(.int p0), (.int p1), (.int p2), (.int p3)] maxLocals)) (T_118.setTop (mkF m 551 #[.val (.int p0), .val (.int p1), .val (.int p2), .val (.int p3), .val (.ref ms), .val (.int st), .val (.int co), .val (.int kd), .val (.int (Int32.ofNat pn)), .val (.int (Int32.ofNat qn)), .val (.int ap), .val (.int xx), .val (.int c0), .val (.int c1), .val (.int yd), .val (.ref ca), .val (.ref a), .val (.int mi), .val (.ref ms), .val (.int mi), .unset, .unset] [])) := fun tgt ktg => pre_229 tgt (by
                show Steps p.tables e below (T_118.setTop (mkF m 516 #[.val (.int p0), .val (.int p1), .val (.int p2), .val (.int p3), .val (.ref ms), .val (.int st), .val (.int co), .val (.int kd), .val (.int (Int32.ofNat pn)), .val (.int (Int32.ofNat qn)), .val (.int ap), .val (.int xx), .val (.int c0), .val (.int c1), .val (.int yd), .val (.ref ca), .val (.ref a), .val (.int mi), .unset, .unset, .unset, .unset] [])) _
                refine XS.aload X_118.here hx rfl (hb hby at_516) rfl rfl ?_
                show Steps p.tables e below (T_118.setTop (mkF m 518 #[.val (.int p0), .val (.int p1), .val (.int p2), .val (.int p3), .val (.ref ms), .val (.int st), .val (.int co), .val (.int kd), .val (.int (Int32.ofNat pn)), .val (.int (Int32.ofNat qn)), .val (.int ap), .val (.int xx), .val (.int c0), .val (.int c1), .val (.int yd), .val (.ref ca), .val (.ref a), .val (.int mi), .unset, .unset, .unset, .unset] [(.ref ms)])) _
                refine XS.astore X_118.here hx rfl (hb hby at_518) rfl rfl (l' := #[.val (.int p0), .val (.int p1), .val (.int p2), .val (.int p3), .val (.ref ms), .val (.int st), .val (.int co), .val (.int kd), .val (.int (Int32.ofNat pn)), .val (.int (Int32.ofNat qn)), .val (.int ap), .val (.int xx), .val (.int c0), .val (.int c1), .val (.int yd), .val (.ref ca), .val (.ref a), .val (.int mi), .val (.ref ms), .unset, .unset, .unset]) rfl ?_
                show Steps p.tables e below (T_118.setTop (mkF m 520 #[.val (.int p0), .val (.int p1), .val (.int p2), .val (.int p3), .val (.ref ms), .val (.int st), .val (.int co), .val (.int kd), .val (.int (Int32.ofNat pn)), .val (.int (Int32.ofNat qn)), .val (.int ap), .val (.int xx), .val (.int c0), .val (.int c1), .val (.int yd), .val (.ref ca), .val (.ref a), .val (.int mi), .val (.ref ms), .unset, .unset, .unset] [])) _
                refine XS.iload X_118.here hx rfl (hb hby at_520) rfl ?_
                show Steps p.tables e below (T_118.setTop (mkF m 522 #[.val (.int p0), .val (.int p1), .val (.int p2), .val (.int p3), .val (.ref ms), .val (.int st), .val (.int co), .val (.int kd), .val (.int (Int32.ofNat pn)), .val (.int (Int32.ofNat qn)), .val (.int ap), .val (.int xx), .val (.int c0), .val (.int c1), .val (.int yd), .val (.ref ca), .val (.ref a), .val (.int mi), .val (.ref ms), .unset, .unset, .unset] [(.int mi)])) _
                refine XS.istore X_118.here hx rfl (hb hby at_522) rfl (l' := #[.val (.int p0), .val (.int p1), .val (.int p2), .val (.int p3), .val (.ref ms), .val (.int st), .val (.int co), .val (.int kd), .val (.int (Int32.ofNat pn)), .val (.int (Int32.ofNat qn)), .val (.int ap), .val (.int xx), .val (.int c0), .val (.int c1), .val (.int yd), .val (.ref ca), .val (.ref a), .val (.int mi), .val (.ref ms), .val (.int mi), .unset, .unset]) rfl ?_
                show Steps p.tables e below (T_118.setTop (mkF m 524 #[.val (.int p0), .val (.int p1), .val (.int p2), .val (.int p3), .val (.ref ms), .val (.int st), .val (.int co), .val (.int kd), .val (.int (Int32.ofNat pn)), .val (.int (Int32.ofNat qn)), .val (.int ap), .val (.int xx), .val (.int c0), .val (.int c1), .val (.int yd), .val (.ref ca), .val (.ref a), .val (.int mi), .val (.ref ms), .val (.int mi), .unset, .unset] [])) _
                refine XS.goto X_118.here hx rfl (pc0 := 524) (pc' := 551) rfl (hb hby at_524) (by decide) (by decide) ?_
                exact ktg)
              exact ⟨T_1.vm, _, T_118, T_118.heap, _, ms, mb, km, 36, mi, mkl, .unset, X_118.more (by decide) (by decide), rfl, N_119, z_131, hS_1, hk_120, hZ, hown, C_120, b1, b2, b3, b4, f_121, f_123, f_124, f_125, f_126, ⟨by decide, rfl⟩, (fun hxa => ⟨fun _ => by rw [hv_mi, if_pos hxa]; decide, fun _ => (own_hm hpn eap hxx).mpr hxa⟩), Or.inl rfl, pre_230⟩
            · skip
              have pre_231 : Rch p.tables e below (s₁.setTop (entryFrame m #[(.int p0), (.int p1), (.int p2), (.int p3)] maxLocals)) (T_118.setTop (mkF m 527 #[.val (.int p0), .val (.int p1), .val (.int p2), .val (.int p3), .val (.ref ms), .val (.int st), .val (.int co), .val (.int kd), .val (.int (Int32.ofNat pn)), .val (.int (Int32.ofNat qn)), .val (.int ap), .val (.int xx), .val (.int c0), .val (.int c1), .val (.int yd), .val (.ref ca), .val (.ref a), .val (.int mi), .unset, .unset, .unset, .unset] [])) := fun tgt ktg => pre_227 tgt (by
                show Steps p.tables e below (T_118.setTop (mkF m 513 #[.val (.int p0), .val (.int p1), .val (.int p2), .val (.int p3), .val (.ref ms), .val (.int st), .val (.int co), .val (.int kd), .val (.int (Int32.ofNat pn)), .val (.int (Int32.ofNat qn)), .val (.int ap), .val (.int xx), .val (.int c0), .val (.int c1), .val (.int yd), .val (.ref ca), .val (.ref a), .val (.int mi), .unset, .unset, .unset, .unset] [(.int (5 : Int32)), (.int kd)])) _
                refine XS.icmpYes X_118.here hx rfl (pc0 := 513) (pc' := 527) rfl (hb hby at_513) rfl (feq c_228).2 (by decide) (by decide) ?_
                exact ktg)
              have pre_232 : Rch p.tables e below (s₁.setTop (entryFrame m #[(.int p0), (.int p1), (.int p2), (.int p3)] maxLocals)) (T_118.setTop (mkF m 531 #[.val (.int p0), .val (.int p1), .val (.int p2), .val (.int p3), .val (.ref ms), .val (.int st), .val (.int co), .val (.int kd), .val (.int (Int32.ofNat pn)), .val (.int (Int32.ofNat qn)), .val (.int ap), .val (.int xx), .val (.int c0), .val (.int c1), .val (.int yd), .val (.ref ca), .val (.ref a), .val (.int mi), .unset, .unset, .unset, .unset] [(.int (6 : Int32)), (.int kd)])) := fun tgt ktg => pre_231 tgt (by
                show Steps p.tables e below (T_118.setTop (mkF m 527 #[.val (.int p0), .val (.int p1), .val (.int p2), .val (.int p3), .val (.ref ms), .val (.int st), .val (.int co), .val (.int kd), .val (.int (Int32.ofNat pn)), .val (.int (Int32.ofNat qn)), .val (.int ap), .val (.int xx), .val (.int c0), .val (.int c1), .val (.int yd), .val (.ref ca), .val (.ref a), .val (.int mi), .unset, .unset, .unset, .unset] [])) _
                refine XS.iload X_118.here hx rfl (hb hby at_527) rfl ?_
                show Steps p.tables e below (T_118.setTop (mkF m 529 #[.val (.int p0), .val (.int p1), .val (.int p2), .val (.int p3), .val (.ref ms), .val (.int st), .val (.int co), .val (.int kd), .val (.int (Int32.ofNat pn)), .val (.int (Int32.ofNat qn)), .val (.int ap), .val (.int xx), .val (.int c0), .val (.int c1), .val (.int yd), .val (.ref ca), .val (.ref a), .val (.int mi), .unset, .unset, .unset, .unset] [(.int kd)])) _
                refine XS.bipush X_118.here hx rfl (hb hby at_529) ?_
                exact ktg)
              by_cases c_233 : kd = (6 : Int32)
              · skip
                have pre_234 : Rch p.tables e below (s₁.setTop (entryFrame m #[(.int p0), (.int p1), (.int p2), (.int p3)] maxLocals)) (T_118.setTop (mkF m 534 #[.val (.int p0), .val (.int p1), .val (.int p2), .val (.int p3), .val (.ref ms), .val (.int st), .val (.int co), .val (.int kd), .val (.int (Int32.ofNat pn)), .val (.int (Int32.ofNat qn)), .val (.int ap), .val (.int xx), .val (.int c0), .val (.int c1), .val (.int yd), .val (.ref ca), .val (.ref a), .val (.int mi), .unset, .unset, .unset, .unset] [])) := fun tgt ktg => pre_232 tgt (by
                  show Steps p.tables e below (T_118.setTop (mkF m 531 #[.val (.int p0), .val (.int p1), .val (.int p2), .val (.int p3), .val (.ref ms), .val (.int st), .val (.int co), .val (.int kd), .val (.int (Int32.ofNat pn)), .val (.int (Int32.ofNat qn)), .val (.int ap), .val (.int xx), .val (.int c0), .val (.int c1), .val (.int yd), .val (.ref ca), .val (.ref a), .val (.int mi), .unset, .unset, .unset, .unset] [(.int (6 : Int32)), (.int kd)])) _
                  refine XS.icmpNo X_118.here hx rfl (hb hby at_531) rfl (teq c_233).2 ?_
                  exact ktg)
                have pre_235 : Rch p.tables e below (s₁.setTop (entryFrame m #[(.int p0), (.int p1), (.int p2), (.int p3)] maxLocals)) (T_118.setTop (mkF m 551 #[.val (.int p0), .val (.int p1), .val (.int p2), .val (.int p3), .val (.ref ms), .val (.int st), .val (.int co), .val (.int kd), .val (.int (Int32.ofNat pn)), .val (.int (Int32.ofNat qn)), .val (.int ap), .val (.int xx), .val (.int c0), .val (.int c1), .val (.int yd), .val (.ref ca), .val (.ref a), .val (.int mi), .val (.ref a), .val (.int (1 : Int32)), .unset, .unset] [])) := fun tgt ktg => pre_234 tgt (by
                  show Steps p.tables e below (T_118.setTop (mkF m 534 #[.val (.int p0), .val (.int p1), .val (.int p2), .val (.int p3), .val (.ref ms), .val (.int st), .val (.int co), .val (.int kd), .val (.int (Int32.ofNat pn)), .val (.int (Int32.ofNat qn)), .val (.int ap), .val (.int xx), .val (.int c0), .val (.int c1), .val (.int yd), .val (.ref ca), .val (.ref a), .val (.int mi), .unset, .unset, .unset, .unset] [])) _
                  refine XS.aload X_118.here hx rfl (hb hby at_534) rfl rfl ?_
                  show Steps p.tables e below (T_118.setTop (mkF m 536 #[.val (.int p0), .val (.int p1), .val (.int p2), .val (.int p3), .val (.ref ms), .val (.int st), .val (.int co), .val (.int kd), .val (.int (Int32.ofNat pn)), .val (.int (Int32.ofNat qn)), .val (.int ap), .val (.int xx), .val (.int c0), .val (.int c1), .val (.int yd), .val (.ref ca), .val (.ref a), .val (.int mi), .unset, .unset, .unset, .unset] [(.ref a)])) _
                  refine XS.astore X_118.here hx rfl (hb hby at_536) rfl rfl (l' := #[.val (.int p0), .val (.int p1), .val (.int p2), .val (.int p3), .val (.ref ms), .val (.int st), .val (.int co), .val (.int kd), .val (.int (Int32.ofNat pn)), .val (.int (Int32.ofNat qn)), .val (.int ap), .val (.int xx), .val (.int c0), .val (.int c1), .val (.int yd), .val (.ref ca), .val (.ref a), .val (.int mi), .val (.ref a), .unset, .unset, .unset]) rfl ?_
                  show Steps p.tables e below (T_118.setTop (mkF m 538 #[.val (.int p0), .val (.int p1), .val (.int p2), .val (.int p3), .val (.ref ms), .val (.int st), .val (.int co), .val (.int kd), .val (.int (Int32.ofNat pn)), .val (.int (Int32.ofNat qn)), .val (.int ap), .val (.int xx), .val (.int c0), .val (.int c1), .val (.int yd), .val (.ref ca), .val (.ref a), .val (.int mi), .val (.ref a), .unset, .unset, .unset] [])) _
                  refine XS.iconst X_118.here hx rfl (hb hby at_538) ?_
                  show Steps p.tables e below (T_118.setTop (mkF m 539 #[.val (.int p0), .val (.int p1), .val (.int p2), .val (.int p3), .val (.ref ms), .val (.int st), .val (.int co), .val (.int kd), .val (.int (Int32.ofNat pn)), .val (.int (Int32.ofNat qn)), .val (.int ap), .val (.int xx), .val (.int c0), .val (.int c1), .val (.int yd), .val (.ref ca), .val (.ref a), .val (.int mi), .val (.ref a), .unset, .unset, .unset] [(.int (1 : Int32))])) _
                  refine XS.istore X_118.here hx rfl (hb hby at_539) rfl (l' := #[.val (.int p0), .val (.int p1), .val (.int p2), .val (.int p3), .val (.ref ms), .val (.int st), .val (.int co), .val (.int kd), .val (.int (Int32.ofNat pn)), .val (.int (Int32.ofNat qn)), .val (.int ap), .val (.int xx), .val (.int c0), .val (.int c1), .val (.int yd), .val (.ref ca), .val (.ref a), .val (.int mi), .val (.ref a), .val (.int (1 : Int32)), .unset, .unset]) rfl ?_
                  show Steps p.tables e below (T_118.setTop (mkF m 541 #[.val (.int p0), .val (.int p1), .val (.int p2), .val (.int p3), .val (.ref ms), .val (.int st), .val (.int co), .val (.int kd), .val (.int (Int32.ofNat pn)), .val (.int (Int32.ofNat qn)), .val (.int ap), .val (.int xx), .val (.int c0), .val (.int c1), .val (.int yd), .val (.ref ca), .val (.ref a), .val (.int mi), .val (.ref a), .val (.int (1 : Int32)), .unset, .unset] [])) _
                  refine XS.goto X_118.here hx rfl (pc0 := 541) (pc' := 551) rfl (hb hby at_541) (by decide) (by decide) ?_
                  exact ktg)
                exact ⟨T_1.vm, _, T_118, T_118.heap, _, a, ba, kb, 38, 1, (bl ((cl0 c0 c1).set (pn + 1) xx)), .unset, X_118.more (by decide) (by decide), rfl, N_119, z_131, hS_1, hk_120, hZ, hown, C_120, b1, b2, b3, b4, f_121, b1, b2, b3, b4, ⟨by decide, by rw [own_bll, own_cll]⟩, (fun hxa => own_k6 _), Or.inl rfl, pre_235⟩
              · skip
                have pre_236 : Rch p.tables e below (s₁.setTop (entryFrame m #[(.int p0), (.int p1), (.int p2), (.int p3)] maxLocals)) (T_118.setTop (mkF m 544 #[.val (.int p0), .val (.int p1), .val (.int p2), .val (.int p3), .val (.ref ms), .val (.int st), .val (.int co), .val (.int kd), .val (.int (Int32.ofNat pn)), .val (.int (Int32.ofNat qn)), .val (.int ap), .val (.int xx), .val (.int c0), .val (.int c1), .val (.int yd), .val (.ref ca), .val (.ref a), .val (.int mi), .unset, .unset, .unset, .unset] [])) := fun tgt ktg => pre_232 tgt (by
                  show Steps p.tables e below (T_118.setTop (mkF m 531 #[.val (.int p0), .val (.int p1), .val (.int p2), .val (.int p3), .val (.ref ms), .val (.int st), .val (.int co), .val (.int kd), .val (.int (Int32.ofNat pn)), .val (.int (Int32.ofNat qn)), .val (.int ap), .val (.int xx), .val (.int c0), .val (.int c1), .val (.int yd), .val (.ref ca), .val (.ref a), .val (.int mi), .unset, .unset, .unset, .unset] [(.int (6 : Int32)), (.int kd)])) _
                  refine XS.icmpYes X_118.here hx rfl (pc0 := 531) (pc' := 544) rfl (hb hby at_531) rfl (feq c_233).2 (by decide) (by decide) ?_
                  exact ktg)
                obtain ⟨x, T_237, h_237, k1__237, xb, kl_237, X_237, e_237, E_237, hS_237, hk_237, hZ, hown, fE_237, fC_237, fV_237, fA_237, la_237, lb_237, hC_237, hL_237, hne_237, st_237⟩ := ldcCH X_118 hx hZ hown (hw _ (List.mem_of_getElem? (i := 60) rfl)) wS rfl hS_1 hk_120 hEL (List.mem_of_getElem? (i := 3) rfl) C_120.1 (vs := []) (z := (0 : Int32)) ⟨by decide, by rfl⟩ (by decide) rfl (g := (mkF m 544 #[.val (.int p0), .val (.int p1), .val (.int p2), .val (.int p3), .val (.ref ms), .val (.int st), .val (.int co), .val (.int kd), .val (.int (Int32.ofNat pn)), .val (.int (Int32.ofNat qn)), .val (.int ap), .val (.int xx), .val (.int c0), .val (.int c1), .val (.int yd), .val (.ref ca), .val (.ref a), .val (.int mi), .unset, .unset, .unset, .unset] [])) rfl (hb hby at_544) (n := 0) (by decide) (by decide) (by decide) (by decide)
                have pre_237 : Rch p.tables e below (s₁.setTop (entryFrame m #[(.int p0), (.int p1), (.int p2), (.int p3)] maxLocals)) (T_237.setTop (mkF m 546 #[.val (.int p0), .val (.int p1), .val (.int p2), .val (.int p3), .val (.ref ms), .val (.int st), .val (.int co), .val (.int kd), .val (.int (Int32.ofNat pn)), .val (.int (Int32.ofNat qn)), .val (.int ap), .val (.int xx), .val (.int c0), .val (.int c1), .val (.int yd), .val (.ref ca), .val (.ref a), .val (.int mi), .unset, .unset, .unset, .unset] [(.ref x)])) := fun tgt ktg => pre_236 tgt (st_237 tgt ktg)
                have C_238 : CHr Z consts_1 s.vm h0 T_237.vm h_237 := C_120.trans hC_237
                have f_239 : Sta Z h_237 "java/lang/String" "COMPACT_STRINGS" "Z" (.int cs) := f_121.ext E_237
                have f_240 : Sta Z h_237 "jdk/internal/util/Preconditions" "SIOOBE_FORMATTER" "Ljava/util/function/BiFunction;" u := f_122.ext E_237
                have f_241 : Exa Z h_237 ms "java/lang/String" := f_123.ext E_237
                have f_242 : Fld Z h_237 ms "java/lang/String" "coder" "B" (.int (0 : Int32)) := f_124.ext E_237
                have f_243 : Fld Z h_237 ms "java/lang/String" "value" "[B" (.ref mb) := f_125.ext E_237
                have f_244 : Arv Z h_237 mb km .byte (36 : Int32) [(.int (60 : Int32)), (.int (115 : Int32)), (.int (111 : Int32)), (.int (97 : Int32)), (.int (112 : Int32)), (.int (58 : Int32)), (.int (86 : Int32)), (.int (97 : Int32)), (.int (108 : Int32)), (.int (117 : Int32)), (.int (101 : Int32)), (.int (62 : Int32)), (.int (115 : Int32)), (.int (111 : Int32)), (.int (97 : Int32)), (.int (112 : Int32)), (.int (58 : Int32)), (.int (83 : Int32)), (.int (101 : Int32)), (.int (110 : Int32)), (.int (100 : Int32)), (.int (101 : Int32)), (.int (114 : Int32)), (.int (60 : Int32)), (.int (47 : Int32)), (.int (115 : Int32)), (.int (111 : Int32)), (.int (97 : Int32)), (.int (112 : Int32)), (.int (58 : Int32)), (.int (86 : Int32)), (.int (97 : Int32)), (.int (108 : Int32)), (.int (117 : Int32)), (.int (101 : Int32)), (.int (62 : Int32))] (.int (0 : Int32)) := f_126.ext E_237
                have f_245 : Exa Z h_237 a "java/lang/String" := b1.ext E_237
                have f_246 : Fld Z h_237 a "java/lang/String" "coder" "B" (.int (0 : Int32)) := b2.ext E_237
                have f_247 : Fld Z h_237 a "java/lang/String" "value" "[B" (.ref ba) := b3.ext E_237
                have f_248 : Arv Z h_237 ba kb .byte (38 : Int32) ((bl ((cl0 c0 c1).set (pn + 1) xx)).map Value.int) (.int (0 : Int32)) := b4.ext E_237
                have z_249 : n0 ≤ h_237.size := Nat.le_trans z_131 E_237.1
                have pre_250 : Rch p.tables e below (s₁.setTop (entryFrame m #[(.int p0), (.int p1), (.int p2), (.int p3)] maxLocals)) (T_237.setTop (mkF m 551 #[.val (.int p0), .val (.int p1), .val (.int p2), .val (.int p3), .val (.ref ms), .val (.int st), .val (.int co), .val (.int kd), .val (.int (Int32.ofNat pn)), .val (.int (Int32.ofNat qn)), .val (.int ap), .val (.int xx), .val (.int c0), .val (.int c1), .val (.int yd), .val (.ref ca), .val (.ref a), .val (.int mi), .val (.ref x), .val (.int (1 : Int32)), .unset, .unset] [])) := fun tgt ktg => pre_237 tgt (by
                  show Steps p.tables e below (T_237.setTop (mkF m 546 #[.val (.int p0), .val (.int p1), .val (.int p2), .val (.int p3), .val (.ref ms), .val (.int st), .val (.int co), .val (.int kd), .val (.int (Int32.ofNat pn)), .val (.int (Int32.ofNat qn)), .val (.int ap), .val (.int xx), .val (.int c0), .val (.int c1), .val (.int yd), .val (.ref ca), .val (.ref a), .val (.int mi), .unset, .unset, .unset, .unset] [(.ref x)])) _
                  refine XS.astore X_237.here hx rfl (hb hby at_546) rfl rfl (l' := #[.val (.int p0), .val (.int p1), .val (.int p2), .val (.int p3), .val (.ref ms), .val (.int st), .val (.int co), .val (.int kd), .val (.int (Int32.ofNat pn)), .val (.int (Int32.ofNat qn)), .val (.int ap), .val (.int xx), .val (.int c0), .val (.int c1), .val (.int yd), .val (.ref ca), .val (.ref a), .val (.int mi), .val (.ref x), .unset, .unset, .unset]) rfl ?_
                  show Steps p.tables e below (T_237.setTop (mkF m 548 #[.val (.int p0), .val (.int p1), .val (.int p2), .val (.int p3), .val (.ref ms), .val (.int st), .val (.int co), .val (.int kd), .val (.int (Int32.ofNat pn)), .val (.int (Int32.ofNat qn)), .val (.int ap), .val (.int xx), .val (.int c0), .val (.int c1), .val (.int yd), .val (.ref ca), .val (.ref a), .val (.int mi), .val (.ref x), .unset, .unset, .unset] [])) _
                  refine XS.iconst X_237.here hx rfl (hb hby at_548) ?_
                  show Steps p.tables e below (T_237.setTop (mkF m 549 #[.val (.int p0), .val (.int p1), .val (.int p2), .val (.int p3), .val (.ref ms), .val (.int st), .val (.int co), .val (.int kd), .val (.int (Int32.ofNat pn)), .val (.int (Int32.ofNat qn)), .val (.int ap), .val (.int xx), .val (.int c0), .val (.int c1), .val (.int yd), .val (.ref ca), .val (.ref a), .val (.int mi), .val (.ref x), .unset, .unset, .unset] [(.int (1 : Int32))])) _
                  refine XS.istore X_237.here hx rfl (hb hby at_549) rfl (l' := #[.val (.int p0), .val (.int p1), .val (.int p2), .val (.int p3), .val (.ref ms), .val (.int st), .val (.int co), .val (.int kd), .val (.int (Int32.ofNat pn)), .val (.int (Int32.ofNat qn)), .val (.int ap), .val (.int xx), .val (.int c0), .val (.int c1), .val (.int yd), .val (.ref ca), .val (.ref a), .val (.int mi), .val (.ref x), .val (.int (1 : Int32)), .unset, .unset]) rfl ?_
                  exact ktg)
                exact ⟨T_237.vm, _, T_237, h_237, _, x, xb, kl_237, 0, 1, [], .unset, X_237.more (by decide) (by decide), e_237, N_119, z_249, hS_237, hk_237, hZ, hown, C_238, f_245, f_246, f_247, f_248, f_239, fE_237, fC_237, fV_237, fA_237, ⟨by decide, rfl⟩, (fun hxa => own_k7 _), Or.inl rfl, pre_250⟩
  obtain ⟨V_136, K_136', T_136, h_136, L_136, rs, rb, kr, rz, rin, ts, s20, X_136, e_136, N_136, z_136, hS_136, hk_136, hZ, hown, C_136, ja0, ja1, ja2, ja3, ja4, jr0, jr1, jr2, jr3, jp0, jp1, jp2, pre_136⟩ := J_136
  obtain ⟨T_251, h_251, X_251, e_251, E_251, A_251, D_251, U_251, st_251⟩ := newO X_136 hx hZ hown (hw _ (List.mem_of_getElem? (i := 61) rfl)) (hw _ (List.mem_of_getElem? (i := 62) rfl)) (hw _ (List.mem_of_getElem? (i := 63) rfl)) e_136 (g := (mkF m 551 #[.val (.int p0), .val (.int p1), .val (.int p2), .val (.int p3), .val (.ref ms), .val (.int st), .val (.int co), .val (.int kd), .val (.int (Int32.ofNat pn)), .val (.int (Int32.ofNat qn)), .val (.int ap), .val (.int xx), .val (.int c0), .val (.int c1), .val (.int yd), .val (.ref ca), .val (.ref a), .val (.int mi), .val (.ref rs), .val (.int rin), s20, .unset] [])) rfl (hb hby at_551) (by decide) (by decide)
  obtain ⟨r, g_251⟩ : ∃ nm_, nm_ = h_136.size := ⟨_, rfl⟩
  rw [← g_251] at A_251 D_251 U_251 st_251
  have ne_a_r : a ≠ r := Nat.ne_of_lt (Nat.lt_of_lt_of_le ja0.lt (Nat.le_of_eq g_251.symm))
  have ne_ba_r : ba ≠ r := Nat.ne_of_lt (Nat.lt_of_lt_of_le ja3.lt (Nat.le_of_eq g_251.symm))
  have ne_rs_r : rs ≠ r := Nat.ne_of_lt (Nat.lt_of_lt_of_le jr0.lt (Nat.le_of_eq g_251.symm))
  have ne_rb_r : rb ≠ r := Nat.ne_of_lt (Nat.lt_of_lt_of_le jr3.lt (Nat.le_of_eq g_251.symm))
  have g_r : n0 ≤ r := Nat.le_trans z_136 (Nat.le_of_eq g_251.symm)
  have f_252 : Safe Z consts_1 V_136 h_136 r := Safe.new (Nat.le_of_eq g_251.symm)
  have pre_251 : Rch p.tables e below (s₁.setTop (entryFrame m #[(.int p0), (.int p1), (.int p2), (.int p3)] maxLocals)) (T_251.setTop (mkF m 554 #[.val (.int p0), .val (.int p1), .val (.int p2), .val (.int p3), .val (.ref ms), .val (.int st), .val (.int co), .val (.int kd), .val (.int (Int32.ofNat pn)), .val (.int (Int32.ofNat qn)), .val (.int ap), .val (.int xx), .val (.int c0), .val (.int c1), .val (.int yd), .val (.ref ca), .val (.ref a), .val (.int mi), .val (.ref rs), .val (.int rin), s20, .unset] [(.ref r)])) := fun tgt ktg => pre_136 tgt (st_251 tgt ktg)
  have C_253 : CHr Z consts_1 s.vm h0 V_136 h_251 := C_136.trans (CHr.ext E_251 C_136.1)
  have hk_253 := Nat.le_trans hk_136 E_251.1
  have f_254 : Exa Z h_251 a "java/lang/String" := ja0.ext E_251
  have f_255 : Fld Z h_251 a "java/lang/String" "coder" "B" (.int (0 : Int32)) := ja1.ext E_251
  have f_256 : Fld Z h_251 a "java/lang/String" "value" "[B" (.ref ba) := ja2.ext E_251
  have f_257 : Arv Z h_251 ba kb .byte (38 : Int32) ((bl ((cl0 c0 c1).set (pn + 1) xx)).map Value.int) (.int (0 : Int32)) := ja3.ext E_251
  have f_258 : Sta Z h_251 "java/lang/String" "COMPACT_STRINGS" "Z" (.int cs) := ja4.ext E_251
  have f_259 : Exa Z h_251 rs "java/lang/String" := jr0.ext E_251
  have f_260 : Fld Z h_251 rs "java/lang/String" "coder" "B" (.int (0 : Int32)) := jr1.ext E_251
  have f_261 : Fld Z h_251 rs "java/lang/String" "value" "[B" (.ref rb) := jr2.ext E_251
  have f_262 : Arv Z h_251 rb kr .byte (Int32.ofNat rz) (ts.map Value.int) (.int (0 : Int32)) := jr3.ext E_251
  have f_263 : Safe Z consts_1 V_136 h_251 r := Safe.ext E_251 C_136.1 f_252
  have z_264 : n0 ≤ h_251.size := Nat.le_trans z_136 E_251.1
  have f_265 : Exa Z h_251 r "Soap$Response" := A_251
  have f_266 : Fld Z h_251 r "Soap$Response" "status" "I" (.int (0 : Int32)) := D_251 (Or.inr (hw _ (List.mem_of_getElem? (i := 74) rfl))) (ty := .int) (by decide)
  have f_267 : Fld Z h_251 r "Soap$Response" "body" "Ljava/lang/String;" .null := D_251 (Or.inr (hw _ (List.mem_of_getElem? (i := 76) rfl))) (ty := (.object "java/lang/String")) (by decide)
  have pre_268 : Rch p.tables e below (s₁.setTop (entryFrame m #[(.int p0), (.int p1), (.int p2), (.int p3)] maxLocals)) (T_251.setTop (mkF m 559 #[.val (.int p0), .val (.int p1), .val (.int p2), .val (.int p3), .val (.ref ms), .val (.int st), .val (.int co), .val (.int kd), .val (.int (Int32.ofNat pn)), .val (.int (Int32.ofNat qn)), .val (.int ap), .val (.int xx), .val (.int c0), .val (.int c1), .val (.int yd), .val (.ref ca), .val (.ref a), .val (.int mi), .val (.ref rs), .val (.int rin), s20, .unset] [(.ref a), (.int st), (.ref r), (.ref r)])) := fun tgt ktg => pre_251 tgt (by
    show Steps p.tables e below (T_251.setTop (mkF m 554 #[.val (.int p0), .val (.int p1), .val (.int p2), .val (.int p3), .val (.ref ms), .val (.int st), .val (.int co), .val (.int kd), .val (.int (Int32.ofNat pn)), .val (.int (Int32.ofNat qn)), .val (.int ap), .val (.int xx), .val (.int c0), .val (.int c1), .val (.int yd), .val (.ref ca), .val (.ref a), .val (.int mi), .val (.ref rs), .val (.int rin), s20, .unset] [(.ref r)])) _
    refine XS.dup X_251.here hx rfl (hb hby at_554) rfl rfl ?_
    show Steps p.tables e below (T_251.setTop (mkF m 555 #[.val (.int p0), .val (.int p1), .val (.int p2), .val (.int p3), .val (.ref ms), .val (.int st), .val (.int co), .val (.int kd), .val (.int (Int32.ofNat pn)), .val (.int (Int32.ofNat qn)), .val (.int ap), .val (.int xx), .val (.int c0), .val (.int c1), .val (.int yd), .val (.ref ca), .val (.ref a), .val (.int mi), .val (.ref rs), .val (.int rin), s20, .unset] [(.ref r), (.ref r)])) _
    refine XS.iload X_251.here hx rfl (hb hby at_555) rfl ?_
    show Steps p.tables e below (T_251.setTop (mkF m 557 #[.val (.int p0), .val (.int p1), .val (.int p2), .val (.int p3), .val (.ref ms), .val (.int st), .val (.int co), .val (.int kd), .val (.int (Int32.ofNat pn)), .val (.int (Int32.ofNat qn)), .val (.int ap), .val (.int xx), .val (.int c0), .val (.int c1), .val (.int yd), .val (.ref ca), .val (.ref a), .val (.int mi), .val (.ref rs), .val (.int rin), s20, .unset] [(.int st), (.ref r), (.ref r)])) _
    refine XS.aload X_251.here hx rfl (hb hby at_557) rfl rfl ?_
    exact ktg)
  obtain ⟨_, _, ⟨T_269, L_269, k_269, n_269⟩, -, X_269, ⟨Lc_269, hQ_269, l_269, y_269, z_269⟩, st_269⟩ := X_251.specialBack hx (y := (⟨"Soap$Response", "<init>", "(ILjava/lang/String;)V"⟩ : MethodName)) rfl hown (mvT hZ (hw _ (List.mem_of_getElem? (i := 64) rfl))) (mvT hZ (hw _ (List.mem_of_getElem? (i := 65) rfl))) (mvT hZ (hw _ (List.mem_of_getElem? (i := 66) rfl))) (by decide) (backOf (W := 1) (rmrsi l Z a0 hw [] r st a h_251 n0 z_264 f_265 f_266 f_267 g_r) hZ (hw _ (List.mem_of_getElem? (i := 66) rfl)) (hw _ (List.mem_of_getElem? (i := 63) rfl)) (by decide) (by decide)) (g := (mkF m 559 #[.val (.int p0), .val (.int p1), .val (.int p2), .val (.int p3), .val (.ref ms), .val (.int st), .val (.int co), .val (.int kd), .val (.int (Int32.ofNat pn)), .val (.int (Int32.ofNat qn)), .val (.int ap), .val (.int xx), .val (.int c0), .val (.int c1), .val (.int yd), .val (.ref ca), .val (.ref a), .val (.int mi), .val (.ref rs), .val (.int rin), s20, .unset] [(.ref a), (.int st), (.ref r), (.ref r)])) rfl (by rw [hml]; rfl) (Steps.refl _) (a := r) (argsL := [(.int st), (.ref a)]) (rest := [(.ref r)]) (lenOf pd_22 rfl) rfl (by show 2 * 0 + _ ≤ _; exact Nat.le_of_eq rfl) (hb hby at_559) (fun _ _ => ⟨rfl, e_251, (by decide : 8 + 0 ≤ _), (by decide : 266 + 0 ≤ _)⟩)
  dsimp only [Pt.U, Pt.locs, Pt.cells, Pt.slots] at X_269 l_269 y_269 z_269 st_269 hQ_269
  subst l_269 y_269 z_269
  obtain ⟨rfl, Nq_269, Kq_269, r1, r2, r3⟩ := hQ_269
  have N_270 := Fr.app N_136 Nq_269
  have pre_269 : Rch p.tables e below (s₁.setTop (entryFrame m #[(.int p0), (.int p1), (.int p2), (.int p3)] maxLocals)) (T_269.setTop (mkF m 562 #[.val (.int p0), .val (.int p1), .val (.int p2), .val (.int p3), .val (.ref ms), .val (.int st), .val (.int co), .val (.int kd), .val (.int (Int32.ofNat pn)), .val (.int (Int32.ofNat qn)), .val (.int ap), .val (.int xx), .val (.int c0), .val (.int c1), .val (.int yd), .val (.ref ca), .val (.ref a), .val (.int mi), .val (.ref rs), .val (.int rin), s20, .unset] [(.ref r)])) := fun tgt ktg => pre_268 tgt (st_269.trans ktg)
  have C_271 : CHr Z consts_1 s.vm h0 V_136 T_269.heap := C_253.trans (CHr.keep Kq_269 (sfS f_263 sf0) C_253.1)
  have hk_271 := Nat.le_trans hk_253 Kq_269.1
  have f_272 : Exa Z T_269.heap a "java/lang/String" := f_254.keep Kq_269
  have f_273 : Fld Z T_269.heap a "java/lang/String" "coder" "B" (.int (0 : Int32)) := f_255.keep Kq_269 (ninS ne_a_r nin0)
  have f_274 : Fld Z T_269.heap a "java/lang/String" "value" "[B" (.ref ba) := f_256.keep Kq_269 (ninS ne_a_r nin0)
  have f_275 : Arv Z T_269.heap ba kb .byte (38 : Int32) ((bl ((cl0 c0 c1).set (pn + 1) xx)).map Value.int) (.int (0 : Int32)) := f_257.keep Kq_269 (ninS ne_ba_r nin0)
  have f_276 : Sta Z T_269.heap "java/lang/String" "COMPACT_STRINGS" "Z" (.int cs) := own_sta_keep f_258 Kq_269 (nsS f_265.nostat ns0)
  have f_277 : Exa Z T_269.heap rs "java/lang/String" := f_259.keep Kq_269
  have f_278 : Fld Z T_269.heap rs "java/lang/String" "coder" "B" (.int (0 : Int32)) := f_260.keep Kq_269 (ninS ne_rs_r nin0)
  have f_279 : Fld Z T_269.heap rs "java/lang/String" "value" "[B" (.ref rb) := f_261.keep Kq_269 (ninS ne_rs_r nin0)
  have f_280 : Arv Z T_269.heap rb kr .byte (Int32.ofNat rz) (ts.map Value.int) (.int (0 : Int32)) := f_262.keep Kq_269 (ninS ne_rb_r nin0)
  have f_281 : Safe Z consts_1 V_136 T_269.heap r := Safe.keep Kq_269 (sfS f_263 sf0) C_253.1 f_263
  have f_282 : Exa Z T_269.heap r "Soap$Response" := f_265.keep Kq_269
  have z_283 : n0 ≤ T_269.heap.size := Nat.le_trans z_264 Kq_269.1
  have pre_284 : Rch p.tables e below (s₁.setTop (entryFrame m #[(.int p0), (.int p1), (.int p2), (.int p3)] maxLocals)) (T_269.setTop (mkF m 569 #[.val (.int p0), .val (.int p1), .val (.int p2), .val (.int p3), .val (.ref ms), .val (.int st), .val (.int co), .val (.int kd), .val (.int (Int32.ofNat pn)), .val (.int (Int32.ofNat qn)), .val (.int ap), .val (.int xx), .val (.int c0), .val (.int c1), .val (.int yd), .val (.ref ca), .val (.ref a), .val (.int mi), .val (.ref rs), .val (.int rin), .val (.ref r), .unset] [(.int (400 : Int32)), (.int st)])) := fun tgt ktg => pre_269 tgt (by
    show Steps p.tables e below (T_269.setTop (mkF m 562 #[.val (.int p0), .val (.int p1), .val (.int p2), .val (.int p3), .val (.ref ms), .val (.int st), .val (.int co), .val (.int kd), .val (.int (Int32.ofNat pn)), .val (.int (Int32.ofNat qn)), .val (.int ap), .val (.int xx), .val (.int c0), .val (.int c1), .val (.int yd), .val (.ref ca), .val (.ref a), .val (.int mi), .val (.ref rs), .val (.int rin), s20, .unset] [(.ref r)])) _
    refine XS.astore X_269.here hx rfl (hb hby at_562) rfl rfl (l' := #[.val (.int p0), .val (.int p1), .val (.int p2), .val (.int p3), .val (.ref ms), .val (.int st), .val (.int co), .val (.int kd), .val (.int (Int32.ofNat pn)), .val (.int (Int32.ofNat qn)), .val (.int ap), .val (.int xx), .val (.int c0), .val (.int c1), .val (.int yd), .val (.ref ca), .val (.ref a), .val (.int mi), .val (.ref rs), .val (.int rin), .val (.ref r), .unset]) (by rcases jp2 with rfl | ⟨_, rfl⟩ <;> rfl) ?_
    show Steps p.tables e below (T_269.setTop (mkF m 564 #[.val (.int p0), .val (.int p1), .val (.int p2), .val (.int p3), .val (.ref ms), .val (.int st), .val (.int co), .val (.int kd), .val (.int (Int32.ofNat pn)), .val (.int (Int32.ofNat qn)), .val (.int ap), .val (.int xx), .val (.int c0), .val (.int c1), .val (.int yd), .val (.ref ca), .val (.ref a), .val (.int mi), .val (.ref rs), .val (.int rin), .val (.ref r), .unset] [])) _
    refine XS.iload X_269.here hx rfl (hb hby at_564) rfl ?_
    show Steps p.tables e below (T_269.setTop (mkF m 566 #[.val (.int p0), .val (.int p1), .val (.int p2), .val (.int p3), .val (.ref ms), .val (.int st), .val (.int co), .val (.int kd), .val (.int (Int32.ofNat pn)), .val (.int (Int32.ofNat qn)), .val (.int ap), .val (.int xx), .val (.int c0), .val (.int c1), .val (.int yd), .val (.ref ca), .val (.ref a), .val (.int mi), .val (.ref rs), .val (.int rin), .val (.ref r), .unset] [(.int st)])) _
    refine XS.sipush X_269.here hx rfl (hb hby at_566) ?_
    exact ktg)
  obtain ⟨ex, hv_ex⟩ : ∃ nm_ : Int32, nm_ = (if st = (400 : Int32) then (if mi = (0 : Int32) then (0 : Int32) else (if rin = (0 : Int32) then (0 : Int32) else (1 : Int32))) else (0 : Int32)) := ⟨_, rfl⟩
  have pre_288 : Rch p.tables e below (s₁.setTop (entryFrame m #[(.int p0), (.int p1), (.int p2), (.int p3)] maxLocals)) (T_269.setTop (mkF m 587 #[.val (.int p0), .val (.int p1), .val (.int p2), .val (.int p3), .val (.ref ms), .val (.int st), .val (.int co), .val (.int kd), .val (.int (Int32.ofNat pn)), .val (.int (Int32.ofNat qn)), .val (.int ap), .val (.int xx), .val (.int c0), .val (.int c1), .val (.int yd), .val (.ref ca), .val (.ref a), .val (.int mi), .val (.ref rs), .val (.int rin), .val (.ref r), .unset] [(.int ex)])) := fun tgt ktg => pre_284 tgt (by
    by_cases q_285 : st = (400 : Int32)
    · skip
      show Steps p.tables e below (T_269.setTop (mkF m 569 #[.val (.int p0), .val (.int p1), .val (.int p2), .val (.int p3), .val (.ref ms), .val (.int st), .val (.int co), .val (.int kd), .val (.int (Int32.ofNat pn)), .val (.int (Int32.ofNat qn)), .val (.int ap), .val (.int xx), .val (.int c0), .val (.int c1), .val (.int yd), .val (.ref ca), .val (.ref a), .val (.int mi), .val (.ref rs), .val (.int rin), .val (.ref r), .unset] [(.int (400 : Int32)), (.int st)])) _
      refine XS.icmpNo X_269.here hx rfl (hb hby at_569) rfl (teq q_285).2 ?_
      show Steps p.tables e below (T_269.setTop (mkF m 572 #[.val (.int p0), .val (.int p1), .val (.int p2), .val (.int p3), .val (.ref ms), .val (.int st), .val (.int co), .val (.int kd), .val (.int (Int32.ofNat pn)), .val (.int (Int32.ofNat qn)), .val (.int ap), .val (.int xx), .val (.int c0), .val (.int c1), .val (.int yd), .val (.ref ca), .val (.ref a), .val (.int mi), .val (.ref rs), .val (.int rin), .val (.ref r), .unset] [])) _
      refine XS.iload X_269.here hx rfl (hb hby at_572) rfl ?_
      by_cases q_286 : mi = (0 : Int32)
      · skip
        show Steps p.tables e below (T_269.setTop (mkF m 574 #[.val (.int p0), .val (.int p1), .val (.int p2), .val (.int p3), .val (.ref ms), .val (.int st), .val (.int co), .val (.int kd), .val (.int (Int32.ofNat pn)), .val (.int (Int32.ofNat qn)), .val (.int ap), .val (.int xx), .val (.int c0), .val (.int c1), .val (.int yd), .val (.ref ca), .val (.ref a), .val (.int mi), .val (.ref rs), .val (.int rin), .val (.ref r), .unset] [(.int mi)])) _
        refine XS.ifYes X_269.here hx rfl (pc0 := 574) (pc' := 586) rfl (hb hby at_574) rfl ((if0 _ _).trans (teq q_286).1) (by decide) (by decide) ?_
        show Steps p.tables e below (T_269.setTop (mkF m 586 #[.val (.int p0), .val (.int p1), .val (.int p2), .val (.int p3), .val (.ref ms), .val (.int st), .val (.int co), .val (.int kd), .val (.int (Int32.ofNat pn)), .val (.int (Int32.ofNat qn)), .val (.int ap), .val (.int xx), .val (.int c0), .val (.int c1), .val (.int yd), .val (.ref ca), .val (.ref a), .val (.int mi), .val (.ref rs), .val (.int rin), .val (.ref r), .unset] [])) _
        refine XS.iconst X_269.here hx rfl (hb hby at_586) ?_
        have ev_ex : ex = (0 : Int32) := by rw [hv_ex, if_pos q_285, if_pos q_286]
        rw [ev_ex] at ktg
        exact ktg
      · skip
        show Steps p.tables e below (T_269.setTop (mkF m 574 #[.val (.int p0), .val (.int p1), .val (.int p2), .val (.int p3), .val (.ref ms), .val (.int st), .val (.int co), .val (.int kd), .val (.int (Int32.ofNat pn)), .val (.int (Int32.ofNat qn)), .val (.int ap), .val (.int xx), .val (.int c0), .val (.int c1), .val (.int yd), .val (.ref ca), .val (.ref a), .val (.int mi), .val (.ref rs), .val (.int rin), .val (.ref r), .unset] [(.int mi)])) _
        refine XS.ifNo X_269.here hx rfl (hb hby at_574) rfl ((if0 _ _).trans (feq q_286).1) ?_
        show Steps p.tables e below (T_269.setTop (mkF m 577 #[.val (.int p0), .val (.int p1), .val (.int p2), .val (.int p3), .val (.ref ms), .val (.int st), .val (.int co), .val (.int kd), .val (.int (Int32.ofNat pn)), .val (.int (Int32.ofNat qn)), .val (.int ap), .val (.int xx), .val (.int c0), .val (.int c1), .val (.int yd), .val (.ref ca), .val (.ref a), .val (.int mi), .val (.ref rs), .val (.int rin), .val (.ref r), .unset] [])) _
        refine XS.iload X_269.here hx rfl (hb hby at_577) rfl ?_
        by_cases q_287 : rin = (0 : Int32)
        · skip
          show Steps p.tables e below (T_269.setTop (mkF m 579 #[.val (.int p0), .val (.int p1), .val (.int p2), .val (.int p3), .val (.ref ms), .val (.int st), .val (.int co), .val (.int kd), .val (.int (Int32.ofNat pn)), .val (.int (Int32.ofNat qn)), .val (.int ap), .val (.int xx), .val (.int c0), .val (.int c1), .val (.int yd), .val (.ref ca), .val (.ref a), .val (.int mi), .val (.ref rs), .val (.int rin), .val (.ref r), .unset] [(.int rin)])) _
          refine XS.ifYes X_269.here hx rfl (pc0 := 579) (pc' := 586) rfl (hb hby at_579) rfl ((if0 _ _).trans (teq q_287).1) (by decide) (by decide) ?_
          show Steps p.tables e below (T_269.setTop (mkF m 586 #[.val (.int p0), .val (.int p1), .val (.int p2), .val (.int p3), .val (.ref ms), .val (.int st), .val (.int co), .val (.int kd), .val (.int (Int32.ofNat pn)), .val (.int (Int32.ofNat qn)), .val (.int ap), .val (.int xx), .val (.int c0), .val (.int c1), .val (.int yd), .val (.ref ca), .val (.ref a), .val (.int mi), .val (.ref rs), .val (.int rin), .val (.ref r), .unset] [])) _
          refine XS.iconst X_269.here hx rfl (hb hby at_586) ?_
          have ev_ex : ex = (0 : Int32) := by rw [hv_ex, if_pos q_285, if_neg q_286, if_pos q_287]
          rw [ev_ex] at ktg
          exact ktg
        · skip
          show Steps p.tables e below (T_269.setTop (mkF m 579 #[.val (.int p0), .val (.int p1), .val (.int p2), .val (.int p3), .val (.ref ms), .val (.int st), .val (.int co), .val (.int kd), .val (.int (Int32.ofNat pn)), .val (.int (Int32.ofNat qn)), .val (.int ap), .val (.int xx), .val (.int c0), .val (.int c1), .val (.int yd), .val (.ref ca), .val (.ref a), .val (.int mi), .val (.ref rs), .val (.int rin), .val (.ref r), .unset] [(.int rin)])) _
          refine XS.ifNo X_269.here hx rfl (hb hby at_579) rfl ((if0 _ _).trans (feq q_287).1) ?_
          show Steps p.tables e below (T_269.setTop (mkF m 582 #[.val (.int p0), .val (.int p1), .val (.int p2), .val (.int p3), .val (.ref ms), .val (.int st), .val (.int co), .val (.int kd), .val (.int (Int32.ofNat pn)), .val (.int (Int32.ofNat qn)), .val (.int ap), .val (.int xx), .val (.int c0), .val (.int c1), .val (.int yd), .val (.ref ca), .val (.ref a), .val (.int mi), .val (.ref rs), .val (.int rin), .val (.ref r), .unset] [])) _
          refine XS.iconst X_269.here hx rfl (hb hby at_582) ?_
          show Steps p.tables e below (T_269.setTop (mkF m 583 #[.val (.int p0), .val (.int p1), .val (.int p2), .val (.int p3), .val (.ref ms), .val (.int st), .val (.int co), .val (.int kd), .val (.int (Int32.ofNat pn)), .val (.int (Int32.ofNat qn)), .val (.int ap), .val (.int xx), .val (.int c0), .val (.int c1), .val (.int yd), .val (.ref ca), .val (.ref a), .val (.int mi), .val (.ref rs), .val (.int rin), .val (.ref r), .unset] [(.int (1 : Int32))])) _
          refine XS.goto X_269.here hx rfl (pc0 := 583) (pc' := 587) rfl (hb hby at_583) (by decide) (by decide) ?_
          have ev_ex : ex = (1 : Int32) := by rw [hv_ex, if_pos q_285, if_neg q_286, if_neg q_287]
          rw [ev_ex] at ktg
          exact ktg
    · skip
      show Steps p.tables e below (T_269.setTop (mkF m 569 #[.val (.int p0), .val (.int p1), .val (.int p2), .val (.int p3), .val (.ref ms), .val (.int st), .val (.int co), .val (.int kd), .val (.int (Int32.ofNat pn)), .val (.int (Int32.ofNat qn)), .val (.int ap), .val (.int xx), .val (.int c0), .val (.int c1), .val (.int yd), .val (.ref ca), .val (.ref a), .val (.int mi), .val (.ref rs), .val (.int rin), .val (.ref r), .unset] [(.int (400 : Int32)), (.int st)])) _
      refine XS.icmpYes X_269.here hx rfl (pc0 := 569) (pc' := 586) rfl (hb hby at_569) rfl (feq q_285).2 (by decide) (by decide) ?_
      show Steps p.tables e below (T_269.setTop (mkF m 586 #[.val (.int p0), .val (.int p1), .val (.int p2), .val (.int p3), .val (.ref ms), .val (.int st), .val (.int co), .val (.int kd), .val (.int (Int32.ofNat pn)), .val (.int (Int32.ofNat qn)), .val (.int ap), .val (.int xx), .val (.int c0), .val (.int c1), .val (.int yd), .val (.ref ca), .val (.ref a), .val (.int mi), .val (.ref rs), .val (.int rin), .val (.ref r), .unset] [])) _
      refine XS.iconst X_269.here hx rfl (hb hby at_586) ?_
      have ev_ex : ex = (0 : Int32) := by rw [hv_ex, if_neg q_285]
      rw [ev_ex] at ktg
      exact ktg
    done)
  have pre_289 : Rch p.tables e below (s₁.setTop (entryFrame m #[(.int p0), (.int p1), (.int p2), (.int p3)] maxLocals)) (T_269.setTop (mkF m 593 #[.val (.int p0), .val (.int p1), .val (.int p2), .val (.int p3), .val (.ref ms), .val (.int st), .val (.int co), .val (.int kd), .val (.int (Int32.ofNat pn)), .val (.int (Int32.ofNat qn)), .val (.int ap), .val (.int xx), .val (.int c0), .val (.int c1), .val (.int yd), .val (.ref ca), .val (.ref a), .val (.int mi), .val (.ref rs), .val (.int rin), .val (.ref r), .val (.int ex)] [(.ref rs), (.ref r)])) := fun tgt ktg => pre_288 tgt (by
    show Steps p.tables e below (T_269.setTop (mkF m 587 #[.val (.int p0), .val (.int p1), .val (.int p2), .val (.int p3), .val (.ref ms), .val (.int st), .val (.int co), .val (.int kd), .val (.int (Int32.ofNat pn)), .val (.int (Int32.ofNat qn)), .val (.int ap), .val (.int xx), .val (.int c0), .val (.int c1), .val (.int yd), .val (.ref ca), .val (.ref a), .val (.int mi), .val (.ref rs), .val (.int rin), .val (.ref r), .unset] [(.int ex)])) _
    refine XS.istore X_269.here hx rfl (hb hby at_587) rfl (l' := #[.val (.int p0), .val (.int p1), .val (.int p2), .val (.int p3), .val (.ref ms), .val (.int st), .val (.int co), .val (.int kd), .val (.int (Int32.ofNat pn)), .val (.int (Int32.ofNat qn)), .val (.int ap), .val (.int xx), .val (.int c0), .val (.int c1), .val (.int yd), .val (.ref ca), .val (.ref a), .val (.int mi), .val (.ref rs), .val (.int rin), .val (.ref r), .val (.int ex)]) rfl ?_
    show Steps p.tables e below (T_269.setTop (mkF m 589 #[.val (.int p0), .val (.int p1), .val (.int p2), .val (.int p3), .val (.ref ms), .val (.int st), .val (.int co), .val (.int kd), .val (.int (Int32.ofNat pn)), .val (.int (Int32.ofNat qn)), .val (.int ap), .val (.int xx), .val (.int c0), .val (.int c1), .val (.int yd), .val (.ref ca), .val (.ref a), .val (.int mi), .val (.ref rs), .val (.int rin), .val (.ref r), .val (.int ex)] [])) _
    refine XS.aload X_269.here hx rfl (hb hby at_589) rfl rfl ?_
    show Steps p.tables e below (T_269.setTop (mkF m 591 #[.val (.int p0), .val (.int p1), .val (.int p2), .val (.int p3), .val (.ref ms), .val (.int st), .val (.int co), .val (.int kd), .val (.int (Int32.ofNat pn)), .val (.int (Int32.ofNat qn)), .val (.int ap), .val (.int xx), .val (.int c0), .val (.int c1), .val (.int yd), .val (.ref ca), .val (.ref a), .val (.int mi), .val (.ref rs), .val (.int rin), .val (.ref r), .val (.int ex)] [(.ref r)])) _
    refine XS.aload X_269.here hx rfl (hb hby at_591) rfl rfl ?_
    exact ktg)
  obtain ⟨cq_290, kq_290, q_290a, q_290b, q_290c⟩ := isOf hZ rfl r1
  obtain ⟨_, _, ⟨T_290, L_290, k_290, n_290⟩, -, X_290, hSn_290, hgr_290, ⟨Lc_290, hQ_290, l_290, y_290, z_290, hCn_290⟩, st_290⟩ := X_269.virtualBackS hx (y := (⟨"Soap$Response", "isSenderFault", "(Ljava/lang/String;)Z"⟩ : MethodName)) (z := (⟨"Soap$Response", "isSenderFault", "(Ljava/lang/String;)Z"⟩ : MethodName)) hown (mvT hZ (hw _ (List.mem_of_getElem? (i := 77) rfl))) (mvT hZ (hw _ (List.mem_of_getElem? (i := 78) rfl))) (notFace_of_selects (args := #[]) (mvT hZ (hw _ (List.mem_of_getElem? (i := 80) rfl)))) (mvT hZ (hw _ (List.mem_of_getElem? (i := 80) rfl))) (mvT hZ (hw _ (List.mem_of_getElem? (i := 79) rfl))) (by decide) (backOfSH (W := 0) (rmsf l Z a0 hw [] r rs a st ba rb rz (bl ((cl0 c0 c1).set (pn + 1) xx)) ts kb kr T_269.heap n0 z_283 r1 r2 r3 f_272 f_273 f_274 f_275 f_277 f_278 f_279 f_280 jp0.1 jp0.2 (by rw [own_bll, own_cll]) cs hcs f_276) hZ (hw _ (List.mem_of_getElem? (i := 81) rfl)) (hw _ (List.mem_of_getElem? (i := 63) rfl)) (by decide) (by decide) hEL C_271.1) q_290a q_290c (g := (mkF m 593 #[.val (.int p0), .val (.int p1), .val (.int p2), .val (.int p3), .val (.ref ms), .val (.int st), .val (.int co), .val (.int kd), .val (.int (Int32.ofNat pn)), .val (.int (Int32.ofNat qn)), .val (.int ap), .val (.int xx), .val (.int c0), .val (.int c1), .val (.int yd), .val (.ref ca), .val (.ref a), .val (.int mi), .val (.ref rs), .val (.int rin), .val (.ref r), .val (.int ex)] [(.ref rs), (.ref r)])) rfl (by rw [hml]; rfl) (Steps.refl _) (argsL := [(.ref rs)]) (rest := []) (lenOf pd_23 rfl) rfl (by show 2 * 0 + _ ≤ _; exact Nat.le_of_eq rfl) (hb hby at_593) (fun _ _ => ⟨rfl, rfl, (by decide : 8 + 2 ≤ _), (by decide : 266 + 148 ≤ _)⟩)
  dsimp only [Pt.U, Pt.locs, Pt.cells, Pt.slots] at X_290 l_290 y_290 z_290 st_290 hQ_290 hSn_290 hgr_290 hCn_290
  subst l_290 y_290 z_290
  obtain ⟨rr, rfl, Nq_290, Kq_290, hR⟩ := hQ_290
  have N_291 := Fr.app N_270 Nq_290
  have pre_290 : Rch p.tables e below (s₁.setTop (entryFrame m #[(.int p0), (.int p1), (.int p2), (.int p3)] maxLocals)) (T_290.setTop (mkF m 596 #[.val (.int p0), .val (.int p1), .val (.int p2), .val (.int p3), .val (.ref ms), .val (.int st), .val (.int co), .val (.int kd), .val (.int (Int32.ofNat pn)), .val (.int (Int32.ofNat qn)), .val (.int ap), .val (.int xx), .val (.int c0), .val (.int c1), .val (.int yd), .val (.ref ca), .val (.ref a), .val (.int mi), .val (.ref rs), .val (.int rin), .val (.ref r), .val (.int ex)] [(.int rr)])) := fun tgt ktg => pre_289 tgt (st_290.trans ktg)
  have hS_290 : s.Since T_290.vm T_290.heap.size := hS_136.trans hSn_290 (Nat.le_trans hk_271 hgr_290)
  have hk_290 := Nat.le_refl T_290.heap.size
  have hZn_290 : Z.Warmed39 T_290.vm := State.Warmed39.trans (t := s.setVm V_136) hZ hSn_290.1
  have hownn_290 : T_290.vm.findClass "ResponseIsSenderFaultPinLaw" = some m.cls := by rw [hSn_290.1.alike.findClass]; exact hown
  have hZ := hZn_290
  have hown := hownn_290
  have Xw_290 : Stand p l e room_1 (s.setVm T_290.vm) m #[(.int p0), (.int p1), (.int p2), (.int p3)] below meth c T_290 _ _ _ := X_290
  have C_292 : CHr Z consts_1 s.vm h0 T_290.vm T_290.heap := C_271.trans hCn_290
  have f_293 : Exa Z T_290.heap a "java/lang/String" := f_272.keep Kq_290
  have f_294 : Fld Z T_290.heap a "java/lang/String" "coder" "B" (.int (0 : Int32)) := f_273.keep Kq_290 nin0
  have f_295 : Fld Z T_290.heap a "java/lang/String" "value" "[B" (.ref ba) := f_274.keep Kq_290 nin0
  have f_296 : Arv Z T_290.heap ba kb .byte (38 : Int32) ((bl ((cl0 c0 c1).set (pn + 1) xx)).map Value.int) (.int (0 : Int32)) := f_275.keep Kq_290 nin0
  have f_297 : Sta Z T_290.heap "java/lang/String" "COMPACT_STRINGS" "Z" (.int cs) := own_sta_keep f_276 Kq_290 ns0
  have f_298 : Exa Z T_290.heap rs "java/lang/String" := f_277.keep Kq_290
  have f_299 : Fld Z T_290.heap rs "java/lang/String" "coder" "B" (.int (0 : Int32)) := f_278.keep Kq_290 nin0
  have f_300 : Fld Z T_290.heap rs "java/lang/String" "value" "[B" (.ref rb) := f_279.keep Kq_290 nin0
  have f_301 : Arv Z T_290.heap rb kr .byte (Int32.ofNat rz) (ts.map Value.int) (.int (0 : Int32)) := f_280.keep Kq_290 nin0
  have f_302 : Exa Z T_290.heap r "Soap$Response" := r1.keep Kq_290
  have f_303 : Fld Z T_290.heap r "Soap$Response" "status" "I" (.int st) := r2.keep Kq_290 nin0
  have f_304 : Fld Z T_290.heap r "Soap$Response" "body" "Ljava/lang/String;" (.ref a) := r3.keep Kq_290 nin0
  have z_305 : n0 ≤ T_290.heap.size := Nat.le_trans z_283 Kq_290.1
  have pre_306 : Rch p.tables e below (s₁.setTop (entryFrame m #[(.int p0), (.int p1), (.int p2), (.int p3)] maxLocals)) (T_290.setTop (mkF m 606 #[.val (.int p0), .val (.int p1), .val (.int p2), .val (.int p3), .val (.ref ms), .val (.int st), .val (.int co), .val (.int kd), .val (.int (Int32.ofNat pn)), .val (.int (Int32.ofNat qn)), .val (.int ap), .val (.int xx), .val (.int c0), .val (.int c1), .val (.int yd), .val (.ref ca), .val (.ref a), .val (.int mi), .val (.ref rs), .val (.int rin), .val (.ref r), .val (.int ex)] [(.int (1 : Int32))])) := fun tgt ktg => pre_290 tgt (by
    show Steps p.tables e below (T_290.setTop (mkF m 596 #[.val (.int p0), .val (.int p1), .val (.int p2), .val (.int p3), .val (.ref ms), .val (.int st), .val (.int co), .val (.int kd), .val (.int (Int32.ofNat pn)), .val (.int (Int32.ofNat qn)), .val (.int ap), .val (.int xx), .val (.int c0), .val (.int c1), .val (.int yd), .val (.ref ca), .val (.ref a), .val (.int mi), .val (.ref rs), .val (.int rin), .val (.ref r), .val (.int ex)] [(.int rr)])) _
    refine XS.iload Xw_290.here hx rfl (hb hby at_596) rfl ?_
    show Steps p.tables e below (T_290.setTop (mkF m 598 #[.val (.int p0), .val (.int p1), .val (.int p2), .val (.int p3), .val (.ref ms), .val (.int st), .val (.int co), .val (.int kd), .val (.int (Int32.ofNat pn)), .val (.int (Int32.ofNat qn)), .val (.int ap), .val (.int xx), .val (.int c0), .val (.int c1), .val (.int yd), .val (.ref ca), .val (.ref a), .val (.int mi), .val (.ref rs), .val (.int rin), .val (.ref r), .val (.int ex)] [(.int ex), (.int rr)])) _
    refine XS.icmpNo Xw_290.here hx rfl (hb hby at_598) rfl (teq (own_fin hR (own_hm hpn eap hxx) jp1 hv_mi hv_ex)).2 ?_
    show Steps p.tables e below (T_290.setTop (mkF m 601 #[.val (.int p0), .val (.int p1), .val (.int p2), .val (.int p3), .val (.ref ms), .val (.int st), .val (.int co), .val (.int kd), .val (.int (Int32.ofNat pn)), .val (.int (Int32.ofNat qn)), .val (.int ap), .val (.int xx), .val (.int c0), .val (.int c1), .val (.int yd), .val (.ref ca), .val (.ref a), .val (.int mi), .val (.ref rs), .val (.int rin), .val (.ref r), .val (.int ex)] [])) _
    refine XS.iconst Xw_290.here hx rfl (hb hby at_601) ?_
    show Steps p.tables e below (T_290.setTop (mkF m 602 #[.val (.int p0), .val (.int p1), .val (.int p2), .val (.int p3), .val (.ref ms), .val (.int st), .val (.int co), .val (.int kd), .val (.int (Int32.ofNat pn)), .val (.int (Int32.ofNat qn)), .val (.int ap), .val (.int xx), .val (.int c0), .val (.int c1), .val (.int yd), .val (.ref ca), .val (.ref a), .val (.int mi), .val (.ref rs), .val (.int rin), .val (.ref r), .val (.int ex)] [(.int (1 : Int32))])) _
    refine XS.goto Xw_290.here hx rfl (pc0 := 602) (pc' := 606) rfl (hb hby at_602) (by decide) (by decide) ?_
    exact ktg)
  obtain ⟨fs, hr, hrun, hended, hW⟩ := Xw_290.leaveW hS_290 hk_290 (v := some (.int (1 : Int32))) (fun h => by rw [Bd.returns] at h; cases h)
  refine ⟨_, _, pre_306 _ ?_, hrun, hended, _, _, rfl, ?_, ?_, hW.1, hW.2.1, hW.2.2.1, hW.2.2.2.mono (by decide) (by decide)⟩
  · show Steps p.tables e below (T_290.setTop (mkF m 606 #[.val (.int p0), .val (.int p1), .val (.int p2), .val (.int p3), .val (.ref ms), .val (.int st), .val (.int co), .val (.int kd), .val (.int (Int32.ofNat pn)), .val (.int (Int32.ofNat qn)), .val (.int ap), .val (.int xx), .val (.int c0), .val (.int c1), .val (.int yd), .val (.ref ca), .val (.ref a), .val (.int mi), .val (.ref rs), .val (.int rin), .val (.ref r), .val (.int ex)] [(.int (1 : Int32))])) _
    exact retN Xw_290 hx (t := .boolean) Bd.returns (by simp) (hb hby at_606) hr
  · show Q0 Z p0 p1 p2 p3 u h0 n0 _ T_290.heap _
    exact ⟨rfl, N_291⟩
  · show CHr Z consts_1 s.vm s.heap T_290.vm T_290.heap
    rw [hh]
    exact C_292.trans (CHv.at Xw_290 hZ hEL C_292.1)
set_option maxRecDepth 65536 in
set_option maxHeartbeats 40000000 in
theorem comes_1 {Post : Tables → Env → Array Value → State → Outcome → State → Prop} (hpost : ∀ tb e args s v u, (limb_1_1.after args s (.returned v) u = true ∧ limb_1_2.after args s (.returned v) u = true ∧ True) → ReturnedEndW s (.returned v) u (Jvm.fieldLocs frame_1_writes args s ++ Jvm.arrayLocs frame_1_arrays args s ++ Jvm.staticLocs frame_1_statics s) 32 5440 → Post tb e args s (.returned v) u) :
    ArmFor flags0 classFile x code maxLocals ret World_1 tables_1 room_1 Calls_1 rest_1 Pre_1 Post := by
  intro l hfl _ _ p e ha hc hk s m args below hf hA hF happ hP
  obtain ⟨hcalls, hrest, hpre⟩ := hP
  obtain ⟨-, -, -, hnamed, -, -, -, hat⟩ := (Spec.applies_iff hf).mp happ
  obtain ⟨hg, hn⟩ := and_e (Cond.before_iff.mp (show (Jvm.Cond.and given_1 narrow_1).before args s = true from hpre))
  obtain ⟨gc, g0⟩ := and_e hg
  obtain ⟨ga0, g1⟩ := and_e g0
  obtain ⟨ga1, g2⟩ := and_e g1
  obtain ⟨ga2, g3⟩ := and_e g2
  obtain ⟨w0, w1, w2, w3, rfl⟩ : ∃ w0 w1 w2 w3 : Value, args = #[w0, w1, w2, w3] := by
    have hs : args.size = 4 := by simpa [Cond.value, given_1] using gc
    obtain ⟨L⟩ := args
    match L, hs with
    | [w0, w1, w2, w3], _ => exact ⟨w0, w1, w2, w3, rfl⟩
  have hw := fun d (hd : d ∈ tables_1) => atoms_spec (ws := Jvm.Cond.code x code maxLocals ret :: tables_1) hat d (List.mem_cons_of_mem _ hd)
  have hfit : Fit s := fun {y c} hc i hi => by
    obtain ⟨ha, rfl⟩ := Array.getElem?_eq_some_iff.mp hc
    have q := List.all_eq_true.mp ((Array.all_eq_true_iff_forall_mem.mp hF) _ (Array.getElem_mem ha)) i (List.mem_range.mpr hi)
    simpa [Array.getElem?_eq_getElem hi] using q
  obtain ⟨hsets, hown0⟩ := atoms_of _ (rest_1_c_eq ▸ (show rest_1_c.before _ s = true from hrest))
  have hr0 := Cond.before_iff.mp hown0
  obtain ⟨i0, ei0⟩ := is_v ga0
  obtain rfl : w0 = (.int i0) := Option.some.inj ei0
  obtain ⟨i1, ei1⟩ := is_v ga1
  obtain rfl : w1 = (.int i1) := Option.some.inj ei1
  obtain ⟨i2, ei2⟩ := is_v ga2
  obtain rfl : w2 = (.int i2) := Option.some.inj ei2
  obtain ⟨i3, ei3⟩ := is_v g3
  obtain rfl : w3 = (.int i3) := Option.some.inj ei3
  have q0 := Cond.before_iff.mp (hsets _ (List.mem_of_getElem? (i := 1) rfl))
  have q1 := not_v (Cond.before_iff.mp (hsets _ (List.mem_of_getElem? (i := 2) rfl)))
  obtain ⟨cs, ecs⟩ := is_v q0
  have S1 : Sta s s.heap "java/lang/String" "COMPACT_STRINGS" "Z" (.int cs) := Sta.start ecs (Or.inl (hsets _ (List.mem_of_getElem? (i := 0) rfl)))
  have hcs : ¬ cs = 0 := gotF (Cond.eq_ints ecs (Term.int_eval _)) q1
  obtain ⟨u, eu, hu⟩ := isR_v (Cond.before_iff.mp (hsets _ (List.mem_of_getElem? (i := 8) rfl)))
  have S2 : Sta s s.heap "jdk/internal/util/Preconditions" "SIOOBE_FORMATTER" "Ljava/util/function/BiFunction;" u := Sta.start eu (Or.inl (hsets _ (List.mem_of_getElem? (i := 7) rfl)))
  have hCH : CHv s consts_1 s.vm s.heap := CHv.start (own_EW hw) (fun p hp => hcalls.1 p hp) (hsets _ (List.mem_of_getElem? (i := 2) rfl)) (hw _ (List.mem_of_getElem? (i := 7) rfl)) (hw _ (List.mem_of_getElem? (i := 6) rfl))
  obtain ⟨n, o, h1, h2, h3, _, L, rfl, ⟨rfl, N⟩, -, hq⟩ := rm0 l s _ hw tables_1 i0 i1 i2 i3 u s.heap s.heap.size (Nat.le_refl _) cs hcs S1 hu S2 p e ha hc hk s m _ below hf ((Spec.applies_iff_loose hf).mp happ).1 ⟨rfl, State.Warmed39.refl s, rfl, hCH⟩ trivial
  refine ⟨n, _, h1, h2, h3, hpost _ _ _ _ _ _ ⟨Cond.after_iff.mpr rfl, Cond.after_iff.mpr (eq_i res_at (Term.int_eval (1)) rfl), trivial⟩ ⟨hq.1, hq.2.1, hq.2.2.1, (hq.2.2.2.sift fun y hy => Or.inr (N y hy)).mono (by decide) (by decide)⟩⟩
theorem main_1_1 : Claimed_1_1 := comes_1 fun _ _ _ _ _ _ h hF => ⟨h.1, hF⟩
theorem main_1_2 : Claimed_1_2 := comes_1 fun _ _ _ _ _ _ h hF => ⟨h.2.1, hF⟩
end Jvm.Pilot.@@N@@
namespace Jvm.Pilot.@@N@@
open Jvm Jvm.ClassFile Sem Op Lib Jvm.Free Jvm.Stand Jvm.Pilot.@@N@@.Jvm.D
/-! MADE BY PROGRAM (witnessworld.py) out of the Statement's table words and the real class files: 21 classes; the members and pool entries that the words name. The judged class is class 1, her method 5. -/
namespace start1
open Jvm.ClassFile
def u (s : String) : CpInfo := .utf8 (stringToUtf16 s)
/-- a pool by its gaps: so many unusable entries, then the entry; so many at the end -/
def gap : Nat → List CpInfo → List CpInfo
  | 0, r => r
  | n + 1, r => .unusable :: gap n r
def poolList (es : List (Nat × CpInfo)) (last : Nat) : List CpInfo := es.foldr (fun e r => gap e.1 (e.2 :: r)) (gap last [])
def pool (es : List (Nat × CpInfo)) (last : Nat) : Array CpInfo := ⟨poolList es last⟩
def fileOf (pool : Array CpInfo) (this : Nat) (attrs : Array Attribute := #[]) (ms : Array MethodInfo := #[]) (fl : Nat := 33) (sup : Nat := 0) (ifs : Array Nat := #[]) (fds : Array FieldInfo := #[]) : ClassFile where
  minorVersion := 0
  majorVersion := 65
  constantPool := pool
  accessFlags := fl
  thisClass := this
  superClass := sup
  interfaces := ifs
  fields := fds
  methods := ms
  attributes := attrs
def plain (name : String) (sup : Option ClassId) : Class where
  name := name
  kind := .ordinary
  loader := none
  accessFlags := 33
  super := sup
  interfaces := #[]
  cf := none
  fields := #[]
  methods := #[]
  instanceTypes := #[]
  staticTypes := #[]
  resolved := #[]
  callSites := []
  init := .initialized
  statics := none
  mirror := none

def pool0 : Array CpInfo := pool [(5, u "<init>"), (0, u "()V"), (1, .class_ 10), (1, u "java/lang/Object")] 113

def k0c0 : Code := { maxStack := 0, maxLocals := 1, code := object_method_1_code, exceptionTable := #[], attributes := #[] }
def k0m0 : Method := { name := "<init>", desc := "()V", sig := { parameters := [], returnType := none }, accessFlags := 1, code := some k0c0 }
/-- java/lang/Object -/
def k0 : Class := { plain "java/lang/Object" none with
  accessFlags := 33
  interfaces := #[]
  cf := some (fileOf pool0 8 #[] #[{ accessFlags := 1, nameIndex := 5, descriptorIndex := 6, attributes := #[] }] 33 0 #[] #[])
  fields := #[]
  methods := #[k0m0]
  instanceTypes := #[]
  staticTypes := #[]
  resolved := Array.replicate 124 none
  statics := none }

def pool1 : Array CpInfo := pool [(2, .class_ 4), (1, u "java/lang/Object"), (0, u "<init>"), (0, u "()V"), (0, .string 8), (0, u "<soap:Value>soap:Sender</soap:Value>"), (0, .methodref 10 11), (0, .class_ 12), (0, .nameAndType 13 14), (0, u "ResponseIsSenderFaultPinLaw"), (0, u "inMarker"), (0, u "(C)Z"), (0, .methodref 10 16), (0, .nameAndType 17 14), (0, u "onceInMarker"), (0, .methodref 10 19), (0, .nameAndType 20 21), (0, u "marker"), (0, u "()Ljava/lang/String;"), (0, .integer 65535), (0, .methodref 24 25), (0, .class_ 26), (0, .nameAndType 27 28), (0, u "java/lang/String"), (0, u "charAt"), (0, u "(I)C"), (0, .methodref 24 30), (0, .nameAndType 5 31), (0, u "([C)V"), (0, .methodref 24 33), (0, .nameAndType 34 35), (0, u "valueOf"), (0, u "(C)Ljava/lang/String;"), (0, .methodref 10 37), (0, .nameAndType 38 39), (0, u "hasChar"), (0, u "(CCCCC)Z"), (0, .string 41), (0, u "Sender"), (0, .string 43), (0, u "Receiver"), (0, .string 45), (0, u ""), (0, .class_ 47), (0, u "Soap$Response"), (0, .methodref 46 49), (0, .nameAndType 5 50), (0, u "(ILjava/lang/String;)V"), (0, .methodref 46 52), (0, .nameAndType 53 54), (0, u "isSenderFault"), (0, u "(Ljava/lang/String;)Z"), (3, u "law"), (0, u "(IIII)Z")] 8

def k1m0 : Method := { name := "<init>", desc := "()V", sig := { parameters := [], returnType := none }, accessFlags := 1, code := none }
def k1c1 : Code := { maxStack := 1, maxLocals := 0, code := method_2_code, exceptionTable := #[], attributes := #[] }
def k1m1 : Method := { name := "marker", desc := "()Ljava/lang/String;", sig := { parameters := [], returnType := some (.object "java/lang/String") }, accessFlags := 10, code := some k1c1 }
def k1c2 : Code := { maxStack := 2, maxLocals := 1, code := method_3_code, exceptionTable := #[], attributes := #[] }
def k1m2 : Method := { name := "inMarker", desc := "(C)Z", sig := { parameters := [.char], returnType := some .boolean }, accessFlags := 10, code := some k1c2 }
def k1c3 : Code := { maxStack := 2, maxLocals := 1, code := method_4_code, exceptionTable := #[], attributes := #[] }
def k1m3 : Method := { name := "onceInMarker", desc := "(C)Z", sig := { parameters := [.char], returnType := some .boolean }, accessFlags := 10, code := some k1c3 }
def k1c4 : Code := { maxStack := 2, maxLocals := 5, code := method_5_code, exceptionTable := #[], attributes := #[] }
def k1m4 : Method := { name := "hasChar", desc := "(CCCCC)Z", sig := { parameters := [.char, .char, .char, .char, .char], returnType := some .boolean }, accessFlags := 10, code := some k1c4 }
def k1c5 : Code := { maxStack := 5, maxLocals := 22, code := code, exceptionTable := #[], attributes := #[] }
def k1m5 : Method := { name := "law", desc := "(IIII)Z", sig := { parameters := [.int, .int, .int, .int], returnType := some .boolean }, accessFlags := 9, code := some k1c5 }
/-- ResponseIsSenderFaultPinLaw -/
def k1 : Class := { plain "ResponseIsSenderFaultPinLaw" (some 0) with
  accessFlags := 49
  interfaces := #[]
  cf := some (fileOf pool1 10 #[] #[{ accessFlags := 1, nameIndex := 5, descriptorIndex := 6, attributes := #[] }, { accessFlags := 10, nameIndex := 20, descriptorIndex := 21, attributes := #[] }, { accessFlags := 10, nameIndex := 13, descriptorIndex := 14, attributes := #[] }, { accessFlags := 10, nameIndex := 17, descriptorIndex := 14, attributes := #[] }, { accessFlags := 10, nameIndex := 38, descriptorIndex := 39, attributes := #[] }, { accessFlags := 9, nameIndex := 58, descriptorIndex := 59, attributes := #[] }] 49 2 #[] #[])
  fields := #[]
  methods := #[k1m0, k1m1, k1m2, k1m3, k1m4, k1m5]
  instanceTypes := #[]
  staticTypes := #[]
  resolved := Array.replicate 68 none
  statics := none }

def pool2 : Array CpInfo := pool [(1, .class_ 2), (0, u "java/io/Serializable"), (0, .class_ 4), (0, u "java/lang/Object")] 2

/-- java/io/Serializable -/
def k2 : Class := { plain "java/io/Serializable" (some 0) with
  accessFlags := 1537
  interfaces := #[]
  cf := some (fileOf pool2 1 #[] #[] 1537 3 #[] #[])
  fields := #[]
  methods := #[]
  instanceTypes := #[]
  staticTypes := #[]
  resolved := Array.replicate 7 none
  statics := none }

def pool3 : Array CpInfo := pool [(1, .class_ 2), (0, u "java/lang/Comparable"), (0, .class_ 4), (0, u "java/lang/Object")] 7

/-- java/lang/Comparable -/
def k3 : Class := { plain "java/lang/Comparable" (some 0) with
  accessFlags := 1537
  interfaces := #[]
  cf := some (fileOf pool3 1 #[] #[] 1537 3 #[] #[])
  fields := #[]
  methods := #[]
  instanceTypes := #[]
  staticTypes := #[]
  resolved := Array.replicate 12 none
  statics := none }

def pool4 : Array CpInfo := pool [(2, .class_ 4), (1, u "java/lang/CharSequence"), (42, .class_ 48), (0, u "java/lang/CharSequence$1CodePointIterator"), (10, .class_ 60), (0, u "java/lang/CharSequence$1CharIterator"), (5, .class_ 67), (0, u "java/lang/Object"), (10, u "toString"), (0, u "()Ljava/lang/String;")] 51

def k4m0 : Method := { name := "toString", desc := "()Ljava/lang/String;", sig := { parameters := [], returnType := some (.object "java/lang/String") }, accessFlags := 1025, code := none }
/-- java/lang/CharSequence -/
def k4 : Class := { plain "java/lang/CharSequence" (some 0) with
  accessFlags := 1537
  interfaces := #[]
  cf := some (fileOf pool4 2 #[.nestMembers #[47, 59]] #[{ accessFlags := 1025, nameIndex := 78, descriptorIndex := 79, attributes := #[] }] 1537 66 #[] #[])
  fields := #[]
  methods := #[k4m0]
  instanceTypes := #[]
  staticTypes := #[]
  resolved := Array.replicate 131 none
  statics := none }

def pool5 : Array CpInfo := pool [(1, .class_ 2), (0, u "java/lang/constant/Constable"), (0, .class_ 4), (0, u "java/lang/Object")] 6

/-- java/lang/constant/Constable -/
def k5 : Class := { plain "java/lang/constant/Constable" (some 0) with
  accessFlags := 1537
  interfaces := #[]
  cf := some (fileOf pool5 1 #[] #[] 1537 3 #[] #[])
  fields := #[]
  methods := #[]
  instanceTypes := #[]
  staticTypes := #[]
  resolved := Array.replicate 11 none
  statics := none }

def pool6 : Array CpInfo := pool [(1, .class_ 2), (0, u "java/lang/constant/ConstantDesc"), (0, .class_ 4), (0, u "java/lang/Object")] 32

/-- java/lang/constant/ConstantDesc -/
def k6 : Class := { plain "java/lang/constant/ConstantDesc" (some 0) with
  accessFlags := 1537
  interfaces := #[]
  cf := some (fileOf pool6 1 #[] #[] 1537 3 #[] #[])
  fields := #[]
  methods := #[]
  instanceTypes := #[]
  staticTypes := #[]
  resolved := Array.replicate 37 none
  statics := none }

def pool7 : Array CpInfo := pool [(1, .methodref 2 3), (0, .class_ 4), (0, .nameAndType 5 6), (0, u "java/lang/Object"), (0, u "<init>"), (0, u "()V"), (2, .fieldref 10 11), (0, .class_ 12), (0, .nameAndType 13 14), (0, u "java/lang/String"), (0, u "value"), (0, u "[B"), (0, .fieldref 10 16), (0, .nameAndType 17 18), (0, u "coder"), (0, u "B"), (2, u "hash"), (0, u "I"), (2, u "hashIsZero"), (0, u "Z"), (0, .methodref 10 28), (0, .nameAndType 5 29), (0, u "([CIILjava/lang/Void;)V"), (8, .fieldref 10 39), (0, .nameAndType 40 26), (0, u "COMPACT_STRINGS"), (1, .class_ 44), (1, u "java/lang/StringUTF16"), (0, u "compress"), (1, .methodref 42 48), (0, .nameAndType 49 50), (0, u "coderFromArrayLen"), (0, u "([BI)B"), (2, u "toBytes"), (53, .class_ 109), (1, u "java/lang/StringLatin1"), (32, u "()Z"), (34, .methodref 42 178), (0, .nameAndType 45 179), (0, u "([CII)[B"), (29, .methodref 10 210), (0, .nameAndType 5 211), (0, u "([BB)V"), (123, .methodref 10 336), (0, .nameAndType 17 337), (0, u "()B"), (25, u "([BI)C"), (5, u "(C)Z"), (21, u "(II)V"), (35, u "(I)C"), (34, .nameAndType 463 464), (0, u "toString"), (0, u "()Ljava/lang/String;"), (27, .methodref 10 493), (0, .nameAndType 494 142), (0, u "isLatin1"), (0, .methodref 107 496), (0, .nameAndType 497 363), (0, u "charAt"), (3, u "checkIndex"), (46, u "(Ljava/lang/CharSequence;)Z"), (26, .class_ 576), (0, u "java/lang/CharSequence"), (12, u "([B[B)I"), (9, u "CASE_INSENSITIVE_ORDER"), (0, u "Ljava/util/Comparator;"), (34, u "indexOf"), (11, .methodref 107 648), (0, .nameAndType 635 589), (61, .interfaceMethodref 575 462), (0, .methodref 10 712), (0, .nameAndType 635 713), (0, u "(Ljava/lang/String;)I"), (68, u "valueOf"), (0, u "(C)Ljava/lang/String;"), (226, u "([C)V"), (4, .methodref 107 1016), (0, .nameAndType 1017 369), (0, u "canEncode"), (0, .methodref 107 1019), (0, .nameAndType 53 1020), (0, u "(C)[B"), (32, .fieldref 1054 1055), (0, .class_ 1056), (0, .nameAndType 1057 1058), (0, u "jdk/internal/util/Preconditions"), (0, u "SIOOBE_FORMATTER"), (0, u "Ljava/util/function/BiFunction;"), (0, .methodref 1054 1060), (0, .nameAndType 501 1061), (0, u "(IILjava/util/function/BiFunction;)I"), (39, u "serialPersistentFields"), (0, u "[Ljava/io/ObjectStreamField;"), (0, .class_ 1104), (0, u "java/lang/String$CaseInsensitiveComparator"), (1, .class_ 1107), (0, u "java/io/Serializable"), (0, .class_ 1109), (0, u "java/lang/Comparable"), (0, .class_ 1111), (0, u "java/lang/constant/Constable"), (0, .class_ 1113), (0, u "java/lang/constant/ConstantDesc"), (2, u "serialVersionUID"), (0, u "J"), (3, u "REPL"), (0, u "C"), (2, u "LATIN1"), (1, u "UTF16"), (163, u "contains")] 159

def k7m0 : Method := { name := "<init>", desc := "()V", sig := { parameters := [], returnType := none }, accessFlags := 1, code := none }
def k7c1 : Code := { maxStack := 5, maxLocals := 2, code := jdk_42_method_3_code, exceptionTable := #[], attributes := #[] }
def k7m1 : Method := { name := "<init>", desc := "([C)V", sig := { parameters := [(.array .char)], returnType := none }, accessFlags := 1, code := some k7c1 }
def k7c2 : Code := { maxStack := 2, maxLocals := 2, code := jdk_42_method_56_code, exceptionTable := #[], attributes := #[] }
def k7m2 : Method := { name := "charAt", desc := "(I)C", sig := { parameters := [.int], returnType := some .char }, accessFlags := 1, code := some k7c2 }
def k7c3 : Code := { maxStack := 2, maxLocals := 3, code := jdk_42_method_84_code, exceptionTable := #[], attributes := #[] }
def k7m3 : Method := { name := "indexOf", desc := "(Ljava/lang/String;)I", sig := { parameters := [(.object "java/lang/String")], returnType := some .int }, accessFlags := 1, code := some k7c3 }
def k7c4 : Code := { maxStack := 2, maxLocals := 2, code := jdk_42_method_97_code, exceptionTable := #[], attributes := #[] }
def k7m4 : Method := { name := "contains", desc := "(Ljava/lang/CharSequence;)Z", sig := { parameters := [(.object "java/lang/CharSequence")], returnType := some .boolean }, accessFlags := 1, code := some k7c4 }
def k7c5 : Code := { maxStack := 1, maxLocals := 1, code := jdk_42_method_126_code, exceptionTable := #[], attributes := #[] }
def k7m5 : Method := { name := "toString", desc := "()Ljava/lang/String;", sig := { parameters := [], returnType := some (.object "java/lang/String") }, accessFlags := 1, code := some k7c5 }
def k7c6 : Code := { maxStack := 4, maxLocals := 1, code := jdk_42_method_139_code, exceptionTable := #[], attributes := #[] }
def k7m6 : Method := { name := "valueOf", desc := "(C)Ljava/lang/String;", sig := { parameters := [.char], returnType := some (.object "java/lang/String") }, accessFlags := 9, code := some k7c6 }
def k7c7 : Code := { maxStack := 4, maxLocals := 6, code := jdk_42_method_149_code, exceptionTable := #[], attributes := #[] }
def k7m7 : Method := { name := "<init>", desc := "([CIILjava/lang/Void;)V", sig := { parameters := [(.array .char), .int, .int, (.object "java/lang/Void")], returnType := none }, accessFlags := 2, code := some k7c7 }
def k7c8 : Code := { maxStack := 2, maxLocals := 3, code := jdk_42_method_151_code, exceptionTable := #[], attributes := #[] }
def k7m8 : Method := { name := "<init>", desc := "([BB)V", sig := { parameters := [(.array .byte), .byte], returnType := none }, accessFlags := 0, code := some k7c8 }
def k7c9 : Code := { maxStack := 1, maxLocals := 1, code := jdk_42_method_152_code, exceptionTable := #[], attributes := #[] }
def k7m9 : Method := { name := "coder", desc := "()B", sig := { parameters := [], returnType := some .byte }, accessFlags := 0, code := some k7c9 }
def k7c10 : Code := { maxStack := 1, maxLocals := 1, code := jdk_42_method_154_code, exceptionTable := #[], attributes := #[] }
def k7m10 : Method := { name := "isLatin1", desc := "()Z", sig := { parameters := [], returnType := some .boolean }, accessFlags := 0, code := some k7c10 }
def k7c11 : Code := { maxStack := 3, maxLocals := 2, code := jdk_42_method_155_code, exceptionTable := #[], attributes := #[] }
def k7m11 : Method := { name := "checkIndex", desc := "(II)V", sig := { parameters := [.int, .int], returnType := none }, accessFlags := 8, code := some k7c11 }
/-- java/lang/String -/
def k7 : Class := { plain "java/lang/String" (some 0) with
  accessFlags := 49
  interfaces := #[2, 3, 4, 5, 6]
  cf := some (fileOf pool7 10 #[.nestMembers #[1103]] #[{ accessFlags := 1, nameIndex := 5, descriptorIndex := 6, attributes := #[] }, { accessFlags := 1, nameIndex := 5, descriptorIndex := 1010, attributes := #[] }, { accessFlags := 1, nameIndex := 497, descriptorIndex := 427, attributes := #[] }, { accessFlags := 1, nameIndex := 635, descriptorIndex := 713, attributes := #[] }, { accessFlags := 1, nameIndex := 1291, descriptorIndex := 548, attributes := #[] }, { accessFlags := 1, nameIndex := 463, descriptorIndex := 464, attributes := #[] }, { accessFlags := 9, nameIndex := 782, descriptorIndex := 783, attributes := #[] }, { accessFlags := 2, nameIndex := 5, descriptorIndex := 29, attributes := #[] }, { accessFlags := 0, nameIndex := 5, descriptorIndex := 211, attributes := #[] }, { accessFlags := 0, nameIndex := 17, descriptorIndex := 337, attributes := #[] }, { accessFlags := 0, nameIndex := 494, descriptorIndex := 142, attributes := #[] }, { accessFlags := 8, nameIndex := 501, descriptorIndex := 391, attributes := #[] }] 49 2 #[1106, 1108, 575, 1110, 1112] #[{ accessFlags := 18, nameIndex := 13, descriptorIndex := 14, attributes := #[] }, { accessFlags := 18, nameIndex := 17, descriptorIndex := 18, attributes := #[] }, { accessFlags := 2, nameIndex := 21, descriptorIndex := 22, attributes := #[] }, { accessFlags := 2, nameIndex := 25, descriptorIndex := 26, attributes := #[] }, { accessFlags := 26, nameIndex := 1116, descriptorIndex := 1117, attributes := #[] }, { accessFlags := 24, nameIndex := 40, descriptorIndex := 26, attributes := #[] }, { accessFlags := 26, nameIndex := 1101, descriptorIndex := 1102, attributes := #[] }, { accessFlags := 26, nameIndex := 1121, descriptorIndex := 1122, attributes := #[] }, { accessFlags := 25, nameIndex := 599, descriptorIndex := 600, attributes := #[] }, { accessFlags := 24, nameIndex := 1125, descriptorIndex := 18, attributes := #[] }, { accessFlags := 24, nameIndex := 1127, descriptorIndex := 18, attributes := #[] }])
  fields := #[{ name := "value", type := (.array .byte), accessFlags := 18, slot := 0, constantValue := 0 }, { name := "coder", type := .byte, accessFlags := 18, slot := 1, constantValue := 0 }, { name := "hash", type := .int, accessFlags := 2, slot := 2, constantValue := 0 }, { name := "hashIsZero", type := .boolean, accessFlags := 2, slot := 3, constantValue := 0 }, { name := "serialVersionUID", type := .long, accessFlags := 26, slot := 0, constantValue := 0 }, { name := "COMPACT_STRINGS", type := .boolean, accessFlags := 24, slot := 1, constantValue := 0 }, { name := "serialPersistentFields", type := (.array (.object "java/io/ObjectStreamField")), accessFlags := 26, slot := 2, constantValue := 0 }, { name := "REPL", type := .char, accessFlags := 26, slot := 3, constantValue := 0 }, { name := "CASE_INSENSITIVE_ORDER", type := (.object "java/util/Comparator"), accessFlags := 25, slot := 4, constantValue := 0 }, { name := "LATIN1", type := .byte, accessFlags := 24, slot := 5, constantValue := 0 }, { name := "UTF16", type := .byte, accessFlags := 24, slot := 6, constantValue := 0 }]
  methods := #[k7m0, k7m1, k7m2, k7m3, k7m4, k7m5, k7m6, k7m7, k7m8, k7m9, k7m10, k7m11]
  instanceTypes := #[(.array .byte), .byte, .int, .boolean]
  staticTypes := #[.long, .boolean, (.array (.object "java/io/ObjectStreamField")), .char, (.object "java/util/Comparator"), .byte, .byte]
  resolved := Array.replicate 1451 none
  statics := some 0 }

def pool8 : Array CpInfo := pool [(1, .class_ 2), (0, u "java/lang/String"), (1, .class_ 6), (1, u "java/lang/Object"), (0, u "<init>"), (0, u "()V"), (0, .methodref 1 10), (0, .nameAndType 11 12), (0, u "checkIndex"), (0, u "(II)V"), (1, .class_ 16), (1, u "java/lang/StringLatin1"), (36, u "([BI)C"), (36, u "canEncode"), (8, .methodref 14 100), (0, .nameAndType 101 102), (0, u "indexOf"), (0, u "([BI[BII)I"), (2, u "(C)Z"), (15, u "$assertionsDisabled"), (0, u "Z"), (98, .class_ 223), (1, u "java/lang/StringLatin1$LinesSpliterator"), (28, u "charAt"), (34, u "([B[B)I"), (92, u "toBytes"), (1, u "(C)[B"), (7, .class_ 391), (0, u "java/lang/StringLatin1$CharsSpliterator")] 3

def k8m0 : Method := { name := "<init>", desc := "()V", sig := { parameters := [], returnType := none }, accessFlags := 0, code := none }
def k8c1 : Code := { maxStack := 2, maxLocals := 2, code := jdk_43_method_2_code, exceptionTable := #[], attributes := #[] }
def k8m1 : Method := { name := "charAt", desc := "([BI)C", sig := { parameters := [(.array .byte), .int], returnType := some .char }, accessFlags := 9, code := some k8c1 }
def k8c2 : Code := { maxStack := 2, maxLocals := 1, code := jdk_43_method_3_code, exceptionTable := #[], attributes := #[] }
def k8m2 : Method := { name := "canEncode", desc := "(C)Z", sig := { parameters := [.char], returnType := some .boolean }, accessFlags := 9, code := some k8c2 }
def k8c3 : Code := { maxStack := 5, maxLocals := 2, code := jdk_43_method_24_code, exceptionTable := #[], attributes := #[] }
def k8m3 : Method := { name := "indexOf", desc := "([B[B)I", sig := { parameters := [(.array .byte), (.array .byte)], returnType := some .int }, accessFlags := 9, code := some k8c3 }
def k8c4 : Code := { maxStack := 3, maxLocals := 11, code := jdk_43_method_25_code, exceptionTable := #[], attributes := #[] }
def k8m4 : Method := { name := "indexOf", desc := "([BI[BII)I", sig := { parameters := [(.array .byte), .int, (.array .byte), .int, .int], returnType := some .int }, accessFlags := 9, code := some k8c4 }
def k8c5 : Code := { maxStack := 4, maxLocals := 1, code := jdk_43_method_46_code, exceptionTable := #[], attributes := #[] }
def k8m5 : Method := { name := "toBytes", desc := "(C)[B", sig := { parameters := [.char], returnType := some (.array .byte) }, accessFlags := 9, code := some k8c5 }
/-- java/lang/StringLatin1 -/
def k8 : Class := { plain "java/lang/StringLatin1" (some 0) with
  accessFlags := 48
  interfaces := #[]
  cf := some (fileOf pool8 14 #[.nestMembers #[390, 221]] #[{ accessFlags := 0, nameIndex := 7, descriptorIndex := 8, attributes := #[] }, { accessFlags := 9, nameIndex := 252, descriptorIndex := 53, attributes := #[] }, { accessFlags := 9, nameIndex := 90, descriptorIndex := 105, attributes := #[] }, { accessFlags := 9, nameIndex := 101, descriptorIndex := 287, attributes := #[] }, { accessFlags := 9, nameIndex := 101, descriptorIndex := 102, attributes := #[] }, { accessFlags := 9, nameIndex := 380, descriptorIndex := 382, attributes := #[] }] 48 4 #[] #[{ accessFlags := 4120, nameIndex := 121, descriptorIndex := 122, attributes := #[] }])
  fields := #[{ name := "$assertionsDisabled", type := .boolean, accessFlags := 4120, slot := 0, constantValue := 0 }]
  methods := #[k8m0, k8m1, k8m2, k8m3, k8m4, k8m5]
  instanceTypes := #[]
  staticTypes := #[.boolean]
  resolved := Array.replicate 395 none
  statics := none }

def pool9 : Array CpInfo := pool [(2, .class_ 4), (1, u "java/lang/Object"), (0, u "<init>"), (0, u "()V"), (17, .class_ 26), (1, u "jdk/internal/util/Preconditions"), (6, u "checkIndex"), (21, .class_ 56), (0, u "jdk/internal/util/Preconditions$4"), (57, .class_ 115), (0, u "jdk/internal/util/Preconditions$1"), (7, u "SIOOBE_FORMATTER"), (0, u "Ljava/util/function/BiFunction;"), (0, .class_ 126), (0, u "jdk/internal/util/Preconditions$2"), (3, u "AIOOBE_FORMATTER"), (0, .class_ 132), (0, u "jdk/internal/util/Preconditions$3"), (3, u "IOOBE_FORMATTER"), (41, u "(IILjava/util/function/BiFunction;)I")] 15

def k9m0 : Method := { name := "<init>", desc := "()V", sig := { parameters := [], returnType := none }, accessFlags := 1, code := none }
def k9c1 : Code := { maxStack := 3, maxLocals := 3, code := jdk_41_method_11_code, exceptionTable := #[], attributes := #[] }
def k9m1 : Method := { name := "checkIndex", desc := "(IILjava/util/function/BiFunction;)I", sig := { parameters := [.int, .int, (.object "java/util/function/BiFunction")], returnType := some .int }, accessFlags := 9, code := some k9c1 }
/-- jdk/internal/util/Preconditions -/
def k9 : Class := { plain "jdk/internal/util/Preconditions" (some 0) with
  accessFlags := 33
  interfaces := #[]
  cf := some (fileOf pool9 24 #[.nestMembers #[55, 131, 125, 114]] #[{ accessFlags := 1, nameIndex := 5, descriptorIndex := 6, attributes := #[] }, { accessFlags := 9, nameIndex := 33, descriptorIndex := 178, attributes := #[] }] 33 2 #[] #[{ accessFlags := 25, nameIndex := 123, descriptorIndex := 124, attributes := #[] }, { accessFlags := 25, nameIndex := 130, descriptorIndex := 124, attributes := #[] }, { accessFlags := 25, nameIndex := 136, descriptorIndex := 124, attributes := #[] }])
  fields := #[{ name := "SIOOBE_FORMATTER", type := (.object "java/util/function/BiFunction"), accessFlags := 25, slot := 0, constantValue := 0 }, { name := "AIOOBE_FORMATTER", type := (.object "java/util/function/BiFunction"), accessFlags := 25, slot := 1, constantValue := 0 }, { name := "IOOBE_FORMATTER", type := (.object "java/util/function/BiFunction"), accessFlags := 25, slot := 2, constantValue := 0 }]
  methods := #[k9m0, k9m1]
  instanceTypes := #[]
  staticTypes := #[(.object "java/util/function/BiFunction"), (.object "java/util/function/BiFunction"), (.object "java/util/function/BiFunction")]
  resolved := Array.replicate 194 none
  statics := some 1 }

def pool10 : Array CpInfo := pool [(6, .class_ 8), (1, u "java/lang/Object"), (0, u "<init>"), (0, u "()V"), (1, .class_ 14), (1, u "java/lang/StringUTF16"), (31, u "$assertionsDisabled"), (0, u "Z"), (13, u "HI_BYTE_SHIFT"), (0, u "I"), (2, u "LO_BYTE_SHIFT"), (49, .methodref 12 116), (0, .nameAndType 117 118), (0, u "compress"), (0, u "([CI[BII)I"), (3, u "([CII)[B"), (138, u "coderFromArrayLen"), (0, u "([BI)B"), (106, .class_ 371), (1, u "java/lang/StringUTF16$LinesSpliterator"), (58, u "MAX_LENGTH"), (196, .class_ 628), (0, u "java/lang/StringUTF16$CodePointsSpliterator"), (0, .class_ 630), (0, u "java/lang/StringUTF16$CharsSpliterator")] 4

def k10m0 : Method := { name := "<init>", desc := "()V", sig := { parameters := [], returnType := none }, accessFlags := 0, code := none }
def k10c1 : Code := { maxStack := 2, maxLocals := 2, code := jdk_52_method_15_code, exceptionTable := #[], attributes := #[] }
def k10m1 : Method := { name := "coderFromArrayLen", desc := "([BI)B", sig := { parameters := [(.array .byte), .int], returnType := some .byte }, accessFlags := 8, code := some k10c1 }
def k10c2 : Code := { maxStack := 5, maxLocals := 6, code := jdk_52_method_16_code, exceptionTable := #[], attributes := #[] }
def k10m2 : Method := { name := "compress", desc := "([CII)[B", sig := { parameters := [(.array .char), .int, .int], returnType := some (.array .byte) }, accessFlags := 9, code := some k10c2 }
def k10c3 : Code := { maxStack := 3, maxLocals := 7, code := jdk_52_method_21_code, exceptionTable := #[], attributes := #[] }
def k10m3 : Method := { name := "compress", desc := "([CI[BII)I", sig := { parameters := [(.array .char), .int, (.array .byte), .int, .int], returnType := some .int }, accessFlags := 9, code := some k10c3 }
/-- java/lang/StringUTF16 -/
def k10 : Class := { plain "java/lang/StringUTF16" (some 0) with
  accessFlags := 48
  interfaces := #[]
  cf := some (fileOf pool10 12 #[.nestMembers #[627, 629, 369]] #[{ accessFlags := 0, nameIndex := 9, descriptorIndex := 10, attributes := #[] }, { accessFlags := 8, nameIndex := 261, descriptorIndex := 262, attributes := #[] }, { accessFlags := 9, nameIndex := 117, descriptorIndex := 122, attributes := #[] }, { accessFlags := 9, nameIndex := 117, descriptorIndex := 118, attributes := #[] }] 48 6 #[] #[{ accessFlags := 26, nameIndex := 61, descriptorIndex := 62, attributes := #[] }, { accessFlags := 26, nameIndex := 65, descriptorIndex := 62, attributes := #[] }, { accessFlags := 24, nameIndex := 430, descriptorIndex := 62, attributes := #[] }, { accessFlags := 4120, nameIndex := 46, descriptorIndex := 47, attributes := #[] }])
  fields := #[{ name := "HI_BYTE_SHIFT", type := .int, accessFlags := 26, slot := 0, constantValue := 0 }, { name := "LO_BYTE_SHIFT", type := .int, accessFlags := 26, slot := 1, constantValue := 0 }, { name := "MAX_LENGTH", type := .int, accessFlags := 24, slot := 2, constantValue := 0 }, { name := "$assertionsDisabled", type := .boolean, accessFlags := 4120, slot := 3, constantValue := 0 }]
  methods := #[k10m0, k10m1, k10m2, k10m3]
  instanceTypes := #[]
  staticTypes := #[.int, .int, .int, .boolean]
  resolved := Array.replicate 635 none
  statics := none }

def pool11 : Array CpInfo := pool [(1, .methodref 2 3), (0, .class_ 4), (0, .nameAndType 5 6), (0, u "java/lang/Object"), (0, u "<init>"), (0, u "()V"), (0, .class_ 8), (0, u "java/lang/Record")] 13

def k11c0 : Code := { maxStack := 1, maxLocals := 1, code := jdk_30_method_1_code, exceptionTable := #[], attributes := #[] }
def k11m0 : Method := { name := "<init>", desc := "()V", sig := { parameters := [], returnType := none }, accessFlags := 4, code := some k11c0 }
/-- java/lang/Record -/
def k11 : Class := { plain "java/lang/Record" (some 0) with
  accessFlags := 1057
  interfaces := #[]
  cf := some (fileOf pool11 7 #[] #[{ accessFlags := 4, nameIndex := 5, descriptorIndex := 6, attributes := #[] }] 1057 2 #[] #[])
  fields := #[]
  methods := #[k11m0]
  instanceTypes := #[]
  staticTypes := #[]
  resolved := Array.replicate 22 none
  statics := none }

def pool12 : Array CpInfo := pool [(1, .methodref 2 3), (0, .class_ 4), (0, .nameAndType 5 6), (0, u "java/lang/Record"), (0, u "<init>"), (0, u "()V"), (0, .fieldref 8 9), (0, .class_ 10), (0, .nameAndType 11 12), (0, u "Soap$Response"), (0, u "status"), (0, u "I"), (0, .fieldref 8 14), (0, .nameAndType 15 16), (0, u "body"), (0, u "Ljava/lang/String;"), (2, .methodref 20 21), (0, .class_ 22), (0, .nameAndType 23 24), (0, u "java/lang/String"), (0, u "contains"), (0, u "(Ljava/lang/CharSequence;)Z"), (0, .string 26), (0, u "<soap:Value>soap:Sender</soap:Value>"), (12, u "(ILjava/lang/String;)V"), (6, u "isSenderFault"), (0, u "(Ljava/lang/String;)Z"), (6, .class_ 55), (0, u "Soap")] 20

def k12c0 : Code := { maxStack := 2, maxLocals := 3, code := prog_20_method_1_code, exceptionTable := #[], attributes := #[] }
def k12m0 : Method := { name := "<init>", desc := "(ILjava/lang/String;)V", sig := { parameters := [.int, (.object "java/lang/String")], returnType := none }, accessFlags := 0, code := some k12c0 }
def k12c1 : Code := { maxStack := 2, maxLocals := 2, code := prog_20_method_3_code, exceptionTable := #[], attributes := #[] }
def k12m1 : Method := { name := "isSenderFault", desc := "(Ljava/lang/String;)Z", sig := { parameters := [(.object "java/lang/String")], returnType := some .boolean }, accessFlags := 0, code := some k12c1 }
/-- Soap$Response -/
def k12 : Class := { plain "Soap$Response" (some 11) with
  accessFlags := 48
  interfaces := #[]
  cf := some (fileOf pool12 8 #[.nestHost 54] #[{ accessFlags := 0, nameIndex := 5, descriptorIndex := 39, attributes := #[] }, { accessFlags := 0, nameIndex := 46, descriptorIndex := 47, attributes := #[] }] 48 2 #[] #[{ accessFlags := 18, nameIndex := 11, descriptorIndex := 12, attributes := #[] }, { accessFlags := 18, nameIndex := 15, descriptorIndex := 16, attributes := #[] }])
  fields := #[{ name := "status", type := .int, accessFlags := 18, slot := 0, constantValue := 0 }, { name := "body", type := (.object "java/lang/String"), accessFlags := 18, slot := 1, constantValue := 0 }]
  methods := #[k12m0, k12m1]
  instanceTypes := #[.int, (.object "java/lang/String")]
  staticTypes := #[]
  resolved := Array.replicate 76 none
  statics := none }

def pool13 : Array CpInfo := pool [(9, u "<init>"), (6, .class_ 18), (1, u "java/lang/Object"), (0, u "()V"), (1, .class_ 23), (1, u "jdk/internal/util/ArraysSupport"), (0, u "LOG2_ARRAY_LONG_INDEX_SCALE"), (0, u "I"), (2, u "U"), (0, u "Ljdk/internal/misc/Unsafe;"), (8, u "BIG_ENDIAN"), (0, u "Z"), (8, u "LOG2_BYTE_BIT_SIZE"), (4, u "LOG2_ARRAY_INT_INDEX_SCALE"), (54, u "JLA"), (0, u "Ljdk/internal/access/JavaLangAccess;"), (11, u "LOG2_ARRAY_BOOLEAN_INDEX_SCALE"), (9, u "LOG2_ARRAY_BYTE_INDEX_SCALE"), (5, u "LOG2_ARRAY_CHAR_INDEX_SCALE"), (5, u "LOG2_ARRAY_SHORT_INDEX_SCALE"), (18, u "LOG2_ARRAY_FLOAT_INDEX_SCALE"), (24, u "LOG2_ARRAY_DOUBLE_INDEX_SCALE"), (89, u "T_BOOLEAN"), (2, u "T_CHAR"), (1, u "T_FLOAT"), (1, u "T_DOUBLE"), (1, u "T_BYTE"), (1, u "T_SHORT"), (1, u "T_INT"), (1, u "T_LONG"), (1, u "SOFT_MAX_ARRAY_LENGTH")] 83

def k13m0 : Method := { name := "<init>", desc := "()V", sig := { parameters := [], returnType := none }, accessFlags := 2, code := none }
/-- jdk/internal/util/ArraysSupport -/
def k13 : Class := { plain "jdk/internal/util/ArraysSupport" (some 0) with
  accessFlags := 33
  interfaces := #[]
  cf := some (fileOf pool13 21 #[] #[{ accessFlags := 2, nameIndex := 9, descriptorIndex := 19, attributes := #[] }] 33 16 #[] #[{ accessFlags := 24, nameIndex := 28, descriptorIndex := 29, attributes := #[] }, { accessFlags := 26, nameIndex := 38, descriptorIndex := 39, attributes := #[] }, { accessFlags := 25, nameIndex := 121, descriptorIndex := 25, attributes := #[] }, { accessFlags := 25, nameIndex := 131, descriptorIndex := 25, attributes := #[] }, { accessFlags := 25, nameIndex := 137, descriptorIndex := 25, attributes := #[] }, { accessFlags := 25, nameIndex := 143, descriptorIndex := 25, attributes := #[] }, { accessFlags := 25, nameIndex := 53, descriptorIndex := 25, attributes := #[] }, { accessFlags := 25, nameIndex := 24, descriptorIndex := 25, attributes := #[] }, { accessFlags := 25, nameIndex := 162, descriptorIndex := 25, attributes := #[] }, { accessFlags := 25, nameIndex := 187, descriptorIndex := 25, attributes := #[] }, { accessFlags := 26, nameIndex := 48, descriptorIndex := 25, attributes := #[] }, { accessFlags := 25, nameIndex := 277, descriptorIndex := 25, attributes := #[] }, { accessFlags := 25, nameIndex := 280, descriptorIndex := 25, attributes := #[] }, { accessFlags := 25, nameIndex := 282, descriptorIndex := 25, attributes := #[] }, { accessFlags := 25, nameIndex := 284, descriptorIndex := 25, attributes := #[] }, { accessFlags := 25, nameIndex := 286, descriptorIndex := 25, attributes := #[] }, { accessFlags := 25, nameIndex := 288, descriptorIndex := 25, attributes := #[] }, { accessFlags := 25, nameIndex := 290, descriptorIndex := 25, attributes := #[] }, { accessFlags := 25, nameIndex := 292, descriptorIndex := 25, attributes := #[] }, { accessFlags := 26, nameIndex := 108, descriptorIndex := 109, attributes := #[] }, { accessFlags := 25, nameIndex := 294, descriptorIndex := 25, attributes := #[] }])
  fields := #[{ name := "U", type := (.object "jdk/internal/misc/Unsafe"), accessFlags := 24, slot := 0, constantValue := 0 }, { name := "BIG_ENDIAN", type := .boolean, accessFlags := 26, slot := 1, constantValue := 0 }, { name := "LOG2_ARRAY_BOOLEAN_INDEX_SCALE", type := .int, accessFlags := 25, slot := 2, constantValue := 0 }, { name := "LOG2_ARRAY_BYTE_INDEX_SCALE", type := .int, accessFlags := 25, slot := 3, constantValue := 0 }, { name := "LOG2_ARRAY_CHAR_INDEX_SCALE", type := .int, accessFlags := 25, slot := 4, constantValue := 0 }, { name := "LOG2_ARRAY_SHORT_INDEX_SCALE", type := .int, accessFlags := 25, slot := 5, constantValue := 0 }, { name := "LOG2_ARRAY_INT_INDEX_SCALE", type := .int, accessFlags := 25, slot := 6, constantValue := 0 }, { name := "LOG2_ARRAY_LONG_INDEX_SCALE", type := .int, accessFlags := 25, slot := 7, constantValue := 0 }, { name := "LOG2_ARRAY_FLOAT_INDEX_SCALE", type := .int, accessFlags := 25, slot := 8, constantValue := 0 }, { name := "LOG2_ARRAY_DOUBLE_INDEX_SCALE", type := .int, accessFlags := 25, slot := 9, constantValue := 0 }, { name := "LOG2_BYTE_BIT_SIZE", type := .int, accessFlags := 26, slot := 10, constantValue := 0 }, { name := "T_BOOLEAN", type := .int, accessFlags := 25, slot := 11, constantValue := 0 }, { name := "T_CHAR", type := .int, accessFlags := 25, slot := 12, constantValue := 0 }, { name := "T_FLOAT", type := .int, accessFlags := 25, slot := 13, constantValue := 0 }, { name := "T_DOUBLE", type := .int, accessFlags := 25, slot := 14, constantValue := 0 }, { name := "T_BYTE", type := .int, accessFlags := 25, slot := 15, constantValue := 0 }, { name := "T_SHORT", type := .int, accessFlags := 25, slot := 16, constantValue := 0 }, { name := "T_INT", type := .int, accessFlags := 25, slot := 17, constantValue := 0 }, { name := "T_LONG", type := .int, accessFlags := 25, slot := 18, constantValue := 0 }, { name := "JLA", type := (.object "jdk/internal/access/JavaLangAccess"), accessFlags := 26, slot := 19, constantValue := 0 }, { name := "SOFT_MAX_ARRAY_LENGTH", type := .int, accessFlags := 25, slot := 20, constantValue := 0 }]
  methods := #[k13m0]
  instanceTypes := #[]
  staticTypes := #[(.object "jdk/internal/misc/Unsafe"), .boolean, .int, .int, .int, .int, .int, .int, .int, .int, .int, .int, .int, .int, .int, .int, .int, .int, .int, (.object "jdk/internal/access/JavaLangAccess"), .int]
  resolved := Array.replicate 378 none
  statics := none }

def pool14 : Array CpInfo := pool [(1, u "java/lang/Cloneable"), (0, .class_ 1), (0, u "java/lang/Object"), (0, .class_ 3)] 3

/-- java/lang/Cloneable -/
def k14 : Class := { plain "java/lang/Cloneable" (some 0) with
  accessFlags := 1537
  interfaces := #[]
  cf := some (fileOf pool14 2 #[] #[] 1537 4 #[] #[])
  fields := #[]
  methods := #[]
  instanceTypes := #[]
  staticTypes := #[]
  resolved := Array.replicate 8 none
  statics := none }

/-- the primitive byte -/
def k15 : Class := { plain "byte" none with kind := .primitive 'B', accessFlags := 0x411 }
/-- [B -/
def k16 : Class := { plain "[B" (some 0) with kind := .array 15 .byte, interfaces := #[14, 2], accessFlags := 1041 }

/-- the primitive char -/
def k17 : Class := { plain "char" none with kind := .primitive 'C', accessFlags := 0x411 }
/-- [C -/
def k18 : Class := { plain "[C" (some 0) with kind := .array 17 .char, interfaces := #[14, 2], accessFlags := 1041 }

/-- the primitive int -/
def k19 : Class := { plain "int" none with kind := .primitive 'I', accessFlags := 0x411 }
/-- [I -/
def k20 : Class := { plain "[I" (some 0) with kind := .array 19 .int, interfaces := #[14, 2], accessFlags := 1041 }

def heap : Heap := #[{ cls := 7, slots := #[.long 0, .int 1, .null, .int 0, .null, .int 0, .int 0], vm := .statics 7 },
  { cls := 9, slots := #[.null, .null, .null], vm := .statics 9 }]
def classes : Array Class := #[k0, k1, k2, k3, k4, k5, k6, k7, k8, k9, k10, k11, k12, k13, k14, k15, k16, k17, k18, k19, k20]
def interned : List (Array UInt16 × Addr) := []
def slotsUsed : Nat := 10
def theMethod : MethodId := ⟨1, 5⟩
def args0 : Array Value := #[.int 400, .int 5, .int 3, .int 4276803]
def aboutOver (below : List Frame) : State where
  vm := { classes := classes, interned := interned.toArray }
  heap := heap
  slotsUsed := slotsUsed
  threads := #[{ frames := .invoking theMethod args0 :: below }]
def below0 : List Frame := [.native { method := ⟨0, 0⟩, args := #[] }]
def about1 : State := aboutOver below0
def p0 : Program := .bare "" "" ""
def e0 : Env := launch0.env 0 0 0
theorem w_frames : about1.frames = Frame.invoking theMethod args0 :: below0 := rfl
set_option maxRecDepth 65536 in
theorem w_args : argsFit about1.vm theMethod args0 = true := by decide +kernel
set_option maxRecDepth 65536 in
theorem w_heap : heapFits about1 = true := by decide +kernel
set_option maxRecDepth 65536 in
theorem w_runnable : about1.curStatus? = some .runnable := by decide +kernel
set_option maxRecDepth 65536 in
theorem w_alone : about1.alone = true := by decide +kernel
set_option maxRecDepth 65536 in
theorem w_named : about1.methodNamed? x = some theMethod := by decide +kernel
set_option maxRecDepth 65536 in
theorem w_hears : about1.hears theMethod below0 = true := by decide +kernel
set_option maxRecDepth 65536 in
theorem w_ripe : about1.ripe theMethod args0 below0 = true := by decide +kernel
theorem w_running : about1.status = .running := rfl
set_option maxRecDepth 65536 in
theorem w_room : about1.hasRoom e0.platform room_1 = true :=
  launch0.hasRoom_least _ room_1 (by decide +kernel) (by decide +kernel) (by decide +kernel) (by decide +kernel) (by decide +kernel) (by decide +kernel)
theorem allAtoms_all (ts : List Jvm.Cond) (a : Array Jvm.Value) (st : Jvm.State) : (allAtoms ts).before a st = ts.all (fun c => c.before a st) := by
  induction ts with
  | nil => rfl
  | cons c t ih =>
    show (Jvm.Cond.and c (allAtoms t)).before a st = _
    rw [Jvm.Cond.before_and, ih, List.all_cons]
def words1 : List Jvm.Cond := Jvm.Cond.code x code maxLocals ret :: tables_1
/-- a 'code' word, met by the world's own term for the bytes: nothing is compared byte by byte -/
theorem code_word {y : MethodName} {bytes : ByteArray} {mx : Nat} {rt : Option FieldType} {a : Array Value} {s : State} {m : MethodId} {meth : Method} {c : Code} (h1 : s.methodNamed? y = some m) (h2 : s.vm.method? m = some meth) (h3 : meth.code = some c) (h4 : c.code = bytes)
    (h5 : (c.maxLocals == mx && c.exceptionTable.isEmpty && decide (c.maxStack ≤ mostOperands) && decide (meth.sig.returnType = rt) && !meth.locks && decide (parseMethodDescriptor y.desc = some meth.sig)) = true) : (Jvm.Cond.code y bytes mx rt).before a s = true := by
  simp only [Bool.and_eq_true, beq_iff_eq, Bool.not_eq_true', decide_eq_true_eq] at h5
  obtain ⟨⟨⟨⟨⟨g1, g2⟩, g3⟩, g4⟩, g5⟩, g6⟩ := h5
  simp [Cond.before, Cond.holds, Cond.value, h1, h2, h3, h4, g1, g2, g3, g4, g5, g6]
def isCode : Jvm.Cond → Bool
  | .code _ _ _ _ => true
  | _ => false
theorem all_split {L : List Jvm.Cond} {P : Jvm.Cond → Bool} (h1 : L.all (fun c => isCode c || P c) = true) (h2 : ∀ c ∈ L.filter isCode, P c = true) : L.all P = true := by
  refine List.all_eq_true.mpr fun c hc => ?_
  have h := List.all_eq_true.mp h1 c hc
  rcases Bool.eq_false_or_eq_true (isCode c) with hi | hi
  · exact h2 c (List.mem_filter.mpr ⟨hc, hi⟩)
  · simpa [hi] using h
set_option maxRecDepth 65536 in
theorem w_c0 : (Jvm.Cond.code x code maxLocals ret).before args0 about1 = true := code_word (m := ⟨1, 5⟩) (meth := k1m5) (c := k1c5) (by decide +kernel) rfl rfl rfl (by decide +kernel)
set_option maxRecDepth 65536 in
theorem w_c1 : (Jvm.Cond.code ({ cls := "ResponseIsSenderFaultPinLaw", name := "marker", desc := "()Ljava/lang/String;" } : Jvm.MethodName) method_2_code (0 : Nat) (Option.some (Jvm.ClassFile.FieldType.object "java/lang/String"))).before args0 about1 = true := code_word (m := ⟨1, 1⟩) (meth := k1m1) (c := k1c1) (by decide +kernel) rfl rfl rfl (by decide +kernel)
set_option maxRecDepth 65536 in
theorem w_c2 : (Jvm.Cond.code ({ cls := "java/lang/String", name := "charAt", desc := "(I)C" } : Jvm.MethodName) jdk_42_method_56_code (2 : Nat) (Option.some Jvm.ClassFile.FieldType.char)).before args0 about1 = true := code_word (m := ⟨7, 2⟩) (meth := k7m2) (c := k7c2) (by decide +kernel) rfl rfl rfl (by decide +kernel)
set_option maxRecDepth 65536 in
theorem w_c3 : (Jvm.Cond.code ({ cls := "java/lang/String", name := "isLatin1", desc := "()Z" } : Jvm.MethodName) jdk_42_method_154_code (1 : Nat) (Option.some Jvm.ClassFile.FieldType.boolean)).before args0 about1 = true := code_word (m := ⟨7, 10⟩) (meth := k7m10) (c := k7c10) (by decide +kernel) rfl rfl rfl (by decide +kernel)
set_option maxRecDepth 65536 in
theorem w_c4 : (Jvm.Cond.code ({ cls := "java/lang/StringLatin1", name := "charAt", desc := "([BI)C" } : Jvm.MethodName) jdk_43_method_2_code (2 : Nat) (Option.some Jvm.ClassFile.FieldType.char)).before args0 about1 = true := code_word (m := ⟨8, 1⟩) (meth := k8m1) (c := k8c1) (by decide +kernel) rfl rfl rfl (by decide +kernel)
set_option maxRecDepth 65536 in
theorem w_c5 : (Jvm.Cond.code ({ cls := "java/lang/String", name := "checkIndex", desc := "(II)V" } : Jvm.MethodName) jdk_42_method_155_code (2 : Nat) (Option.none : Option Jvm.ClassFile.FieldType)).before args0 about1 = true := code_word (m := ⟨7, 11⟩) (meth := k7m11) (c := k7c11) (by decide +kernel) rfl rfl rfl (by decide +kernel)
set_option maxRecDepth 65536 in
theorem w_c6 : (Jvm.Cond.code ({ cls := "jdk/internal/util/Preconditions", name := "checkIndex", desc := "(IILjava/util/function/BiFunction;)I" } : Jvm.MethodName) jdk_41_method_11_code (3 : Nat) (Option.some Jvm.ClassFile.FieldType.int)).before args0 about1 = true := code_word (m := ⟨9, 1⟩) (meth := k9m1) (c := k9c1) (by decide +kernel) rfl rfl rfl (by decide +kernel)
set_option maxRecDepth 65536 in
theorem w_c7 : (Jvm.Cond.code ({ cls := "java/lang/String", name := "<init>", desc := "([C)V" } : Jvm.MethodName) jdk_42_method_3_code (2 : Nat) (Option.none : Option Jvm.ClassFile.FieldType)).before args0 about1 = true := code_word (m := ⟨7, 1⟩) (meth := k7m1) (c := k7c1) (by decide +kernel) rfl rfl rfl (by decide +kernel)
set_option maxRecDepth 65536 in
theorem w_c8 : (Jvm.Cond.code ({ cls := "java/lang/String", name := "<init>", desc := "([CIILjava/lang/Void;)V" } : Jvm.MethodName) jdk_42_method_149_code (6 : Nat) (Option.none : Option Jvm.ClassFile.FieldType)).before args0 about1 = true := code_word (m := ⟨7, 7⟩) (meth := k7m7) (c := k7c7) (by decide +kernel) rfl rfl rfl (by decide +kernel)
set_option maxRecDepth 65536 in
theorem w_c9 : (Jvm.Cond.code ({ cls := "java/lang/Object", name := "<init>", desc := "()V" } : Jvm.MethodName) object_method_1_code (1 : Nat) (Option.none : Option Jvm.ClassFile.FieldType)).before args0 about1 = true := code_word (m := ⟨0, 0⟩) (meth := k0m0) (c := k0c0) (by decide +kernel) rfl rfl rfl (by decide +kernel)
set_option maxRecDepth 65536 in
theorem w_c10 : (Jvm.Cond.code ({ cls := "java/lang/StringUTF16", name := "compress", desc := "([CII)[B" } : Jvm.MethodName) jdk_52_method_16_code (6 : Nat) (Option.some (Jvm.ClassFile.FieldType.array Jvm.ClassFile.FieldType.byte))).before args0 about1 = true := code_word (m := ⟨10, 2⟩) (meth := k10m2) (c := k10c2) (by decide +kernel) rfl rfl rfl (by decide +kernel)
set_option maxRecDepth 65536 in
theorem w_c11 : (Jvm.Cond.code ({ cls := "java/lang/StringUTF16", name := "compress", desc := "([CI[BII)I" } : Jvm.MethodName) jdk_52_method_21_code (7 : Nat) (Option.some Jvm.ClassFile.FieldType.int)).before args0 about1 = true := code_word (m := ⟨10, 3⟩) (meth := k10m3) (c := k10c3) (by decide +kernel) rfl rfl rfl (by decide +kernel)
set_option maxRecDepth 65536 in
theorem w_c12 : (Jvm.Cond.code ({ cls := "java/lang/StringUTF16", name := "coderFromArrayLen", desc := "([BI)B" } : Jvm.MethodName) jdk_52_method_15_code (2 : Nat) (Option.some Jvm.ClassFile.FieldType.byte)).before args0 about1 = true := code_word (m := ⟨10, 1⟩) (meth := k10m1) (c := k10c1) (by decide +kernel) rfl rfl rfl (by decide +kernel)
set_option maxRecDepth 65536 in
theorem w_c13 : (Jvm.Cond.code ({ cls := "Soap$Response", name := "<init>", desc := "(ILjava/lang/String;)V" } : Jvm.MethodName) prog_20_method_1_code (3 : Nat) (Option.none : Option Jvm.ClassFile.FieldType)).before args0 about1 = true := code_word (m := ⟨12, 0⟩) (meth := k12m0) (c := k12c0) (by decide +kernel) rfl rfl rfl (by decide +kernel)
set_option maxRecDepth 65536 in
theorem w_c14 : (Jvm.Cond.code ({ cls := "java/lang/Record", name := "<init>", desc := "()V" } : Jvm.MethodName) jdk_30_method_1_code (1 : Nat) (Option.none : Option Jvm.ClassFile.FieldType)).before args0 about1 = true := code_word (m := ⟨11, 0⟩) (meth := k11m0) (c := k11c0) (by decide +kernel) rfl rfl rfl (by decide +kernel)
set_option maxRecDepth 65536 in
theorem w_c15 : (Jvm.Cond.code ({ cls := "Soap$Response", name := "isSenderFault", desc := "(Ljava/lang/String;)Z" } : Jvm.MethodName) prog_20_method_3_code (2 : Nat) (Option.some Jvm.ClassFile.FieldType.boolean)).before args0 about1 = true := code_word (m := ⟨12, 1⟩) (meth := k12m1) (c := k12c1) (by decide +kernel) rfl rfl rfl (by decide +kernel)
set_option maxRecDepth 65536 in
theorem w_c16 : (Jvm.Cond.code ({ cls := "java/lang/String", name := "contains", desc := "(Ljava/lang/CharSequence;)Z" } : Jvm.MethodName) jdk_42_method_97_code (2 : Nat) (Option.some Jvm.ClassFile.FieldType.boolean)).before args0 about1 = true := code_word (m := ⟨7, 4⟩) (meth := k7m4) (c := k7c4) (by decide +kernel) rfl rfl rfl (by decide +kernel)
set_option maxRecDepth 65536 in
theorem w_c17 : (Jvm.Cond.code ({ cls := "java/lang/String", name := "toString", desc := "()Ljava/lang/String;" } : Jvm.MethodName) jdk_42_method_126_code (1 : Nat) (Option.some (Jvm.ClassFile.FieldType.object "java/lang/String"))).before args0 about1 = true := code_word (m := ⟨7, 5⟩) (meth := k7m5) (c := k7c5) (by decide +kernel) rfl rfl rfl (by decide +kernel)
set_option maxRecDepth 65536 in
theorem w_c18 : (Jvm.Cond.code ({ cls := "java/lang/String", name := "indexOf", desc := "(Ljava/lang/String;)I" } : Jvm.MethodName) jdk_42_method_84_code (3 : Nat) (Option.some Jvm.ClassFile.FieldType.int)).before args0 about1 = true := code_word (m := ⟨7, 3⟩) (meth := k7m3) (c := k7c3) (by decide +kernel) rfl rfl rfl (by decide +kernel)
set_option maxRecDepth 65536 in
theorem w_c19 : (Jvm.Cond.code ({ cls := "java/lang/String", name := "coder", desc := "()B" } : Jvm.MethodName) jdk_42_method_152_code (1 : Nat) (Option.some Jvm.ClassFile.FieldType.byte)).before args0 about1 = true := code_word (m := ⟨7, 9⟩) (meth := k7m9) (c := k7c9) (by decide +kernel) rfl rfl rfl (by decide +kernel)
set_option maxRecDepth 65536 in
theorem w_c20 : (Jvm.Cond.code ({ cls := "java/lang/StringLatin1", name := "indexOf", desc := "([B[B)I" } : Jvm.MethodName) jdk_43_method_24_code (2 : Nat) (Option.some Jvm.ClassFile.FieldType.int)).before args0 about1 = true := code_word (m := ⟨8, 3⟩) (meth := k8m3) (c := k8c3) (by decide +kernel) rfl rfl rfl (by decide +kernel)
set_option maxRecDepth 65536 in
theorem w_c21 : (Jvm.Cond.code ({ cls := "java/lang/StringLatin1", name := "indexOf", desc := "([BI[BII)I" } : Jvm.MethodName) jdk_43_method_25_code (11 : Nat) (Option.some Jvm.ClassFile.FieldType.int)).before args0 about1 = true := code_word (m := ⟨8, 4⟩) (meth := k8m4) (c := k8c4) (by decide +kernel) rfl rfl rfl (by decide +kernel)
set_option maxRecDepth 65536 in
theorem w_c22 : (Jvm.Cond.code ({ cls := "java/lang/String", name := "valueOf", desc := "(C)Ljava/lang/String;" } : Jvm.MethodName) jdk_42_method_139_code (1 : Nat) (Option.some (Jvm.ClassFile.FieldType.object "java/lang/String"))).before args0 about1 = true := code_word (m := ⟨7, 6⟩) (meth := k7m6) (c := k7c6) (by decide +kernel) rfl rfl rfl (by decide +kernel)
set_option maxRecDepth 65536 in
theorem w_c23 : (Jvm.Cond.code ({ cls := "java/lang/StringLatin1", name := "canEncode", desc := "(C)Z" } : Jvm.MethodName) jdk_43_method_3_code (1 : Nat) (Option.some Jvm.ClassFile.FieldType.boolean)).before args0 about1 = true := code_word (m := ⟨8, 2⟩) (meth := k8m2) (c := k8c2) (by decide +kernel) rfl rfl rfl (by decide +kernel)
set_option maxRecDepth 65536 in
theorem w_c24 : (Jvm.Cond.code ({ cls := "java/lang/StringLatin1", name := "toBytes", desc := "(C)[B" } : Jvm.MethodName) jdk_43_method_46_code (1 : Nat) (Option.some (Jvm.ClassFile.FieldType.array Jvm.ClassFile.FieldType.byte))).before args0 about1 = true := code_word (m := ⟨8, 5⟩) (meth := k8m5) (c := k8c5) (by decide +kernel) rfl rfl rfl (by decide +kernel)
set_option maxRecDepth 65536 in
theorem w_c25 : (Jvm.Cond.code ({ cls := "java/lang/String", name := "<init>", desc := "([BB)V" } : Jvm.MethodName) jdk_42_method_151_code (3 : Nat) (Option.none : Option Jvm.ClassFile.FieldType)).before args0 about1 = true := code_word (m := ⟨7, 8⟩) (meth := k7m8) (c := k7c8) (by decide +kernel) rfl rfl rfl (by decide +kernel)
set_option maxRecDepth 65536 in
theorem w_c26 : (Jvm.Cond.code ({ cls := "ResponseIsSenderFaultPinLaw", name := "hasChar", desc := "(CCCCC)Z" } : Jvm.MethodName) method_5_code (5 : Nat) (Option.some Jvm.ClassFile.FieldType.boolean)).before args0 about1 = true := code_word (m := ⟨1, 4⟩) (meth := k1m4) (c := k1c4) (by decide +kernel) rfl rfl rfl (by decide +kernel)
set_option maxRecDepth 65536 in
theorem w_c27 : (Jvm.Cond.code ({ cls := "ResponseIsSenderFaultPinLaw", name := "inMarker", desc := "(C)Z" } : Jvm.MethodName) method_3_code (1 : Nat) (Option.some Jvm.ClassFile.FieldType.boolean)).before args0 about1 = true := code_word (m := ⟨1, 2⟩) (meth := k1m2) (c := k1c2) (by decide +kernel) rfl rfl rfl (by decide +kernel)
set_option maxRecDepth 65536 in
theorem w_c28 : (Jvm.Cond.code ({ cls := "ResponseIsSenderFaultPinLaw", name := "onceInMarker", desc := "(C)Z" } : Jvm.MethodName) method_4_code (1 : Nat) (Option.some Jvm.ClassFile.FieldType.boolean)).before args0 about1 = true := code_word (m := ⟨1, 3⟩) (meth := k1m3) (c := k1c3) (by decide +kernel) rfl rfl rfl (by decide +kernel)
def codes1 : List Jvm.Cond := [Jvm.Cond.code x code maxLocals ret, Jvm.Cond.code ({ cls := "ResponseIsSenderFaultPinLaw", name := "marker", desc := "()Ljava/lang/String;" } : Jvm.MethodName) method_2_code (0 : Nat) (Option.some (Jvm.ClassFile.FieldType.object "java/lang/String")), Jvm.Cond.code ({ cls := "java/lang/String", name := "charAt", desc := "(I)C" } : Jvm.MethodName) jdk_42_method_56_code (2 : Nat) (Option.some Jvm.ClassFile.FieldType.char), Jvm.Cond.code ({ cls := "java/lang/String", name := "isLatin1", desc := "()Z" } : Jvm.MethodName) jdk_42_method_154_code (1 : Nat) (Option.some Jvm.ClassFile.FieldType.boolean), Jvm.Cond.code ({ cls := "java/lang/StringLatin1", name := "charAt", desc := "([BI)C" } : Jvm.MethodName) jdk_43_method_2_code (2 : Nat) (Option.some Jvm.ClassFile.FieldType.char), Jvm.Cond.code ({ cls := "java/lang/String", name := "checkIndex", desc := "(II)V" } : Jvm.MethodName) jdk_42_method_155_code (2 : Nat) (Option.none : Option Jvm.ClassFile.FieldType), Jvm.Cond.code ({ cls := "jdk/internal/util/Preconditions", name := "checkIndex", desc := "(IILjava/util/function/BiFunction;)I" } : Jvm.MethodName) jdk_41_method_11_code (3 : Nat) (Option.some Jvm.ClassFile.FieldType.int), Jvm.Cond.code ({ cls := "java/lang/String", name := "<init>", desc := "([C)V" } : Jvm.MethodName) jdk_42_method_3_code (2 : Nat) (Option.none : Option Jvm.ClassFile.FieldType), Jvm.Cond.code ({ cls := "java/lang/String", name := "<init>", desc := "([CIILjava/lang/Void;)V" } : Jvm.MethodName) jdk_42_method_149_code (6 : Nat) (Option.none : Option Jvm.ClassFile.FieldType), Jvm.Cond.code ({ cls := "java/lang/Object", name := "<init>", desc := "()V" } : Jvm.MethodName) object_method_1_code (1 : Nat) (Option.none : Option Jvm.ClassFile.FieldType), Jvm.Cond.code ({ cls := "java/lang/StringUTF16", name := "compress", desc := "([CII)[B" } : Jvm.MethodName) jdk_52_method_16_code (6 : Nat) (Option.some (Jvm.ClassFile.FieldType.array Jvm.ClassFile.FieldType.byte)), Jvm.Cond.code ({ cls := "java/lang/StringUTF16", name := "compress", desc := "([CI[BII)I" } : Jvm.MethodName) jdk_52_method_21_code (7 : Nat) (Option.some Jvm.ClassFile.FieldType.int), Jvm.Cond.code ({ cls := "java/lang/StringUTF16", name := "coderFromArrayLen", desc := "([BI)B" } : Jvm.MethodName) jdk_52_method_15_code (2 : Nat) (Option.some Jvm.ClassFile.FieldType.byte), Jvm.Cond.code ({ cls := "Soap$Response", name := "<init>", desc := "(ILjava/lang/String;)V" } : Jvm.MethodName) prog_20_method_1_code (3 : Nat) (Option.none : Option Jvm.ClassFile.FieldType), Jvm.Cond.code ({ cls := "java/lang/Record", name := "<init>", desc := "()V" } : Jvm.MethodName) jdk_30_method_1_code (1 : Nat) (Option.none : Option Jvm.ClassFile.FieldType), Jvm.Cond.code ({ cls := "Soap$Response", name := "isSenderFault", desc := "(Ljava/lang/String;)Z" } : Jvm.MethodName) prog_20_method_3_code (2 : Nat) (Option.some Jvm.ClassFile.FieldType.boolean), Jvm.Cond.code ({ cls := "java/lang/String", name := "contains", desc := "(Ljava/lang/CharSequence;)Z" } : Jvm.MethodName) jdk_42_method_97_code (2 : Nat) (Option.some Jvm.ClassFile.FieldType.boolean), Jvm.Cond.code ({ cls := "java/lang/String", name := "toString", desc := "()Ljava/lang/String;" } : Jvm.MethodName) jdk_42_method_126_code (1 : Nat) (Option.some (Jvm.ClassFile.FieldType.object "java/lang/String")), Jvm.Cond.code ({ cls := "java/lang/String", name := "indexOf", desc := "(Ljava/lang/String;)I" } : Jvm.MethodName) jdk_42_method_84_code (3 : Nat) (Option.some Jvm.ClassFile.FieldType.int), Jvm.Cond.code ({ cls := "java/lang/String", name := "coder", desc := "()B" } : Jvm.MethodName) jdk_42_method_152_code (1 : Nat) (Option.some Jvm.ClassFile.FieldType.byte), Jvm.Cond.code ({ cls := "java/lang/StringLatin1", name := "indexOf", desc := "([B[B)I" } : Jvm.MethodName) jdk_43_method_24_code (2 : Nat) (Option.some Jvm.ClassFile.FieldType.int), Jvm.Cond.code ({ cls := "java/lang/StringLatin1", name := "indexOf", desc := "([BI[BII)I" } : Jvm.MethodName) jdk_43_method_25_code (11 : Nat) (Option.some Jvm.ClassFile.FieldType.int), Jvm.Cond.code ({ cls := "java/lang/String", name := "valueOf", desc := "(C)Ljava/lang/String;" } : Jvm.MethodName) jdk_42_method_139_code (1 : Nat) (Option.some (Jvm.ClassFile.FieldType.object "java/lang/String")), Jvm.Cond.code ({ cls := "java/lang/StringLatin1", name := "canEncode", desc := "(C)Z" } : Jvm.MethodName) jdk_43_method_3_code (1 : Nat) (Option.some Jvm.ClassFile.FieldType.boolean), Jvm.Cond.code ({ cls := "java/lang/StringLatin1", name := "toBytes", desc := "(C)[B" } : Jvm.MethodName) jdk_43_method_46_code (1 : Nat) (Option.some (Jvm.ClassFile.FieldType.array Jvm.ClassFile.FieldType.byte)), Jvm.Cond.code ({ cls := "java/lang/String", name := "<init>", desc := "([BB)V" } : Jvm.MethodName) jdk_42_method_151_code (3 : Nat) (Option.none : Option Jvm.ClassFile.FieldType), Jvm.Cond.code ({ cls := "ResponseIsSenderFaultPinLaw", name := "hasChar", desc := "(CCCCC)Z" } : Jvm.MethodName) method_5_code (5 : Nat) (Option.some Jvm.ClassFile.FieldType.boolean), Jvm.Cond.code ({ cls := "ResponseIsSenderFaultPinLaw", name := "inMarker", desc := "(C)Z" } : Jvm.MethodName) method_3_code (1 : Nat) (Option.some Jvm.ClassFile.FieldType.boolean), Jvm.Cond.code ({ cls := "ResponseIsSenderFaultPinLaw", name := "onceInMarker", desc := "(C)Z" } : Jvm.MethodName) method_4_code (1 : Nat) (Option.some Jvm.ClassFile.FieldType.boolean)]
set_option maxRecDepth 65536 in
theorem codes_eq : words1.filter isCode = codes1 := rfl
theorem w_codes : ∀ c ∈ words1.filter isCode, c.before args0 about1 = true := by
  rw [codes_eq]
  intro c hc
  simp only [codes1, List.mem_cons, List.not_mem_nil, or_false] at hc
  rcases hc with rfl | rfl | rfl | rfl | rfl | rfl | rfl | rfl | rfl | rfl | rfl | rfl | rfl | rfl | rfl | rfl | rfl | rfl | rfl | rfl | rfl | rfl | rfl | rfl | rfl | rfl | rfl | rfl | rfl
  · exact w_c0
  · exact w_c1
  · exact w_c2
  · exact w_c3
  · exact w_c4
  · exact w_c5
  · exact w_c6
  · exact w_c7
  · exact w_c8
  · exact w_c9
  · exact w_c10
  · exact w_c11
  · exact w_c12
  · exact w_c13
  · exact w_c14
  · exact w_c15
  · exact w_c16
  · exact w_c17
  · exact w_c18
  · exact w_c19
  · exact w_c20
  · exact w_c21
  · exact w_c22
  · exact w_c23
  · exact w_c24
  · exact w_c25
  · exact w_c26
  · exact w_c27
  · exact w_c28
set_option maxRecDepth 65536 in
theorem w_t1 : (words1.take 24).all (fun c => isCode c || c.before args0 about1) = true := by decide +kernel
set_option maxRecDepth 65536 in
theorem w_t2 : ((words1.drop 24).take 24).all (fun c => isCode c || c.before args0 about1) = true := by decide +kernel
set_option maxRecDepth 65536 in
theorem w_t3 : (((words1.drop 24).drop 24).take 24).all (fun c => isCode c || c.before args0 about1) = true := by decide +kernel
set_option maxRecDepth 65536 in
theorem w_t4 : ((((words1.drop 24).drop 24).drop 24).take 24).all (fun c => isCode c || c.before args0 about1) = true := by decide +kernel
set_option maxRecDepth 65536 in
theorem w_t5 : (((((words1.drop 24).drop 24).drop 24).drop 24).take 24).all (fun c => isCode c || c.before args0 about1) = true := by decide +kernel
set_option maxRecDepth 65536 in
theorem w_t6 : (((((words1.drop 24).drop 24).drop 24).drop 24).drop 24).all (fun c => isCode c || c.before args0 about1) = true := by decide +kernel
theorem w_tables : (allAtoms (Jvm.Cond.code x code maxLocals ret :: tables_1)).before args0 about1 = true := by
  rw [allAtoms_all]
  show words1.all (fun c => c.before args0 about1) = true
  refine all_split ?_ w_codes
  rw [← List.take_append_drop 24 words1, List.all_append, w_t1, ← List.take_append_drop 24 (words1.drop 24), List.all_append, w_t2, ← List.take_append_drop 24 ((words1.drop 24).drop 24), List.all_append, w_t3, ← List.take_append_drop 24 (((words1.drop 24).drop 24).drop 24), List.all_append, w_t4, ← List.take_append_drop 24 ((((words1.drop 24).drop 24).drop 24).drop 24), List.all_append, w_t5, w_t6]
  rfl
set_option maxRecDepth 65536 in
theorem w_rest : rest_1_c.before args0 about1 = true := by decide +kernel
set_option maxRecDepth 65536 in
theorem w_case : (Jvm.Cond.and given_1 narrow_1).before args0 about1 = true := by decide +kernel
set_option maxRecDepth 65536 in
theorem w_consts : constsHeld consts_1 about1 := Jvm.Lit.constsHeldB_iff.mp (by decide +kernel)
theorem w_applies : (headSpec (Jvm.Cond.code x code maxLocals ret :: tables_1) room_1).applies x e0.platform about1 = true :=
  (Spec.applies_iff w_frames).mpr ⟨w_running, w_runnable, w_alone, w_named, w_hears, w_ripe, w_room, w_tables⟩
theorem atStart : AtStart classFile x code maxLocals ret World_1 tables_1 room_1 Calls_1 rest_1 Pre_1 launch0 p0 e0 about1 theMethod args0 below0 :=
  ⟨lists_1, trivial, launch0.admits_env _ _ _, launch0.least_env, fairChoices_fair.cas, fairChoices_fair.clock, w_frames, w_args, w_heap, w_applies, ⟨w_consts, trivial⟩, w_rest, w_case⟩
end start1
theorem witness_1 : WitnessClaimed_1 := ⟨start1.p0, start1.e0, start1.about1, start1.theMethod, start1.args0, start1.below0, start1.atStart⟩
end Jvm.Pilot.@@N@@
