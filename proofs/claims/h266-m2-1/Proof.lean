import JvmDerived
import JvmDerived.Pilot.@@N@@Statement
import JvmDerived.Pilot.@@N@@Code
set_option linter.unusedVariables false
set_option linter.unusedSimpArgs false
@@BLOCK:NumsL.lean.txt@@
namespace Jvm.RoadKit
open Sem ClassFile Op Lib Jvm.Stand Jvm.Free Jvm.LawKit
section New
variable {p : Program} {l : Launch} {e : Env} {R : Room} {s : State} {m : MethodId} {args : Array Value} {below : List Frame} {meth : Method} {c : Code} {T : State} {locs : List Loc} {cells slots : Nat}
theorem retI (X : Stand p l e R s m args below meth c T locs cells slots) (hx : p.tables.exec = Jvm.exec) {pc : Nat} {Ls : Array Slot} {z : Int32} {rest : List Value} (hret : meth.sig.returnType = some .int) (hd : decode c.code pc = .ok (.ireturn, 1)) {fs : List Frame}
    (hl : ∀ (f : JFrame) (acts : List Action), f.method = m → f.locked = none → f.entered = [] → (doReturn e (T.setTop f) acts (some (.int z))).1 = T.setFrames fs) : Steps p.tables e below (T.setTop (mkF m pc Ls (.int z :: rest))) (T.setFrames fs) := by
  have hm' : T.vm.method? m = some meth := X.method'
  have hn : narrow .int (.int z) = .int z := rfl
  show Steps p.tables e below (T.setTop { method := m, pc := pc, locals := Ls, stack := _ :: rest, locked := none }) _
  jvm_step X.here [X.here.top, hx, hd, hm', hret, hn]
  first | (intro acts; rw [hl _ acts rfl rfl rfl]) | rw [hl _ _ rfl rfl rfl]
  exact Steps.refl _
end New
theorem own_sta_keep {Z : State} {h h' : Heap} {C n d : String} {v : Value} {ws : List Addr} (F : Sta Z h C n d v) (K : Keep h h' ws) (q : ∀ x ∈ ws, ∀ cell : Cell, h[x]? = some cell → cell.vm.isStatics = false) : Sta Z h' C n d v := by
  obtain ⟨cf, i, k, f, st, cell, h1, h2, h3, h4, h5, h6, h7⟩ := F
  exact ⟨cf, i, k, f, st, cell, h1, h2, h3, h4, K.2.1 st cell h5 (fun hm => by rw [q st hm cell h5] at h6; cases h6), h6, h7⟩
/-- a class that is none of the interfaces -/
def NoFace (Z : State) (N : String) : Prop := ∃ (c : ClassId) (k : Class), Z.vm.findClass N = some c ∧ Z.vm.classes[c]? = some k ∧ k.isInterface = false
theorem own_noface {Z : State} {a0 : Array Value} {C : String} {y : MethodName} (w : (Cond.selects C y y).before a0 Z = true) : NoFace Z y.cls := by
  obtain ⟨c2, r2, m2, q1, q2, q3, q4, kP, hkP, hkPi⟩ := Cond.selects_spec w
  exact ⟨m2.cls, kP, findClass_of_methodNamed q3, hkP, hkPi⟩
theorem own_same {Z : State} {a0 : Array Value} {y : MethodName} (F : NoFace Z y.cls) (wi : (Cond.instanceMethod y).before a0 Z = true) (hy : y.cls ≠ "java/lang/invoke/MethodHandle" ∧ y.cls ≠ "java/lang/invoke/VarHandle") : (Cond.sameMethod y.cls y.cls y.name y.desc).before a0 Z = true := by
  obtain ⟨c, k, h1, h2, h3⟩ := F
  obtain ⟨mk, methM, hnamed, hmethM, -, -⟩ := Cond.instanceMethod_spec wi
  have hfound : Z.methodFound? y.cls y.name y.desc = some mk := State.methodFound?_of_named hnamed hy
  have hn : Z.methodNamed? ⟨y.cls, y.name, y.desc⟩ = some mk := hnamed
  simp only [Cond.before, Cond.holds, Cond.value, h1, hfound, hn, h2]
  simp; exact h3
theorem own_psel {Z : State} {a0 : Array Value} {y : MethodName} (F : NoFace Z y.cls) (wi : (Cond.instanceMethod y).before a0 Z = true) (wp : (Cond.privateMethod y).before a0 Z = true) (hy : y.cls ≠ "java/lang/invoke/MethodHandle" ∧ y.cls ≠ "java/lang/invoke/VarHandle") : (Cond.selects y.cls y y).before a0 Z = true := by
  obtain ⟨c, k, h1, h2, h3⟩ := F
  exact selects_self_of_private h1 h2 h3 (Cond.privateMethod_at wp) wi hy
/-- from A the run goes on as from B -/
def Rch (tb : Tables) (e : Env) (below : List Frame) (A B : State) : Prop := ∀ t, Steps tb e below B t → Steps tb e below A t
end Jvm.RoadKit
namespace Jvm.Pilot.@@N@@
open Jvm Jvm.ClassFile Sem Op Lib Jvm.Free Jvm.Stand Jvm.LawKit Jvm.RoadKit Bundle Jvm.Pilot.@@N@@.Jvm.D
def consts_1 : List (String × Nat) := []
theorem own_EW {Z : State} {a0 : Array Value} (hw : ∀ d ∈ tables_1, d.before a0 Z = true) : EW Z a0 consts_1 := EW.nil
theorem own_wS {Z : State} {a0 : Array Value} (hw : ∀ d ∈ tables_1, d.before a0 Z = true) : ∀ d ∈ Bundle.stringAtoms, d.before a0 Z = true := by
  intro d hd
  simp only [Bundle.stringAtoms, List.mem_cons, List.not_mem_nil, or_false] at hd
  rcases hd with rfl | rfl | rfl | rfl | rfl | rfl | rfl
  · exact (hw _ (List.mem_of_getElem? (i := 9) rfl))
  · exact (hw _ (List.mem_of_getElem? (i := 10) rfl))
  · exact (hw _ (List.mem_of_getElem? (i := 11) rfl))
  · exact (hw _ (List.mem_of_getElem? (i := 12) rfl))
  · exact (hw _ (List.mem_of_getElem? (i := 13) rfl))
  · exact (hw _ (List.mem_of_getElem? (i := 14) rfl))
  · exact (hw _ (List.mem_of_getElem? (i := 15) rfl))
theorem own_safe_null {Z : State} {EL : List (String × Nat)} {vm : Vm} {h : Heap} {x : Addr} (hal : Z.vm.Alike vm) (E : Exa Z h x "java/lang/String") (F : Fld Z h x "java/lang/String" "value" "[B" .null) : Safe Z EL vm h x := fun B => by
  obtain ⟨p, -, u, a, -, q, -, G, rfl | rfl⟩ := B
  · obtain ⟨cS, ⟨S, -, -⟩, -⟩ := G
    obtain ⟨s1, -, -, ⟨c, k, i, s4, -⟩, -, -, -, s8, -⟩ := S
    obtain ⟨cell, cf, k', i', f', g1, g2, -, -, -, -, g7⟩ := F
    cases (show h[q.sa]? = some q.sC from s1).symm.trans g1
    obtain ⟨k2, h2, -⟩ := State.fieldFound?_setVm (s := Z) hal g2
    have e : some (cf, k2, i', f') = some (c, k, i, q.fSV) := h2.symm.trans s4
    have e2 : f' = q.fSV := by cases e; rfl
    rw [e2] at g7
    cases g7.symm.trans s8
  · obtain ⟨cell, kc, e1, e2, -⟩ := E
    have hd : h[q.sd]? = some q.SA := G.hd
    cases hd.symm.trans e1
    obtain ⟨cS, -, -, f, -⟩ := G
    have f' : vm.findClass "[B" = some q.SA.cls := f
    rw [hal.findClass] at f'
    obtain ⟨k1, q1, q2⟩ := Vm.findClass_spec f'
    obtain ⟨k2, q3, q4⟩ := Vm.findClass_spec e2
    cases q1.symm.trans q3
    exact absurd (q2.symm.trans q4) (by decide)
open Jvm.FP.Core in
/-- rounding keeps the order: ratios over one denominator -/
theorem own_mono0 {s : Bool} {A A' B : Nat} {e : Int} (hB : 0 < B) (h : A ≤ A') : zmag b64 (roundRatio b64 s A B e) ≤ zmag b64 (roundRatio b64 s A' B e) := by
  by_cases hAA : A = A'
  · subst hAA; exact Nat.le_refl _
  obtain ⟨e0, h0, h0e⟩ : ∃ e0 : Int, e0 < b64.qmin ∧ e0 ≤ e := ⟨min (b64.qmin - 1) e, by omega, by omega⟩
  have hlt : inUnits A e e0 < inUnits A' e e0 := Nat.mul_lt_mul_of_pos_right (by omega) (Nat.two_pow_pos _)
  have f1 := roundRatio_fits good_b64 s A hB e
  have f2 := roundRatio_fits good_b64 s A' hB e
  rcases roundRatio_cases b64 s A' B e with ⟨c', q', h2⟩ | h2
  · rcases roundRatio_cases b64 s A B e with ⟨c, q, h1⟩ | h1
    · rw [h1] at f1 ⊢
      rw [h2] at f2 ⊢
      have d1 := roundRatio_nearest good_b64 hB h1 f2.1 f2.2.1 (Int.le_of_lt h0) h0e
      have d2 := roundRatio_nearest good_b64 hB h2 f1.1 f1.2.1 (Int.le_of_lt h0) h0e
      unfold distance at d1 d2
      rw [units_fin f1 (Int.le_of_lt h0), units_fin f2 (Int.le_of_lt h0)] at d1 d2
      generalize zmag b64 (.fin s c q) = x at *
      generalize zmag b64 (.fin s c' q') = y at *
      refine Nat.le_of_not_lt fun hyx => ?_
      have hk : y * 2 ^ (b64.qmin - e0).toNat * B < x * 2 ^ (b64.qmin - e0).toNat * B := Nat.mul_lt_mul_of_pos_right (Nat.mul_lt_mul_of_pos_right hyx (Nat.two_pow_pos _)) hB
      rw [← Int.natCast_mul, ← Int.natCast_mul] at d1 d2
      generalize x * 2 ^ (b64.qmin - e0).toNat * B = xx at *
      generalize y * 2 ^ (b64.qmin - e0).toNat * B = yy at *
      generalize inUnits A e e0 = a at *
      generalize inUnits A' e e0 = a' at *
      omega
    · exfalso
      have k := (roundRatio_inf good_b64 hB h0 h0e).mp h1
      have k2 := (roundRatio_inf good_b64 (s := s) (A := A') hB h0 h0e).mpr (Nat.le_trans k (Nat.le_of_lt hlt))
      rw [h2] at k2; cases k2
  · rw [h2]; exact zmag_le_top good_b64 f1
open Jvm.FP.Core in
theorem own_zs (s : Bool) (A B : Nat) (e : Int) : zmag b64 (roundRatio b64 s A B e) = zmag b64 (roundRatio b64 false A B e) := by
  cases s with
  | false => rfl
  | true =>
    have h := negate_roundRatio b64 false A B e
    rw [show (!false) = true from rfl] at h
    rw [← h]; cases roundRatio b64 false A B e <;> rfl
open Jvm.FP.Core in
/-- the quotient's magnitude -/
def Gq (n d : Nat) : Nat := zmag b64 (roundRatio b64 false n d 0)
open Jvm.FP.Core in
/-- a whole number of least units, rounded -/
def Hu (v : Int) : Int := signed (decide (v < 0)) (zmag b64 (roundRatio b64 false v.natAbs 1 b64.qmin))
def Zq (c : Int) (d : Nat) : Int := Jvm.FP.Core.signed (decide (c < 0)) (Gq c.natAbs d)
def u1 : Nat := 2 ^ 1074
open Jvm.FP.Core in
theorem own_Hmono {v w : Int} (h : v ≤ w) : Hu v ≤ Hu w := by
  unfold Hu
  have m1 : v.natAbs ≤ w.natAbs → _ := own_mono0 (s := false) (B := 1) (e := b64.qmin) (by decide)
  have m2 : w.natAbs ≤ v.natAbs → _ := own_mono0 (s := false) (B := 1) (e := b64.qmin) (by decide)
  by_cases h1 : v < 0 <;> by_cases h2 : w < 0 <;> simp only [signed, h1, h2, decide_true, decide_false, if_true, Bool.false_eq_true, if_false]
  · have := m2 (by omega); omega
  · omega
  · omega
  · have := m1 (by omega); omega
theorem own_Zmono {c c2 : Int} {d : Nat} (hd : 0 < d) (h : c ≤ c2) : Zq c d ≤ Zq c2 d := by
  unfold Zq Gq
  have m1 : c.natAbs ≤ c2.natAbs → _ := own_mono0 (s := false) (e := 0) hd
  have m2 : c2.natAbs ≤ c.natAbs → _ := own_mono0 (s := false) (e := 0) hd
  by_cases h1 : c < 0 <;> by_cases h2 : c2 < 0 <;> simp only [Jvm.FP.Core.signed, h1, h2, decide_true, decide_false, if_true, Bool.false_eq_true, if_false]
  · have := m2 (by omega); omega
  · omega
  · omega
  · have := m1 (by omega); omega
open Jvm.FP.Core in
/-- a number of the format stands when rounded -/
theorem own_Hat {W : UInt64} (hn : DFin W) : Hu (zval b64 (val64 W)) = zval b64 (val64 W) := by
  obtain ⟨s, c, q, h⟩ := hn
  have hf := val64_fits W
  rw [h] at hf ⊢
  have r := round_of_fits good_b64 hf
  rw [← round_inUnits s c (e := b64.qmin) hf.2.1] at r
  have hz : zval b64 (.fin s c q) = signed s (inUnits c q b64.qmin) := rfl
  unfold Hu
  rw [hz, natAbs_signed]
  have r2 : roundRatio b64 s (inUnits c q b64.qmin) 1 b64.qmin = .fin s c q := r
  rw [← own_zs s, r2]
  show signed _ (inUnits c q b64.qmin) = _
  by_cases h0 : inUnits c q b64.qmin = 0
  · rw [h0, signed_zero, signed_zero]
  · rw [signed_lt_zero s (Nat.pos_of_ne_zero h0)]
open Jvm.FP.Core in
/-- the quotient as a rounded ratio of whole numbers -/
theorem own_div {c d : Int64} (hc : Small53 c) (hd : Small53 d) (h0 : 0 < d.toInt) : val64 (ddiv (l2d c) (l2d d)) = roundRatio b64 (decide (c.toInt < 0)) c.toInt.natAbs d.toInt.natAbs 0 := by
  obtain ⟨m, q, hv⟩ := l2d_shape c
  obtain ⟨n, r, hw⟩ := l2d_shape d
  have w1 := l2d_whole hc
  have w2 := l2d_whole hd
  rw [hv] at w1
  rw [hw] at w2
  have a1 := whole_natAbs w1
  have a2 := whole_natAbs w2
  have n0 : ¬ n = 0 := fun h => by have := (whole_zero w2).mp h; omega
  have ed : decide (d.toInt < 0) = false := by rw [decide_eq_false_iff_not]; omega
  rw [ed] at hw
  rw [val64_ddiv, hv, hw]
  generalize decide (c.toInt < 0) = s
  have hquo : quotient b64 (.fin s m q) (.fin false n r) = roundRatio b64 s m n (q - r) := by
    simp only [quotient]
    rw [if_neg n0]; cases s <;> rfl
  rw [hquo]
  refine roundRatio_congr (by omega) (by omega) ?_
  have p1 := Nat.two_pow_pos (-q).toNat
  have p2 := Nat.two_pow_pos r.toNat
  have e1 : (q - r - 0).toNat + ((-q).toNat + r.toNat) = (0 - (q - r)).toNat + (q.toNat + (-r).toNat) := by omega
  generalize c.toInt.natAbs = C at *
  generalize d.toInt.natAbs = D at *
  have k : m * D * 2 ^ (q - r - 0).toNat * (2 ^ (-q).toNat * 2 ^ r.toNat) = C * n * 2 ^ (0 - (q - r)).toNat * (2 ^ (-q).toNat * 2 ^ r.toNat) := by
    have l1 : m * D * 2 ^ (q - r - 0).toNat * (2 ^ (-q).toNat * 2 ^ r.toNat) = m * D * 2 ^ ((q - r - 0).toNat + ((-q).toNat + r.toNat)) := by
      rw [Nat.pow_add, Nat.pow_add, Nat.mul_assoc]
    rw [l1, e1, Nat.pow_add, Nat.pow_add]
    calc m * D * (2 ^ (0 - (q - r)).toNat * (2 ^ q.toNat * 2 ^ (-r).toNat)) = (m * 2 ^ q.toNat) * (D * 2 ^ (-r).toNat) * 2 ^ (0 - (q - r)).toNat := by ac_rfl
      _ = (C * 2 ^ (-q).toNat) * (n * 2 ^ r.toNat) * 2 ^ (0 - (q - r)).toNat := by rw [a1, ← a2]
      _ = _ := by ac_rfl
  exact Nat.eq_of_mul_eq_mul_right (Nat.mul_pos p1 p2) k
open Jvm.FP.Core in
theorem own_divbits {c d : Int64} (h0 : 0 < d.toInt) : (ddiv (l2d c) (l2d d)).toNat % 2 ^ 63 < 1089 * 2 ^ 52 := by
  have b := l2d_big (v := d) (by omega)
  exact ddiv_mag (K := 1088) (L := 1023) (l2d_mag c) b.1 b.2 (by decide) (by decide)
open Jvm.FP.Core in
theorem own_divfin {c d : Int64} (h0 : 0 < d.toInt) : DFin (ddiv (l2d c) (l2d d)) := fin_of_lt (own_divbits h0) (by decide)
open Jvm.FP.Core in
theorem own_savfin {c d : Int64} (h0 : 0 < d.toInt) : DFin (dsub 4607182418800017408 (ddiv (l2d c) (l2d d))) :=
  fin_of_lt (dsub_mag (K := 1089) (by decide) (own_divbits h0) (by decide)) (by decide)
open Jvm.FP.Core in
theorem own_zdiv {c d : Int64} (hc : Small53 c) (hd : Small53 d) (h0 : 0 < d.toInt) : zval b64 (val64 (ddiv (l2d c) (l2d d))) = Zq c.toInt d.toInt.natAbs := by
  rw [own_div hc hd h0]
  unfold zval Zq Gq
  rw [sgn_roundRatio, own_zs]
open Jvm.FP.Core in
theorem own_one : val64 4607182418800017408 = .fin false (2 ^ 52) (-52) := val64_dconst1
open Jvm.FP.Core in
theorem own_z1 : zval b64 (val64 4607182418800017408) = (u1 : Int) := by rw [own_one]; decide +kernel
open Jvm.FP.Core in
/-- the saving, in least units -/
theorem own_zsav {c d : Int64} (hc : Small53 c) (hd : Small53 d) (h0 : 0 < d.toInt) : zval b64 (val64 (dsub 4607182418800017408 (ddiv (l2d c) (l2d d)))) = Hu ((u1 : Int) - Zq c.toInt d.toInt.natAbs) := by
  have z := own_zdiv hc hd h0
  obtain ⟨s, m, q, h⟩ := own_divfin (c := c) h0
  have f1 := val64_fits 4607182418800017408
  have f2 := negate_fits (val64_fits (ddiv (l2d c) (l2d d)))
  have zn := zval_negate b64 (val64 (ddiv (l2d c) (l2d d)))
  have zo := own_z1
  rw [val64_dsub]
  rw [z] at zn
  rw [h] at f2 zn ⊢
  rw [own_one] at f1 zo ⊢
  obtain ⟨sg, n, e, x1, x2, x3⟩ := sum_units f1 f2
  have x1 : exactSum (.fin false (2 ^ 52) (-52)) (negate (.fin s m q)) = .fin sg n e := x1
  have x3 : signed sg (inUnits n e b64.qmin) = zval b64 (.fin false (2 ^ 52) (-52)) + zval b64 (negate (.fin s m q)) := x3
  rw [x1, ← round_inUnits sg n x2]
  rw [zo, zn] at x3
  have x4 : (u1 : Int) - Zq c.toInt d.toInt.natAbs = signed sg (inUnits n e b64.qmin) := by rw [x3]; omega
  rw [x4]
  unfold Hu
  rw [natAbs_signed]
  unfold zval
  show signed (sgn (roundRatio b64 sg (inUnits n e b64.qmin) 1 b64.qmin)) (zmag b64 (roundRatio b64 sg (inUnits n e b64.qmin) 1 b64.qmin)) = _
  rw [sgn_roundRatio, own_zs]
  by_cases h0 : inUnits n e b64.qmin = 0
  · rw [h0]
    have : zmag b64 (roundRatio b64 false 0 1 b64.qmin) = 0 := by decide +kernel
    rw [this, signed_zero, signed_zero]
  · rw [signed_lt_zero sg (Nat.pos_of_ne_zero h0)]
/-- the saving -/
def sav (c d : Int64) : UInt64 := FP.dsub 4607182418800017408 (FP.ddiv (FP.l2d c) (FP.l2d d))
open Jvm.FP.Core in
theorem own_fin_ne {x : UInt64} (h : DFin x) : val64 x ≠ .nan := by obtain ⟨s, c, q, h⟩ := h; rw [h]; intro k; cases k
open Jvm.FP.Core in
theorem own_cmp {x y : UInt64} (hx : DFin x) (hy : DFin y) : FP.dcmp x y = some (compare (zval b64 (val64 x)) (zval b64 (val64 y))) :=
  order_zval good_b64 (val64_fits _) (val64_fits _) (own_fin_ne hx) (own_fin_ne hy)
open Jvm.FP.Core in
/-- the quotient of n d by d, in least units -/
theorem own_Gle {n d : Nat} {W : UInt64} (hd : 0 < d) (hW : DFin W) (h : n * u1 ≤ zmag b64 (val64 W) * d) : Gq n d ≤ zmag b64 (val64 W) := by
  refine zmag_roundRatio_le good_b64 (e0 := b64.qmin) hd (val64_fits W) (own_fin_ne hW) (Int.le_refl _) (by decide) ?_
  rw [show (b64.qmin - b64.qmin).toNat = 0 by omega, Nat.pow_zero, Nat.mul_one]
  exact h
open Jvm.FP.Core in
theorem own_Gge {n d : Nat} {W : UInt64} (hd : 0 < d) (h : zmag b64 (val64 W) * d ≤ n * u1) : zmag b64 (val64 W) ≤ Gq n d := by
  refine zmag_roundRatio_ge good_b64 (e0 := b64.qmin) hd (val64_fits W) (Int.le_refl _) (by decide) ?_
  rw [show (b64.qmin - b64.qmin).toNat = 0 by omega, Nat.pow_zero, Nat.mul_one]
  exact h
open Jvm.FP.Core in
theorem own_Geq {n d m : Nat} {W : UInt64} (hd : 0 < d) (hW : DFin W) (hz : zmag b64 (val64 W) = m) (h : n * u1 = m * d) : Gq n d = m := by
  have a := own_Gle (W := W) (n := n) hd hW (by rw [hz]; exact Nat.le_of_eq h)
  have b := own_Gge (W := W) (n := n) hd (by rw [hz]; exact Nat.le_of_eq h.symm)
  omega
open Jvm.FP.Core in
theorem own_Gmul {n d k : Nat} (hd : 0 < d) (hk : 0 < k) : Gq (n * k) (d * k) = Gq n d := by
  unfold Gq
  rw [roundRatio_congr (A := n * k) (B := d * k) (A' := n) (B' := d) (e := 0) (e' := 0) (Nat.mul_pos hd hk) hd (by simp only [Nat.mul_assoc, Nat.mul_comm, Nat.mul_left_comm])]
theorem own_G0 (d : Nat) : Gq 0 d = 0 := rfl
open Jvm.FP.Core in
theorem own_uh : ∃ U : Nat, u1 = 2 * U ∧ zmag b64 (val64 4602678819172646912) = U ∧ zmag b64 (val64 4607182418800017408) = 2 * U ∧ zmag b64 (val64 4611686018427387904) = 4 * U ∧ zval b64 (val64 13830554455654793216) = -(2 * (U : Int)) ∧ zval b64 (val64 4602678819172646912) = (U : Int) ∧ zval b64 (val64 4607182418800017408) = 2 * (U : Int) ∧ zval b64 (val64 0) = 0 ∧ 0 < U :=
  ⟨zmag b64 (val64 4602678819172646912), by decide +kernel⟩
open Jvm.FP.Core in
theorem own_fin0 : DFin 0 ∧ DFin 4602678819172646912 ∧ DFin 4607182418800017408 ∧ DFin 4611686018427387904 ∧ DFin 13830554455654793216 := by
  refine ⟨?_, ?_, ?_, ?_, ?_⟩ <;> (rw [fin_bits]; decide)
/-- what the law's numbers are: d of 16 digits, more than nothing, and c of 40 -/
def Dn (d : Int64) : Prop := 0 < d.toInt ∧ d.toInt ≤ 16777216
def Cn (c : Int64) : Prop := -1099511627776 < c.toInt ∧ c.toInt < 1099511627776
theorem Dn.s {d : Int64} (h : Dn d) : Jvm.FP.Core.Small53 d := by have := h.1; have := h.2; exact ⟨by omega, by omega⟩
theorem Cn.s {d : Int64} (h : Cn d) : Jvm.FP.Core.Small53 d := by have := h.1; have := h.2; exact ⟨by omega, by omega⟩
theorem Dn.c {d : Int64} (h : Dn d) : Cn d := by have := h.1; have := h.2; exact ⟨by omega, by omega⟩
open Jvm.FP.Core in
theorem own_sav {c d : Int64} (hc : Cn c) (hd : Dn d) : zval b64 (val64 (sav c d)) = Hu ((u1 : Int) - Zq c.toInt d.toInt.natAbs) := own_zsav hc.s hd.s hd.1
open Jvm.FP.Core in
theorem own_sfin (c : Int64) {d : Int64} (hd : Dn d) : DFin (sav c d) := own_savfin hd.1
theorem own_Zp {c : Int} (h : 0 ≤ c) (d : Nat) : Zq c d = Gq c.natAbs d := by
  unfold Zq Jvm.FP.Core.signed; rw [if_neg (by simp; omega)]
open Jvm.FP.Core in
theorem own_at {c d : Int64} {W : UInt64} (hc : Cn c) (hd : Dn d) (hW : DFin W) (h : (u1 : Int) - Zq c.toInt d.toInt.natAbs = zval b64 (val64 W)) : FP.dcmp (sav c d) W = some .eq := by
  rw [own_cmp (own_sfin c hd) hW, own_sav hc hd, h, own_Hat hW, compare_ite, if_neg (by omega), if_pos rfl]
open Jvm.FP.Core in
theorem own_sp0 {d : Int64} (hd : Dn d) : FP.dcmp (sav 0 d) 4607182418800017408 = some .eq := by
  obtain ⟨U, e1, -, -, -, -, -, z1, -, -⟩ := own_uh
  refine own_at ⟨by decide, by decide⟩ hd own_fin0.2.2.1 ?_
  rw [own_Zp (by decide), z1, show (0 : Int64).toInt.natAbs = 0 from rfl, own_G0, e1]; omega
open Jvm.FP.Core in
theorem own_sp1 {d : Int64} (hd : Dn d) : FP.dcmp (sav d d) 0 = some .eq := by
  obtain ⟨U, e1, -, m1, -, -, -, -, z0, -⟩ := own_uh
  have h0 := hd.1
  refine own_at hd.c hd own_fin0.1 ?_
  rw [own_Zp (by omega), z0, own_Geq (W := 4607182418800017408) (by omega) own_fin0.2.2.1 m1 (by rw [e1, Nat.mul_comm]), e1]; omega
open Jvm.FP.Core in
theorem own_sp2 {d e : Int64} (hd : Dn d) (he : e.toInt = 2 * d.toInt) : FP.dcmp (sav e d) 13830554455654793216 = some .eq := by
  obtain ⟨U, e1, -, -, m2, z, -, -, -, -⟩ := own_uh
  have h0 := hd.1
  have h1 := hd.2
  refine own_at ⟨by omega, by omega⟩ hd own_fin0.2.2.2.2 ?_
  rw [own_Zp (by omega), z, he, Int.natAbs_mul, own_Geq (W := 4611686018427387904) (by omega) own_fin0.2.2.2.1 m2 (by rw [e1]; generalize d.toInt.natAbs = D; rw [show (2 : Int).natAbs = 2 from rfl, show (4 : Nat) = 2 * 2 from rfl]; ac_rfl), e1]; omega
open Jvm.FP.Core in
theorem own_sp3 {d e : Int64} (hd : Dn d) (he : e.toInt = 2 * d.toInt) (h2 : Dn e) : FP.dcmp (sav d e) 4602678819172646912 = some .eq := by
  obtain ⟨U, e1, m, -, -, -, z, -, -, -⟩ := own_uh
  have h0 := hd.1
  refine own_at hd.c h2 own_fin0.2.1 ?_
  rw [own_Zp (by omega), z, he, Int.natAbs_mul, own_Geq (W := 4602678819172646912) (by rw [← Int.natAbs_mul]; omega) own_fin0.2.1 m (by rw [e1]; generalize d.toInt.natAbs = D; rw [show (2 : Int).natAbs = 2 from rfl]; ac_rfl), e1]; omega
open Jvm.FP.Core in
theorem own_sc {c d k ck dk : Int64} (hc : Cn c) (hd : Dn d) (hk : 0 < k.toInt) (e1 : ck.toInt = c.toInt * k.toInt) (e2 : dk.toInt = d.toInt * k.toInt) (h1 : Cn ck) (h2 : Dn dk) : FP.dcmp (sav ck dk) (sav c d) = some .eq := by
  have h0 := hd.1
  have hz : Zq ck.toInt dk.toInt.natAbs = Zq c.toInt d.toInt.natAbs := by
    unfold Zq
    rw [e1, e2, Int.natAbs_mul, Int.natAbs_mul, own_Gmul (by omega) (by omega)]
    congr 1
    rw [decide_eq_decide]
    constructor
    · intro h; exact Int.lt_of_not_ge fun hge => absurd (Int.mul_nonneg hge (Int.le_of_lt hk)) (by omega)
    · intro h; exact Int.mul_neg_of_neg_of_pos h hk
  rw [own_cmp (own_sfin ck h2) (own_sfin c hd), own_sav h1 h2, own_sav hc hd, hz, compare_ite, if_neg (by omega), if_pos rfl]
open Jvm.FP.Core in
theorem own_mo {c c2 d : Int64} (hc : Cn c) (hc2 : Cn c2) (hd : Dn d) (h : c.toInt ≤ c2.toInt) : FP.dcmp (sav c d) (sav c2 d) = some .eq ∨ FP.dcmp (sav c d) (sav c2 d) = some .gt := by
  have h0 := hd.1
  have m := own_Zmono (d := d.toInt.natAbs) (by omega) h
  have m2 : Hu ((u1 : Int) - Zq c2.toInt d.toInt.natAbs) ≤ Hu ((u1 : Int) - Zq c.toInt d.toInt.natAbs) := own_Hmono (by omega)
  rw [own_cmp (own_sfin c hd) (own_sfin c2 hd), own_sav hc hd, own_sav hc2 hd, compare_ite, if_neg (by omega)]
  split
  · exact Or.inl rfl
  · exact Or.inr rfl
open Jvm.FP.Core in
theorem own_rng {c d : Int64} (hc : Cn c) (hd : Dn d) (h0 : 0 ≤ c.toInt) (h1 : c.toInt ≤ d.toInt) : (FP.dcmp (sav c d) 0 = some .eq ∨ FP.dcmp (sav c d) 0 = some .gt) ∧ (FP.dcmp (sav c d) 4607182418800017408 = some .eq ∨ FP.dcmp (sav c d) 4607182418800017408 = some .lt) := by
  obtain ⟨U, e1, -, m1, -, -, -, z1, z0, -⟩ := own_uh
  have hd0 := hd.1
  have g : Gq c.toInt.natAbs d.toInt.natAbs ≤ 2 * U := by
    rw [← m1]
    exact own_Gle (by omega) own_fin0.2.2.1 (by rw [m1, e1, Nat.mul_comm]; exact Nat.mul_le_mul_left _ (by omega))
  have zp := own_Zp h0 d.toInt.natAbs
  have a0 := own_Hat own_fin0.1
  have a1 := own_Hat own_fin0.2.2.1
  have l0 : Hu (zval b64 (val64 0)) ≤ Hu ((u1 : Int) - Zq c.toInt d.toInt.natAbs) := own_Hmono (by rw [z0, zp, e1]; omega)
  have l1 : Hu ((u1 : Int) - Zq c.toInt d.toInt.natAbs) ≤ Hu (zval b64 (val64 4607182418800017408)) := own_Hmono (by rw [z1, zp, e1]; omega)
  rw [a0] at l0
  rw [a1] at l1
  rw [own_cmp (own_sfin c hd) own_fin0.1, own_cmp (own_sfin c hd) own_fin0.2.2.1, own_sav hc hd, compare_ite, compare_ite]
  constructor
  · rw [if_neg (by omega)]; split
    · exact Or.inl rfl
    · exact Or.inr rfl
  · split
    · exact Or.inr rfl
    · rw [if_pos (by omega)]; exact Or.inl rfl
theorem own_dc0 : FP.dconst0 = (0 : UInt64) := by decide +kernel
theorem own_dc1 : FP.dconst1 = (4607182418800017408 : UInt64) := by decide +kernel
theorem own_nn {x : UInt64} (h : Jvm.FP.Core.DFin x) : Jvm.Free.Fl.NoNaN64 x := Jvm.Free.Fl.noNaN64_no.mpr ((Jvm.FP.Core.notNaN_iff _).mpr (own_fin_ne h))
theorem own_k0 {r : Option Ordering} (h : r = some .eq) : cmpValue r .l = 0 := by rw [h]; rfl
theorem own_nl {r : Option Ordering} (h : r = some .eq ∨ r = some .gt) : ¬ cmpValue r .l < 0 := by rcases h with h | h <;> (rw [h]; decide)
theorem own_ng {r : Option Ordering} (h : r = some .eq ∨ r = some .lt) : ¬ (0 : Int32) < cmpValue r .g := by rcases h with h | h <;> (rw [h]; decide)
theorem own_b {a : Int32} : a.toInt64.toInt = a.toInt := Int32.toInt_toInt64 a
theorem own_cn (a : Int32) : Cn a.toInt64 := by
  have h1 := a.toInt_lt; have h2 := a.le_toInt
  unfold Cn; rw [own_b]; omega
theorem own_msk {x m : Int32} {d : Int64} (hm : ∀ y : Int32, 0 ≤ (y &&& m).toInt ∧ (y &&& m).toInt ≤ 65535) (h : d = ((x &&& m).toInt64) + (1 : Int64)) : d.toInt = (x &&& m).toInt + 1 := by
  have e := hm x
  have e1 : (1 : Int64).toInt = 1 := by decide
  subst h
  rw [← own_b (a := x &&& m), ← e1]
  exact Jvm.Kit.i64_add (by rw [own_b, e1]; omega) (by rw [own_b, e1]; omega)
theorem own_d {x : Int32} {d : Int64} (h : d = ((x &&& (65535 : Int32)).toInt64) + (1 : Int64)) : 1 ≤ d.toInt ∧ d.toInt ≤ 65536 := by
  have m : ∀ y : Int32, 0 ≤ (y &&& (65535 : Int32)).toInt ∧ (y &&& (65535 : Int32)).toInt ≤ 65535 := fun y => by
    have e := Jvm.Kit.i32_mask y 65535 (k := 16) (by decide) (by decide); omega
  have e := own_msk m h
  have := m x; omega
theorem own_k {x : Int32} {d : Int64} (h : d = ((x &&& (255 : Int32)).toInt64) + (1 : Int64)) : 1 ≤ d.toInt ∧ d.toInt ≤ 256 := by
  have m : ∀ y : Int32, 0 ≤ (y &&& (255 : Int32)).toInt ∧ (y &&& (255 : Int32)).toInt ≤ 255 := fun y => by
    have e := Jvm.Kit.i32_mask y 255 (k := 8) (by decide) (by decide); omega
  have e := own_msk (fun y => ⟨(m y).1, by have := (m y).2; omega⟩) h
  have := m x; omega
theorem own_dd {d : Int64} (h : 1 ≤ d.toInt ∧ d.toInt ≤ 65536) : ((2 : Int64) * d).toInt = 2 * d.toInt := by
  have e2 : (2 : Int64).toInt = 2 := by decide
  have q := Jvm.FP.Core.int64_mul (a := 2) (b := d) (by rw [e2]; omega) (by rw [e2]; omega)
  rw [q, e2]
theorem own_ck {c : Int32} {k : Int64} (h : 1 ≤ k.toInt ∧ k.toInt ≤ 256) : (c.toInt64 * k).toInt = c.toInt * k.toInt ∧ -549755813888 ≤ c.toInt * k.toInt ∧ c.toInt * k.toInt ≤ 549755813888 := by
  have h1 := c.toInt_lt; have h2 := c.le_toInt
  have b1 : c.toInt * k.toInt ≤ 2147483648 * 256 := by
    refine Int.le_trans (Int.mul_le_mul_of_nonneg_right (show c.toInt ≤ 2147483648 by omega) (by omega)) (Int.mul_le_mul_of_nonneg_left h.2 (by decide))
  have b2 : -2147483648 * 256 ≤ c.toInt * k.toInt := by
    refine Int.le_trans ?_ (Int.mul_le_mul_of_nonneg_right (show -2147483648 ≤ c.toInt by omega) (by omega))
    omega
  have q := Jvm.FP.Core.int64_mul (a := c.toInt64) (b := k) (by rw [own_b]; omega) (by rw [own_b]; omega)
  rw [q, own_b]; exact ⟨rfl, by omega, by omega⟩
theorem own_dk {d k : Int64} (hd : 1 ≤ d.toInt ∧ d.toInt ≤ 65536) (h : 1 ≤ k.toInt ∧ k.toInt ≤ 256) : (d * k).toInt = d.toInt * k.toInt ∧ 1 ≤ d.toInt * k.toInt ∧ d.toInt * k.toInt ≤ 16777216 := by
  have b1 : d.toInt * k.toInt ≤ 65536 * 256 := Int.le_trans (Int.mul_le_mul_of_nonneg_right hd.2 (by omega)) (Int.mul_le_mul_of_nonneg_left h.2 (by decide))
  have b2 : 1 * 1 ≤ d.toInt * k.toInt := Int.le_trans (Int.mul_le_mul_of_nonneg_left h.1 (by decide)) (Int.mul_le_mul_of_nonneg_right hd.1 (by omega))
  have q := Jvm.FP.Core.int64_mul (a := d) (b := k) (by omega) (by omega)
  rw [q]; exact ⟨rfl, by omega, by omega⟩
theorem own_scl {c : Int32} {d k : Int64} (hd : 1 ≤ d.toInt ∧ d.toInt ≤ 65536) (hk : 1 ≤ k.toInt ∧ k.toInt ≤ 256) : cmpValue (FP.dcmp (sav (c.toInt64 * k) (d * k)) (sav c.toInt64 d)) .l = 0 := by
  obtain ⟨a1, a2, a3⟩ := own_ck (c := c) hk
  obtain ⟨b1, b2, b3⟩ := own_dk hd hk
  exact own_k0 (own_sc (k := k) (own_cn c) ⟨by omega, by omega⟩ (by omega) (by rw [a1, own_b]) b1 ⟨by omega, by omega⟩ ⟨by omega, by omega⟩)
theorem own_cl {a b : Int64} (h : ¬ (0 : Int32) < XT.cmpL a b) : a.toInt ≤ b.toInt := by
  unfold XT.cmpL at h
  simp only [Int64.lt_iff_toInt_lt, ← Int64.toInt_inj] at h
  apply Classical.byContradiction; intro hn
  rw [if_pos (by omega)] at h
  exact h (by decide)
theorem own_pos {c : Int32} (h0 : ¬ c < 0) : 0 ≤ c.toInt64.toInt := by
  have z0 : (0 : Int32).toInt = 0 := by decide
  rw [own_b]; rw [Int32.lt_iff_toInt_lt] at h0; omega
theorem own_r32 {c : Int32} {d : Int64} (hd : Dn d) (h0 : ¬ c < 0) (h1 : ¬ (0 : Int32) < XT.cmpL c.toInt64 d) : (FP.dcmp (sav c.toInt64 d) 0 = some .eq ∨ FP.dcmp (sav c.toInt64 d) 0 = some .gt) ∧ (FP.dcmp (sav c.toInt64 d) 4607182418800017408 = some .eq ∨ FP.dcmp (sav c.toInt64 d) 4607182418800017408 = some .lt) := own_rng (own_cn c) hd (own_pos h0) (own_cl h1)
theorem d2_0 : decode prog_21_method_1_code 0 = .ok (.aload_n 0, 1) := by decide +kernel
theorem d2_1 : decode prog_21_method_1_code 1 = .ok (.invokespecial 1, 3) := by decide +kernel
theorem d2_4 : decode prog_21_method_1_code 4 = .ok (.aload_n 0, 1) := by decide +kernel
theorem d2_5 : decode prog_21_method_1_code 5 = .ok (.aload_n 1, 1) := by decide +kernel
theorem d2_6 : decode prog_21_method_1_code 6 = .ok (.putfield 7, 3) := by decide +kernel
theorem d2_9 : decode prog_21_method_1_code 9 = .ok (.aload_n 0, 1) := by decide +kernel
theorem d2_10 : decode prog_21_method_1_code 10 = .ok (.lload_n 2, 1) := by decide +kernel
theorem d2_11 : decode prog_21_method_1_code 11 = .ok (.putfield 13, 3) := by decide +kernel
theorem d2_14 : decode prog_21_method_1_code 14 = .ok (.aload_n 0, 1) := by decide +kernel
theorem d2_15 : decode prog_21_method_1_code 15 = .ok (.dload 4, 2) := by decide +kernel
theorem d2_17 : decode prog_21_method_1_code 17 = .ok (.putfield 17, 3) := by decide +kernel
theorem d2_20 : decode prog_21_method_1_code 20 = .ok (.aload_n 0, 1) := by decide +kernel
theorem d2_21 : decode prog_21_method_1_code 21 = .ok (.dload 6, 2) := by decide +kernel
theorem d2_23 : decode prog_21_method_1_code 23 = .ok (.putfield 21, 3) := by decide +kernel
theorem d2_26 : decode prog_21_method_1_code 26 = .ok (.aload_n 0, 1) := by decide +kernel
theorem d2_27 : decode prog_21_method_1_code 27 = .ok (.lload 8, 2) := by decide +kernel
theorem d2_29 : decode prog_21_method_1_code 29 = .ok (.putfield 24, 3) := by decide +kernel
theorem d2_32 : decode prog_21_method_1_code 32 = .ok (.aload_n 0, 1) := by decide +kernel
theorem d2_33 : decode prog_21_method_1_code 33 = .ok (.dload 10, 2) := by decide +kernel
theorem d2_35 : decode prog_21_method_1_code 35 = .ok (.putfield 27, 3) := by decide +kernel
theorem d2_38 : decode prog_21_method_1_code 38 = .ok (.aload_n 0, 1) := by decide +kernel
theorem d2_39 : decode prog_21_method_1_code 39 = .ok (.dload 12, 2) := by decide +kernel
theorem d2_41 : decode prog_21_method_1_code 41 = .ok (.putfield 30, 3) := by decide +kernel
theorem d2_44 : decode prog_21_method_1_code 44 = .ok (.return_, 1) := by decide +kernel
theorem pn_0 : plainName "com/example/prudent_spot/prudentspot/replay/Outcome" = true := by first | (simp [plainName, overriddenIn]; done) | decide +kernel
theorem ef_oi (m : MethodId) (x0 : Addr) (x1 : Addr) (x2 : Int64) (x3 : UInt64) (x4 : UInt64) (x5 : Int64) (x6 : UInt64) (x7 : UInt64) : entryFrame m #[(.ref x0), (.ref x1), (.long x2), (.double x3), (.double x4), (.long x5), (.double x6), (.double x7)] 14 = mkF m 0 #[.val (.ref x0), .val (.ref x1), .val (.long x2), .second, .val (.double x3), .second, .val (.double x4), .second, .val (.long x5), .second, .val (.double x6), .second, .val (.double x7), .second] [] := by first | (simp [entryFrame, mkF, argsToLocals, Value.category]; done) | rfl
def Qoi (Z : State) (r : Addr) (x : Addr) (sv : Int64) (co : UInt64) (od : UInt64) (rv : Int64) (sl : UInt64) (ll : UInt64) (h0 : Heap) (n0 : Nat) (v : Option Value) (h : Heap) (L : List Loc) : Prop := v = none ∧ Fr n0 L ∧ Keep h0 h [r] ∧ Exa Z h r "com/example/prudent_spot/prudentspot/replay/Outcome" ∧ Fld Z h r "com/example/prudent_spot/prudentspot/replay/Outcome" "cost" "D" (.double co) ∧ Fld Z h r "com/example/prudent_spot/prudentspot/replay/Outcome" "onDemandCost" "D" (.double od)
set_option maxRecDepth 65536 in
set_option maxHeartbeats 40000000 in
theorem rmoi (l : Launch) (Z : State) (a0 : Array Value) (hw : ∀ d ∈ tables_1, d.before a0 Z = true) (ws : List Jvm.Cond) (r : Addr) (x : Addr) (sv : Int64) (co : UInt64) (od : UInt64) (rv : Int64) (sl : UInt64) (ll : UInt64) (h0 : Heap) (n0 : Nat) (Z0 : n0 ≤ h0.size) (E1 : Exa Z h0 r "com/example/prudent_spot/prudentspot/replay/Outcome") (F_name : Fld Z h0 r "com/example/prudent_spot/prudentspot/replay/Outcome" "name" "Ljava/lang/String;" .null) (F_servers : Fld Z h0 r "com/example/prudent_spot/prudentspot/replay/Outcome" "servers" "J" (.long (0 : Int64))) (F_cost : Fld Z h0 r "com/example/prudent_spot/prudentspot/replay/Outcome" "cost" "D" (.double (0 : UInt64))) (F_onDemandCost : Fld Z h0 r "com/example/prudent_spot/prudentspot/replay/Outcome" "onDemandCost" "D" (.double (0 : UInt64))) (F_revocations : Fld Z h0 r "com/example/prudent_spot/prudentspot/replay/Outcome" "revocations" "J" (.long (0 : Int64))) (F_serverHoursLost : Fld Z h0 r "com/example/prudent_spot/prudentspot/replay/Outcome" "serverHoursLost" "D" (.double (0 : UInt64))) (F_largestLossShare : Fld Z h0 r "com/example/prudent_spot/prudentspot/replay/Outcome" "largestLossShare" "D" (.double (0 : UInt64))) (gr : n0 ≤ r) :
    MetFree l (⟨"com/example/prudent_spot/prudentspot/replay/Outcome", "<init>", "(Ljava/lang/String;JDDJDD)V"⟩ : MethodName) (head1 (Jvm.Cond.code (⟨"com/example/prudent_spot/prudentspot/replay/Outcome", "<init>", "(Ljava/lang/String;JDDJDD)V"⟩ : MethodName) prog_21_method_1_code 14 none :: ws) ({ frames := 1, cells := 0, slots := 0, locals := 12 } : Room)) (fun aA U => aA = #[(.ref r), (.ref x), (.long sv), (.double co), (.double od), (.long rv), (.double sl), (.double ll)] ∧ Z.Warmed39 U.vm ∧ U.heap = h0) (fun _ _ _ _ _ => True) (fun _ U oO U' => ∃ vV LL, oO = .returned vV ∧ Qoi Z r x sv co od rv sl ll h0 n0 vV U'.heap LL ∧ FrameEnd U oO U' LL ({ frames := 1, cells := 0, slots := 0, locals := 12 } : Room).cells ({ frames := 1, cells := 0, slots := 0, locals := 12 } : Room).slots) := by
  refine MetFree.of_bodySF (plainFor_of_name pn_0) hisR ?_
  intro p e s m args below meth c s₁ Bd hml0 hP hK
  obtain ⟨rfl, hZ, hh⟩ := hP
  have hx := Bd.exec
  have hby := Bd.bytes
  have hml : c.maxLocals = 14 := hml0
  have hown : s.vm.findClass "com/example/prudent_spot/prudentspot/replay/Outcome" = some m.cls := findClass_of_methodNamed Bd.named
  have hnm := (name_of_methodNamed Bd.named Bd.method).1
  have X0 : Stand p l e ({ frames := 1, cells := 0, slots := 0, locals := 12 } : Room) s m #[(.ref r), (.ref x), (.long sv), (.double co), (.double od), (.long rv), (.double sl), (.double ll)] below meth c s₁ [] 0 0 := Stand.of_body Bd
  have e0 : s₁.heap = h0 := by rw [← hh, Bd.state]; rfl
  have N0 := Fr.nil n0
  have K0 : Keep h0 h0 [r] := Keep.refl _ _
  have pre0 : Rch p.tables e below (s₁.setTop (entryFrame m #[(.ref r), (.ref x), (.long sv), (.double co), (.double od), (.long rv), (.double sl), (.double ll)] 14)) (s₁.setTop (mkF m 0 #[.val (.ref r), .val (.ref x), .val (.long sv), .second, .val (.double co), .second, .val (.double od), .second, .val (.long rv), .second, .val (.double sl), .second, .val (.double ll), .second] [])) := fun tgt ktg => castTop (ef_oi m r x sv co od rv sl ll) ktg
  have pre_1 : Rch p.tables e below (s₁.setTop (entryFrame m #[(.ref r), (.ref x), (.long sv), (.double co), (.double od), (.long rv), (.double sl), (.double ll)] 14)) (s₁.setTop (mkF m 1 #[.val (.ref r), .val (.ref x), .val (.long sv), .second, .val (.double co), .second, .val (.double od), .second, .val (.long rv), .second, .val (.double sl), .second, .val (.double ll), .second] [(.ref r)])) := fun tgt ktg => pre0 tgt (by
    show Steps p.tables e below (s₁.setTop (mkF m 0 #[.val (.ref r), .val (.ref x), .val (.long sv), .second, .val (.double co), .second, .val (.double od), .second, .val (.long rv), .second, .val (.double sl), .second, .val (.double ll), .second] [])) _
    refine XS.aloadN X0.here hx rfl (hb hby d2_0) rfl rfl ?_
    exact ktg)
  obtain ⟨T_2, X_2, e_2, st_2⟩ := initO X0 hx hZ hown (hw _ (List.mem_of_getElem? (i := 19) rfl)) (hw _ (List.mem_of_getElem? (i := 20) rfl)) (hw _ (List.mem_of_getElem? (i := 21) rfl)) e0 (g := (mkF m 1 #[.val (.ref r), .val (.ref x), .val (.long sv), .second, .val (.double co), .second, .val (.double od), .second, .val (.long rv), .second, .val (.double sl), .second, .val (.double ll), .second] [(.ref r)])) rfl (by rw [hml]; rfl) rfl (hb hby d2_1) (by decide) (W := 0) (by show 2 * 0 + _ ≤ _; exact Nat.le_of_eq rfl) (by decide)
  have pre_2 : Rch p.tables e below (s₁.setTop (entryFrame m #[(.ref r), (.ref x), (.long sv), (.double co), (.double od), (.long rv), (.double sl), (.double ll)] 14)) (T_2.setTop (mkF m 4 #[.val (.ref r), .val (.ref x), .val (.long sv), .second, .val (.double co), .second, .val (.double od), .second, .val (.long rv), .second, .val (.double sl), .second, .val (.double ll), .second] [])) := fun tgt ktg => pre_1 tgt (st_2 tgt ktg)
  have pre_3 : Rch p.tables e below (s₁.setTop (entryFrame m #[(.ref r), (.ref x), (.long sv), (.double co), (.double od), (.long rv), (.double sl), (.double ll)] 14)) (T_2.setTop (mkF m 6 #[.val (.ref r), .val (.ref x), .val (.long sv), .second, .val (.double co), .second, .val (.double od), .second, .val (.long rv), .second, .val (.double sl), .second, .val (.double ll), .second] [(.ref x), (.ref r)])) := fun tgt ktg => pre_2 tgt (by
    show Steps p.tables e below (T_2.setTop (mkF m 4 #[.val (.ref r), .val (.ref x), .val (.long sv), .second, .val (.double co), .second, .val (.double od), .second, .val (.long rv), .second, .val (.double sl), .second, .val (.double ll), .second] [])) _
    refine XS.aloadN X_2.here hx rfl (hb hby d2_4) rfl rfl ?_
    show Steps p.tables e below (T_2.setTop (mkF m 5 #[.val (.ref r), .val (.ref x), .val (.long sv), .second, .val (.double co), .second, .val (.double od), .second, .val (.long rv), .second, .val (.double sl), .second, .val (.double ll), .second] [(.ref r)])) _
    refine XS.aloadN X_2.here hx rfl (hb hby d2_5) rfl rfl ?_
    exact ktg)
  obtain ⟨T_4, h_4, X_4, e_4, W_4, st_4⟩ := putF X_2 hx hZ hown (host := "") (Or.inl (hw _ (List.mem_of_getElem? (i := 22) rfl))) Via.refl e_2 F_name E1 (Or.inr ⟨(hw _ (List.mem_of_getElem? (i := 23) rfl)), rfl, hnm⟩) (hw _ (List.mem_of_getElem? (i := 6) rfl)) (ty := (.object "java/lang/String")) (by decide) rfl rfl (g := (mkF m 6 #[.val (.ref r), .val (.ref x), .val (.long sv), .second, .val (.double co), .second, .val (.double od), .second, .val (.long rv), .second, .val (.double sl), .second, .val (.double ll), .second] [(.ref x), (.ref r)])) rfl rfl (hb hby d2_6)
  have pre_4 : Rch p.tables e below (s₁.setTop (entryFrame m #[(.ref r), (.ref x), (.long sv), (.double co), (.double od), (.long rv), (.double sl), (.double ll)] 14)) (T_4.setTop (mkF m 9 #[.val (.ref r), .val (.ref x), .val (.long sv), .second, .val (.double co), .second, .val (.double od), .second, .val (.long rv), .second, .val (.double sl), .second, .val (.double ll), .second] [])) := fun tgt ktg => pre_3 tgt (st_4 tgt ktg)
  have f_5 : Exa Z h_4 r "com/example/prudent_spot/prudentspot/replay/Outcome" := E1.wr W_4
  have f_6 : Fld Z h_4 r "com/example/prudent_spot/prudentspot/replay/Outcome" "servers" "J" (.long (0 : Int64)) := F_servers.other W_4 (Or.inr (slot_ne (Or.inr (hw _ (List.mem_of_getElem? (i := 25) rfl))) (Or.inr (hw _ (List.mem_of_getElem? (i := 23) rfl))) (by decide) (t := .long) (t' := (.object "java/lang/String")) (by decide) (by decide)))
  have f_7 : Fld Z h_4 r "com/example/prudent_spot/prudentspot/replay/Outcome" "cost" "D" (.double (0 : UInt64)) := F_cost.other W_4 (Or.inr (slot_ne (Or.inr (hw _ (List.mem_of_getElem? (i := 27) rfl))) (Or.inr (hw _ (List.mem_of_getElem? (i := 23) rfl))) (by decide) (t := .double) (t' := (.object "java/lang/String")) (by decide) (by decide)))
  have f_8 : Fld Z h_4 r "com/example/prudent_spot/prudentspot/replay/Outcome" "onDemandCost" "D" (.double (0 : UInt64)) := F_onDemandCost.other W_4 (Or.inr (slot_ne (Or.inr (hw _ (List.mem_of_getElem? (i := 29) rfl))) (Or.inr (hw _ (List.mem_of_getElem? (i := 23) rfl))) (by decide) (t := .double) (t' := (.object "java/lang/String")) (by decide) (by decide)))
  have f_9 : Fld Z h_4 r "com/example/prudent_spot/prudentspot/replay/Outcome" "revocations" "J" (.long (0 : Int64)) := F_revocations.other W_4 (Or.inr (slot_ne (Or.inr (hw _ (List.mem_of_getElem? (i := 31) rfl))) (Or.inr (hw _ (List.mem_of_getElem? (i := 23) rfl))) (by decide) (t := .long) (t' := (.object "java/lang/String")) (by decide) (by decide)))
  have f_10 : Fld Z h_4 r "com/example/prudent_spot/prudentspot/replay/Outcome" "serverHoursLost" "D" (.double (0 : UInt64)) := F_serverHoursLost.other W_4 (Or.inr (slot_ne (Or.inr (hw _ (List.mem_of_getElem? (i := 33) rfl))) (Or.inr (hw _ (List.mem_of_getElem? (i := 23) rfl))) (by decide) (t := .double) (t' := (.object "java/lang/String")) (by decide) (by decide)))
  have f_11 : Fld Z h_4 r "com/example/prudent_spot/prudentspot/replay/Outcome" "largestLossShare" "D" (.double (0 : UInt64)) := F_largestLossShare.other W_4 (Or.inr (slot_ne (Or.inr (hw _ (List.mem_of_getElem? (i := 35) rfl))) (Or.inr (hw _ (List.mem_of_getElem? (i := 23) rfl))) (by decide) (t := .double) (t' := (.object "java/lang/String")) (by decide) (by decide)))
  have z_12 : n0 ≤ h_4.size := Nat.le_trans Z0 (Keep.of_wr W_4).1
  have K_13 : Keep h0 h_4 [r] := K0.wr W_4 (Or.inl (List.mem_of_getElem? (i := 0) rfl))
  have f_14 : Fld Z h_4 r "com/example/prudent_spot/prudentspot/replay/Outcome" "name" "Ljava/lang/String;" (.ref x) := F_name.same W_4
  have N_15 := Fr.snoc X_4 N0 gr
  have pre_16 : Rch p.tables e below (s₁.setTop (entryFrame m #[(.ref r), (.ref x), (.long sv), (.double co), (.double od), (.long rv), (.double sl), (.double ll)] 14)) (T_4.setTop (mkF m 11 #[.val (.ref r), .val (.ref x), .val (.long sv), .second, .val (.double co), .second, .val (.double od), .second, .val (.long rv), .second, .val (.double sl), .second, .val (.double ll), .second] [(.long sv), (.ref r)])) := fun tgt ktg => pre_4 tgt (by
    show Steps p.tables e below (T_4.setTop (mkF m 9 #[.val (.ref r), .val (.ref x), .val (.long sv), .second, .val (.double co), .second, .val (.double od), .second, .val (.long rv), .second, .val (.double sl), .second, .val (.double ll), .second] [])) _
    refine XS.aloadN X_4.here hx rfl (hb hby d2_9) rfl rfl ?_
    show Steps p.tables e below (T_4.setTop (mkF m 10 #[.val (.ref r), .val (.ref x), .val (.long sv), .second, .val (.double co), .second, .val (.double od), .second, .val (.long rv), .second, .val (.double sl), .second, .val (.double ll), .second] [(.ref r)])) _
    refine XT.lloadN X_4.here hx rfl (hb hby d2_10) rfl ?_
    exact ktg)
  obtain ⟨T_17, h_17, X_17, e_17, W_17, st_17⟩ := putF X_4 hx hZ hown (host := "") (Or.inl (hw _ (List.mem_of_getElem? (i := 24) rfl))) Via.refl e_4 f_6 f_5 (Or.inr ⟨(hw _ (List.mem_of_getElem? (i := 25) rfl)), rfl, hnm⟩) (hw _ (List.mem_of_getElem? (i := 6) rfl)) (ty := .long) (by decide) rfl rfl (g := (mkF m 11 #[.val (.ref r), .val (.ref x), .val (.long sv), .second, .val (.double co), .second, .val (.double od), .second, .val (.long rv), .second, .val (.double sl), .second, .val (.double ll), .second] [(.long sv), (.ref r)])) rfl rfl (hb hby d2_11)
  have pre_17 : Rch p.tables e below (s₁.setTop (entryFrame m #[(.ref r), (.ref x), (.long sv), (.double co), (.double od), (.long rv), (.double sl), (.double ll)] 14)) (T_17.setTop (mkF m 14 #[.val (.ref r), .val (.ref x), .val (.long sv), .second, .val (.double co), .second, .val (.double od), .second, .val (.long rv), .second, .val (.double sl), .second, .val (.double ll), .second] [])) := fun tgt ktg => pre_16 tgt (st_17 tgt ktg)
  have f_18 : Exa Z h_17 r "com/example/prudent_spot/prudentspot/replay/Outcome" := f_5.wr W_17
  have f_19 : Fld Z h_17 r "com/example/prudent_spot/prudentspot/replay/Outcome" "cost" "D" (.double (0 : UInt64)) := f_7.other W_17 (Or.inr (slot_ne (Or.inr (hw _ (List.mem_of_getElem? (i := 27) rfl))) (Or.inr (hw _ (List.mem_of_getElem? (i := 25) rfl))) (by decide) (t := .double) (t' := .long) (by decide) (by decide)))
  have f_20 : Fld Z h_17 r "com/example/prudent_spot/prudentspot/replay/Outcome" "onDemandCost" "D" (.double (0 : UInt64)) := f_8.other W_17 (Or.inr (slot_ne (Or.inr (hw _ (List.mem_of_getElem? (i := 29) rfl))) (Or.inr (hw _ (List.mem_of_getElem? (i := 25) rfl))) (by decide) (t := .double) (t' := .long) (by decide) (by decide)))
  have f_21 : Fld Z h_17 r "com/example/prudent_spot/prudentspot/replay/Outcome" "revocations" "J" (.long (0 : Int64)) := f_9.other W_17 (Or.inr (slot_ne (Or.inr (hw _ (List.mem_of_getElem? (i := 31) rfl))) (Or.inr (hw _ (List.mem_of_getElem? (i := 25) rfl))) (by decide) (t := .long) (t' := .long) (by decide) (by decide)))
  have f_22 : Fld Z h_17 r "com/example/prudent_spot/prudentspot/replay/Outcome" "serverHoursLost" "D" (.double (0 : UInt64)) := f_10.other W_17 (Or.inr (slot_ne (Or.inr (hw _ (List.mem_of_getElem? (i := 33) rfl))) (Or.inr (hw _ (List.mem_of_getElem? (i := 25) rfl))) (by decide) (t := .double) (t' := .long) (by decide) (by decide)))
  have f_23 : Fld Z h_17 r "com/example/prudent_spot/prudentspot/replay/Outcome" "largestLossShare" "D" (.double (0 : UInt64)) := f_11.other W_17 (Or.inr (slot_ne (Or.inr (hw _ (List.mem_of_getElem? (i := 35) rfl))) (Or.inr (hw _ (List.mem_of_getElem? (i := 25) rfl))) (by decide) (t := .double) (t' := .long) (by decide) (by decide)))
  have f_24 : Fld Z h_17 r "com/example/prudent_spot/prudentspot/replay/Outcome" "name" "Ljava/lang/String;" (.ref x) := f_14.other W_17 (Or.inr (slot_ne (Or.inr (hw _ (List.mem_of_getElem? (i := 23) rfl))) (Or.inr (hw _ (List.mem_of_getElem? (i := 25) rfl))) (by decide) (t := (.object "java/lang/String")) (t' := .long) (by decide) (by decide)))
  have z_25 : n0 ≤ h_17.size := Nat.le_trans z_12 (Keep.of_wr W_17).1
  have K_26 : Keep h0 h_17 [r] := K_13.wr W_17 (Or.inl (List.mem_of_getElem? (i := 0) rfl))
  have f_27 : Fld Z h_17 r "com/example/prudent_spot/prudentspot/replay/Outcome" "servers" "J" (.long sv) := f_6.same W_17
  have N_28 := Fr.snoc X_17 N_15 gr
  have pre_29 : Rch p.tables e below (s₁.setTop (entryFrame m #[(.ref r), (.ref x), (.long sv), (.double co), (.double od), (.long rv), (.double sl), (.double ll)] 14)) (T_17.setTop (mkF m 17 #[.val (.ref r), .val (.ref x), .val (.long sv), .second, .val (.double co), .second, .val (.double od), .second, .val (.long rv), .second, .val (.double sl), .second, .val (.double ll), .second] [(.double co), (.ref r)])) := fun tgt ktg => pre_17 tgt (by
    show Steps p.tables e below (T_17.setTop (mkF m 14 #[.val (.ref r), .val (.ref x), .val (.long sv), .second, .val (.double co), .second, .val (.double od), .second, .val (.long rv), .second, .val (.double sl), .second, .val (.double ll), .second] [])) _
    refine XS.aloadN X_17.here hx rfl (hb hby d2_14) rfl rfl ?_
    show Steps p.tables e below (T_17.setTop (mkF m 15 #[.val (.ref r), .val (.ref x), .val (.long sv), .second, .val (.double co), .second, .val (.double od), .second, .val (.long rv), .second, .val (.double sl), .second, .val (.double ll), .second] [(.ref r)])) _
    refine XS.dload X_17.here hx rfl (hb hby d2_15) rfl ?_
    exact ktg)
  obtain ⟨T_30, h_30, X_30, e_30, W_30, st_30⟩ := putF X_17 hx hZ hown (host := "") (Or.inl (hw _ (List.mem_of_getElem? (i := 26) rfl))) Via.refl e_17 f_19 f_18 (Or.inr ⟨(hw _ (List.mem_of_getElem? (i := 27) rfl)), rfl, hnm⟩) (hw _ (List.mem_of_getElem? (i := 6) rfl)) (ty := .double) (by decide) rfl rfl (g := (mkF m 17 #[.val (.ref r), .val (.ref x), .val (.long sv), .second, .val (.double co), .second, .val (.double od), .second, .val (.long rv), .second, .val (.double sl), .second, .val (.double ll), .second] [(.double co), (.ref r)])) rfl rfl (hb hby d2_17)
  have pre_30 : Rch p.tables e below (s₁.setTop (entryFrame m #[(.ref r), (.ref x), (.long sv), (.double co), (.double od), (.long rv), (.double sl), (.double ll)] 14)) (T_30.setTop (mkF m 20 #[.val (.ref r), .val (.ref x), .val (.long sv), .second, .val (.double co), .second, .val (.double od), .second, .val (.long rv), .second, .val (.double sl), .second, .val (.double ll), .second] [])) := fun tgt ktg => pre_29 tgt (st_30 tgt ktg)
  have f_31 : Exa Z h_30 r "com/example/prudent_spot/prudentspot/replay/Outcome" := f_18.wr W_30
  have f_32 : Fld Z h_30 r "com/example/prudent_spot/prudentspot/replay/Outcome" "onDemandCost" "D" (.double (0 : UInt64)) := f_20.other W_30 (Or.inr (slot_ne (Or.inr (hw _ (List.mem_of_getElem? (i := 29) rfl))) (Or.inr (hw _ (List.mem_of_getElem? (i := 27) rfl))) (by decide) (t := .double) (t' := .double) (by decide) (by decide)))
  have f_33 : Fld Z h_30 r "com/example/prudent_spot/prudentspot/replay/Outcome" "revocations" "J" (.long (0 : Int64)) := f_21.other W_30 (Or.inr (slot_ne (Or.inr (hw _ (List.mem_of_getElem? (i := 31) rfl))) (Or.inr (hw _ (List.mem_of_getElem? (i := 27) rfl))) (by decide) (t := .long) (t' := .double) (by decide) (by decide)))
  have f_34 : Fld Z h_30 r "com/example/prudent_spot/prudentspot/replay/Outcome" "serverHoursLost" "D" (.double (0 : UInt64)) := f_22.other W_30 (Or.inr (slot_ne (Or.inr (hw _ (List.mem_of_getElem? (i := 33) rfl))) (Or.inr (hw _ (List.mem_of_getElem? (i := 27) rfl))) (by decide) (t := .double) (t' := .double) (by decide) (by decide)))
  have f_35 : Fld Z h_30 r "com/example/prudent_spot/prudentspot/replay/Outcome" "largestLossShare" "D" (.double (0 : UInt64)) := f_23.other W_30 (Or.inr (slot_ne (Or.inr (hw _ (List.mem_of_getElem? (i := 35) rfl))) (Or.inr (hw _ (List.mem_of_getElem? (i := 27) rfl))) (by decide) (t := .double) (t' := .double) (by decide) (by decide)))
  have f_36 : Fld Z h_30 r "com/example/prudent_spot/prudentspot/replay/Outcome" "name" "Ljava/lang/String;" (.ref x) := f_24.other W_30 (Or.inr (slot_ne (Or.inr (hw _ (List.mem_of_getElem? (i := 23) rfl))) (Or.inr (hw _ (List.mem_of_getElem? (i := 27) rfl))) (by decide) (t := (.object "java/lang/String")) (t' := .double) (by decide) (by decide)))
  have f_37 : Fld Z h_30 r "com/example/prudent_spot/prudentspot/replay/Outcome" "servers" "J" (.long sv) := f_27.other W_30 (Or.inr (slot_ne (Or.inr (hw _ (List.mem_of_getElem? (i := 25) rfl))) (Or.inr (hw _ (List.mem_of_getElem? (i := 27) rfl))) (by decide) (t := .long) (t' := .double) (by decide) (by decide)))
  have z_38 : n0 ≤ h_30.size := Nat.le_trans z_25 (Keep.of_wr W_30).1
  have K_39 : Keep h0 h_30 [r] := K_26.wr W_30 (Or.inl (List.mem_of_getElem? (i := 0) rfl))
  have f_40 : Fld Z h_30 r "com/example/prudent_spot/prudentspot/replay/Outcome" "cost" "D" (.double co) := f_19.same W_30
  have N_41 := Fr.snoc X_30 N_28 gr
  have pre_42 : Rch p.tables e below (s₁.setTop (entryFrame m #[(.ref r), (.ref x), (.long sv), (.double co), (.double od), (.long rv), (.double sl), (.double ll)] 14)) (T_30.setTop (mkF m 23 #[.val (.ref r), .val (.ref x), .val (.long sv), .second, .val (.double co), .second, .val (.double od), .second, .val (.long rv), .second, .val (.double sl), .second, .val (.double ll), .second] [(.double od), (.ref r)])) := fun tgt ktg => pre_30 tgt (by
    show Steps p.tables e below (T_30.setTop (mkF m 20 #[.val (.ref r), .val (.ref x), .val (.long sv), .second, .val (.double co), .second, .val (.double od), .second, .val (.long rv), .second, .val (.double sl), .second, .val (.double ll), .second] [])) _
    refine XS.aloadN X_30.here hx rfl (hb hby d2_20) rfl rfl ?_
    show Steps p.tables e below (T_30.setTop (mkF m 21 #[.val (.ref r), .val (.ref x), .val (.long sv), .second, .val (.double co), .second, .val (.double od), .second, .val (.long rv), .second, .val (.double sl), .second, .val (.double ll), .second] [(.ref r)])) _
    refine XS.dload X_30.here hx rfl (hb hby d2_21) rfl ?_
    exact ktg)
  obtain ⟨T_43, h_43, X_43, e_43, W_43, st_43⟩ := putF X_30 hx hZ hown (host := "") (Or.inl (hw _ (List.mem_of_getElem? (i := 28) rfl))) Via.refl e_30 f_32 f_31 (Or.inr ⟨(hw _ (List.mem_of_getElem? (i := 29) rfl)), rfl, hnm⟩) (hw _ (List.mem_of_getElem? (i := 6) rfl)) (ty := .double) (by decide) rfl rfl (g := (mkF m 23 #[.val (.ref r), .val (.ref x), .val (.long sv), .second, .val (.double co), .second, .val (.double od), .second, .val (.long rv), .second, .val (.double sl), .second, .val (.double ll), .second] [(.double od), (.ref r)])) rfl rfl (hb hby d2_23)
  have pre_43 : Rch p.tables e below (s₁.setTop (entryFrame m #[(.ref r), (.ref x), (.long sv), (.double co), (.double od), (.long rv), (.double sl), (.double ll)] 14)) (T_43.setTop (mkF m 26 #[.val (.ref r), .val (.ref x), .val (.long sv), .second, .val (.double co), .second, .val (.double od), .second, .val (.long rv), .second, .val (.double sl), .second, .val (.double ll), .second] [])) := fun tgt ktg => pre_42 tgt (st_43 tgt ktg)
  have f_44 : Exa Z h_43 r "com/example/prudent_spot/prudentspot/replay/Outcome" := f_31.wr W_43
  have f_45 : Fld Z h_43 r "com/example/prudent_spot/prudentspot/replay/Outcome" "revocations" "J" (.long (0 : Int64)) := f_33.other W_43 (Or.inr (slot_ne (Or.inr (hw _ (List.mem_of_getElem? (i := 31) rfl))) (Or.inr (hw _ (List.mem_of_getElem? (i := 29) rfl))) (by decide) (t := .long) (t' := .double) (by decide) (by decide)))
  have f_46 : Fld Z h_43 r "com/example/prudent_spot/prudentspot/replay/Outcome" "serverHoursLost" "D" (.double (0 : UInt64)) := f_34.other W_43 (Or.inr (slot_ne (Or.inr (hw _ (List.mem_of_getElem? (i := 33) rfl))) (Or.inr (hw _ (List.mem_of_getElem? (i := 29) rfl))) (by decide) (t := .double) (t' := .double) (by decide) (by decide)))
  have f_47 : Fld Z h_43 r "com/example/prudent_spot/prudentspot/replay/Outcome" "largestLossShare" "D" (.double (0 : UInt64)) := f_35.other W_43 (Or.inr (slot_ne (Or.inr (hw _ (List.mem_of_getElem? (i := 35) rfl))) (Or.inr (hw _ (List.mem_of_getElem? (i := 29) rfl))) (by decide) (t := .double) (t' := .double) (by decide) (by decide)))
  have f_48 : Fld Z h_43 r "com/example/prudent_spot/prudentspot/replay/Outcome" "name" "Ljava/lang/String;" (.ref x) := f_36.other W_43 (Or.inr (slot_ne (Or.inr (hw _ (List.mem_of_getElem? (i := 23) rfl))) (Or.inr (hw _ (List.mem_of_getElem? (i := 29) rfl))) (by decide) (t := (.object "java/lang/String")) (t' := .double) (by decide) (by decide)))
  have f_49 : Fld Z h_43 r "com/example/prudent_spot/prudentspot/replay/Outcome" "servers" "J" (.long sv) := f_37.other W_43 (Or.inr (slot_ne (Or.inr (hw _ (List.mem_of_getElem? (i := 25) rfl))) (Or.inr (hw _ (List.mem_of_getElem? (i := 29) rfl))) (by decide) (t := .long) (t' := .double) (by decide) (by decide)))
  have f_50 : Fld Z h_43 r "com/example/prudent_spot/prudentspot/replay/Outcome" "cost" "D" (.double co) := f_40.other W_43 (Or.inr (slot_ne (Or.inr (hw _ (List.mem_of_getElem? (i := 27) rfl))) (Or.inr (hw _ (List.mem_of_getElem? (i := 29) rfl))) (by decide) (t := .double) (t' := .double) (by decide) (by decide)))
  have z_51 : n0 ≤ h_43.size := Nat.le_trans z_38 (Keep.of_wr W_43).1
  have K_52 : Keep h0 h_43 [r] := K_39.wr W_43 (Or.inl (List.mem_of_getElem? (i := 0) rfl))
  have f_53 : Fld Z h_43 r "com/example/prudent_spot/prudentspot/replay/Outcome" "onDemandCost" "D" (.double od) := f_32.same W_43
  have N_54 := Fr.snoc X_43 N_41 gr
  have pre_55 : Rch p.tables e below (s₁.setTop (entryFrame m #[(.ref r), (.ref x), (.long sv), (.double co), (.double od), (.long rv), (.double sl), (.double ll)] 14)) (T_43.setTop (mkF m 29 #[.val (.ref r), .val (.ref x), .val (.long sv), .second, .val (.double co), .second, .val (.double od), .second, .val (.long rv), .second, .val (.double sl), .second, .val (.double ll), .second] [(.long rv), (.ref r)])) := fun tgt ktg => pre_43 tgt (by
    show Steps p.tables e below (T_43.setTop (mkF m 26 #[.val (.ref r), .val (.ref x), .val (.long sv), .second, .val (.double co), .second, .val (.double od), .second, .val (.long rv), .second, .val (.double sl), .second, .val (.double ll), .second] [])) _
    refine XS.aloadN X_43.here hx rfl (hb hby d2_26) rfl rfl ?_
    show Steps p.tables e below (T_43.setTop (mkF m 27 #[.val (.ref r), .val (.ref x), .val (.long sv), .second, .val (.double co), .second, .val (.double od), .second, .val (.long rv), .second, .val (.double sl), .second, .val (.double ll), .second] [(.ref r)])) _
    refine XT.lload X_43.here hx rfl (hb hby d2_27) rfl ?_
    exact ktg)
  obtain ⟨T_56, h_56, X_56, e_56, W_56, st_56⟩ := putF X_43 hx hZ hown (host := "") (Or.inl (hw _ (List.mem_of_getElem? (i := 30) rfl))) Via.refl e_43 f_45 f_44 (Or.inr ⟨(hw _ (List.mem_of_getElem? (i := 31) rfl)), rfl, hnm⟩) (hw _ (List.mem_of_getElem? (i := 6) rfl)) (ty := .long) (by decide) rfl rfl (g := (mkF m 29 #[.val (.ref r), .val (.ref x), .val (.long sv), .second, .val (.double co), .second, .val (.double od), .second, .val (.long rv), .second, .val (.double sl), .second, .val (.double ll), .second] [(.long rv), (.ref r)])) rfl rfl (hb hby d2_29)
  have pre_56 : Rch p.tables e below (s₁.setTop (entryFrame m #[(.ref r), (.ref x), (.long sv), (.double co), (.double od), (.long rv), (.double sl), (.double ll)] 14)) (T_56.setTop (mkF m 32 #[.val (.ref r), .val (.ref x), .val (.long sv), .second, .val (.double co), .second, .val (.double od), .second, .val (.long rv), .second, .val (.double sl), .second, .val (.double ll), .second] [])) := fun tgt ktg => pre_55 tgt (st_56 tgt ktg)
  have f_57 : Exa Z h_56 r "com/example/prudent_spot/prudentspot/replay/Outcome" := f_44.wr W_56
  have f_58 : Fld Z h_56 r "com/example/prudent_spot/prudentspot/replay/Outcome" "serverHoursLost" "D" (.double (0 : UInt64)) := f_46.other W_56 (Or.inr (slot_ne (Or.inr (hw _ (List.mem_of_getElem? (i := 33) rfl))) (Or.inr (hw _ (List.mem_of_getElem? (i := 31) rfl))) (by decide) (t := .double) (t' := .long) (by decide) (by decide)))
  have f_59 : Fld Z h_56 r "com/example/prudent_spot/prudentspot/replay/Outcome" "largestLossShare" "D" (.double (0 : UInt64)) := f_47.other W_56 (Or.inr (slot_ne (Or.inr (hw _ (List.mem_of_getElem? (i := 35) rfl))) (Or.inr (hw _ (List.mem_of_getElem? (i := 31) rfl))) (by decide) (t := .double) (t' := .long) (by decide) (by decide)))
  have f_60 : Fld Z h_56 r "com/example/prudent_spot/prudentspot/replay/Outcome" "name" "Ljava/lang/String;" (.ref x) := f_48.other W_56 (Or.inr (slot_ne (Or.inr (hw _ (List.mem_of_getElem? (i := 23) rfl))) (Or.inr (hw _ (List.mem_of_getElem? (i := 31) rfl))) (by decide) (t := (.object "java/lang/String")) (t' := .long) (by decide) (by decide)))
  have f_61 : Fld Z h_56 r "com/example/prudent_spot/prudentspot/replay/Outcome" "servers" "J" (.long sv) := f_49.other W_56 (Or.inr (slot_ne (Or.inr (hw _ (List.mem_of_getElem? (i := 25) rfl))) (Or.inr (hw _ (List.mem_of_getElem? (i := 31) rfl))) (by decide) (t := .long) (t' := .long) (by decide) (by decide)))
  have f_62 : Fld Z h_56 r "com/example/prudent_spot/prudentspot/replay/Outcome" "cost" "D" (.double co) := f_50.other W_56 (Or.inr (slot_ne (Or.inr (hw _ (List.mem_of_getElem? (i := 27) rfl))) (Or.inr (hw _ (List.mem_of_getElem? (i := 31) rfl))) (by decide) (t := .double) (t' := .long) (by decide) (by decide)))
  have f_63 : Fld Z h_56 r "com/example/prudent_spot/prudentspot/replay/Outcome" "onDemandCost" "D" (.double od) := f_53.other W_56 (Or.inr (slot_ne (Or.inr (hw _ (List.mem_of_getElem? (i := 29) rfl))) (Or.inr (hw _ (List.mem_of_getElem? (i := 31) rfl))) (by decide) (t := .double) (t' := .long) (by decide) (by decide)))
  have z_64 : n0 ≤ h_56.size := Nat.le_trans z_51 (Keep.of_wr W_56).1
  have K_65 : Keep h0 h_56 [r] := K_52.wr W_56 (Or.inl (List.mem_of_getElem? (i := 0) rfl))
  have f_66 : Fld Z h_56 r "com/example/prudent_spot/prudentspot/replay/Outcome" "revocations" "J" (.long rv) := f_45.same W_56
  have N_67 := Fr.snoc X_56 N_54 gr
  have pre_68 : Rch p.tables e below (s₁.setTop (entryFrame m #[(.ref r), (.ref x), (.long sv), (.double co), (.double od), (.long rv), (.double sl), (.double ll)] 14)) (T_56.setTop (mkF m 35 #[.val (.ref r), .val (.ref x), .val (.long sv), .second, .val (.double co), .second, .val (.double od), .second, .val (.long rv), .second, .val (.double sl), .second, .val (.double ll), .second] [(.double sl), (.ref r)])) := fun tgt ktg => pre_56 tgt (by
    show Steps p.tables e below (T_56.setTop (mkF m 32 #[.val (.ref r), .val (.ref x), .val (.long sv), .second, .val (.double co), .second, .val (.double od), .second, .val (.long rv), .second, .val (.double sl), .second, .val (.double ll), .second] [])) _
    refine XS.aloadN X_56.here hx rfl (hb hby d2_32) rfl rfl ?_
    show Steps p.tables e below (T_56.setTop (mkF m 33 #[.val (.ref r), .val (.ref x), .val (.long sv), .second, .val (.double co), .second, .val (.double od), .second, .val (.long rv), .second, .val (.double sl), .second, .val (.double ll), .second] [(.ref r)])) _
    refine XS.dload X_56.here hx rfl (hb hby d2_33) rfl ?_
    exact ktg)
  obtain ⟨T_69, h_69, X_69, e_69, W_69, st_69⟩ := putF X_56 hx hZ hown (host := "") (Or.inl (hw _ (List.mem_of_getElem? (i := 32) rfl))) Via.refl e_56 f_58 f_57 (Or.inr ⟨(hw _ (List.mem_of_getElem? (i := 33) rfl)), rfl, hnm⟩) (hw _ (List.mem_of_getElem? (i := 6) rfl)) (ty := .double) (by decide) rfl rfl (g := (mkF m 35 #[.val (.ref r), .val (.ref x), .val (.long sv), .second, .val (.double co), .second, .val (.double od), .second, .val (.long rv), .second, .val (.double sl), .second, .val (.double ll), .second] [(.double sl), (.ref r)])) rfl rfl (hb hby d2_35)
  have pre_69 : Rch p.tables e below (s₁.setTop (entryFrame m #[(.ref r), (.ref x), (.long sv), (.double co), (.double od), (.long rv), (.double sl), (.double ll)] 14)) (T_69.setTop (mkF m 38 #[.val (.ref r), .val (.ref x), .val (.long sv), .second, .val (.double co), .second, .val (.double od), .second, .val (.long rv), .second, .val (.double sl), .second, .val (.double ll), .second] [])) := fun tgt ktg => pre_68 tgt (st_69 tgt ktg)
  have f_70 : Exa Z h_69 r "com/example/prudent_spot/prudentspot/replay/Outcome" := f_57.wr W_69
  have f_71 : Fld Z h_69 r "com/example/prudent_spot/prudentspot/replay/Outcome" "largestLossShare" "D" (.double (0 : UInt64)) := f_59.other W_69 (Or.inr (slot_ne (Or.inr (hw _ (List.mem_of_getElem? (i := 35) rfl))) (Or.inr (hw _ (List.mem_of_getElem? (i := 33) rfl))) (by decide) (t := .double) (t' := .double) (by decide) (by decide)))
  have f_72 : Fld Z h_69 r "com/example/prudent_spot/prudentspot/replay/Outcome" "name" "Ljava/lang/String;" (.ref x) := f_60.other W_69 (Or.inr (slot_ne (Or.inr (hw _ (List.mem_of_getElem? (i := 23) rfl))) (Or.inr (hw _ (List.mem_of_getElem? (i := 33) rfl))) (by decide) (t := (.object "java/lang/String")) (t' := .double) (by decide) (by decide)))
  have f_73 : Fld Z h_69 r "com/example/prudent_spot/prudentspot/replay/Outcome" "servers" "J" (.long sv) := f_61.other W_69 (Or.inr (slot_ne (Or.inr (hw _ (List.mem_of_getElem? (i := 25) rfl))) (Or.inr (hw _ (List.mem_of_getElem? (i := 33) rfl))) (by decide) (t := .long) (t' := .double) (by decide) (by decide)))
  have f_74 : Fld Z h_69 r "com/example/prudent_spot/prudentspot/replay/Outcome" "cost" "D" (.double co) := f_62.other W_69 (Or.inr (slot_ne (Or.inr (hw _ (List.mem_of_getElem? (i := 27) rfl))) (Or.inr (hw _ (List.mem_of_getElem? (i := 33) rfl))) (by decide) (t := .double) (t' := .double) (by decide) (by decide)))
  have f_75 : Fld Z h_69 r "com/example/prudent_spot/prudentspot/replay/Outcome" "onDemandCost" "D" (.double od) := f_63.other W_69 (Or.inr (slot_ne (Or.inr (hw _ (List.mem_of_getElem? (i := 29) rfl))) (Or.inr (hw _ (List.mem_of_getElem? (i := 33) rfl))) (by decide) (t := .double) (t' := .double) (by decide) (by decide)))
  have f_76 : Fld Z h_69 r "com/example/prudent_spot/prudentspot/replay/Outcome" "revocations" "J" (.long rv) := f_66.other W_69 (Or.inr (slot_ne (Or.inr (hw _ (List.mem_of_getElem? (i := 31) rfl))) (Or.inr (hw _ (List.mem_of_getElem? (i := 33) rfl))) (by decide) (t := .long) (t' := .double) (by decide) (by decide)))
  have z_77 : n0 ≤ h_69.size := Nat.le_trans z_64 (Keep.of_wr W_69).1
  have K_78 : Keep h0 h_69 [r] := K_65.wr W_69 (Or.inl (List.mem_of_getElem? (i := 0) rfl))
  have f_79 : Fld Z h_69 r "com/example/prudent_spot/prudentspot/replay/Outcome" "serverHoursLost" "D" (.double sl) := f_58.same W_69
  have N_80 := Fr.snoc X_69 N_67 gr
  have pre_81 : Rch p.tables e below (s₁.setTop (entryFrame m #[(.ref r), (.ref x), (.long sv), (.double co), (.double od), (.long rv), (.double sl), (.double ll)] 14)) (T_69.setTop (mkF m 41 #[.val (.ref r), .val (.ref x), .val (.long sv), .second, .val (.double co), .second, .val (.double od), .second, .val (.long rv), .second, .val (.double sl), .second, .val (.double ll), .second] [(.double ll), (.ref r)])) := fun tgt ktg => pre_69 tgt (by
    show Steps p.tables e below (T_69.setTop (mkF m 38 #[.val (.ref r), .val (.ref x), .val (.long sv), .second, .val (.double co), .second, .val (.double od), .second, .val (.long rv), .second, .val (.double sl), .second, .val (.double ll), .second] [])) _
    refine XS.aloadN X_69.here hx rfl (hb hby d2_38) rfl rfl ?_
    show Steps p.tables e below (T_69.setTop (mkF m 39 #[.val (.ref r), .val (.ref x), .val (.long sv), .second, .val (.double co), .second, .val (.double od), .second, .val (.long rv), .second, .val (.double sl), .second, .val (.double ll), .second] [(.ref r)])) _
    refine XS.dload X_69.here hx rfl (hb hby d2_39) rfl ?_
    exact ktg)
  obtain ⟨T_82, h_82, X_82, e_82, W_82, st_82⟩ := putF X_69 hx hZ hown (host := "") (Or.inl (hw _ (List.mem_of_getElem? (i := 34) rfl))) Via.refl e_69 f_71 f_70 (Or.inr ⟨(hw _ (List.mem_of_getElem? (i := 35) rfl)), rfl, hnm⟩) (hw _ (List.mem_of_getElem? (i := 6) rfl)) (ty := .double) (by decide) rfl rfl (g := (mkF m 41 #[.val (.ref r), .val (.ref x), .val (.long sv), .second, .val (.double co), .second, .val (.double od), .second, .val (.long rv), .second, .val (.double sl), .second, .val (.double ll), .second] [(.double ll), (.ref r)])) rfl rfl (hb hby d2_41)
  have pre_82 : Rch p.tables e below (s₁.setTop (entryFrame m #[(.ref r), (.ref x), (.long sv), (.double co), (.double od), (.long rv), (.double sl), (.double ll)] 14)) (T_82.setTop (mkF m 44 #[.val (.ref r), .val (.ref x), .val (.long sv), .second, .val (.double co), .second, .val (.double od), .second, .val (.long rv), .second, .val (.double sl), .second, .val (.double ll), .second] [])) := fun tgt ktg => pre_81 tgt (st_82 tgt ktg)
  have f_83 : Exa Z h_82 r "com/example/prudent_spot/prudentspot/replay/Outcome" := f_70.wr W_82
  have f_84 : Fld Z h_82 r "com/example/prudent_spot/prudentspot/replay/Outcome" "name" "Ljava/lang/String;" (.ref x) := f_72.other W_82 (Or.inr (slot_ne (Or.inr (hw _ (List.mem_of_getElem? (i := 23) rfl))) (Or.inr (hw _ (List.mem_of_getElem? (i := 35) rfl))) (by decide) (t := (.object "java/lang/String")) (t' := .double) (by decide) (by decide)))
  have f_85 : Fld Z h_82 r "com/example/prudent_spot/prudentspot/replay/Outcome" "servers" "J" (.long sv) := f_73.other W_82 (Or.inr (slot_ne (Or.inr (hw _ (List.mem_of_getElem? (i := 25) rfl))) (Or.inr (hw _ (List.mem_of_getElem? (i := 35) rfl))) (by decide) (t := .long) (t' := .double) (by decide) (by decide)))
  have f_86 : Fld Z h_82 r "com/example/prudent_spot/prudentspot/replay/Outcome" "cost" "D" (.double co) := f_74.other W_82 (Or.inr (slot_ne (Or.inr (hw _ (List.mem_of_getElem? (i := 27) rfl))) (Or.inr (hw _ (List.mem_of_getElem? (i := 35) rfl))) (by decide) (t := .double) (t' := .double) (by decide) (by decide)))
  have f_87 : Fld Z h_82 r "com/example/prudent_spot/prudentspot/replay/Outcome" "onDemandCost" "D" (.double od) := f_75.other W_82 (Or.inr (slot_ne (Or.inr (hw _ (List.mem_of_getElem? (i := 29) rfl))) (Or.inr (hw _ (List.mem_of_getElem? (i := 35) rfl))) (by decide) (t := .double) (t' := .double) (by decide) (by decide)))
  have f_88 : Fld Z h_82 r "com/example/prudent_spot/prudentspot/replay/Outcome" "revocations" "J" (.long rv) := f_76.other W_82 (Or.inr (slot_ne (Or.inr (hw _ (List.mem_of_getElem? (i := 31) rfl))) (Or.inr (hw _ (List.mem_of_getElem? (i := 35) rfl))) (by decide) (t := .long) (t' := .double) (by decide) (by decide)))
  have f_89 : Fld Z h_82 r "com/example/prudent_spot/prudentspot/replay/Outcome" "serverHoursLost" "D" (.double sl) := f_79.other W_82 (Or.inr (slot_ne (Or.inr (hw _ (List.mem_of_getElem? (i := 33) rfl))) (Or.inr (hw _ (List.mem_of_getElem? (i := 35) rfl))) (by decide) (t := .double) (t' := .double) (by decide) (by decide)))
  have z_90 : n0 ≤ h_82.size := Nat.le_trans z_77 (Keep.of_wr W_82).1
  have K_91 : Keep h0 h_82 [r] := K_78.wr W_82 (Or.inl (List.mem_of_getElem? (i := 0) rfl))
  have f_92 : Fld Z h_82 r "com/example/prudent_spot/prudentspot/replay/Outcome" "largestLossShare" "D" (.double ll) := f_71.same W_82
  have N_93 := Fr.snoc X_82 N_80 gr
  obtain ⟨fs, hr, hrun, hended, hW, hsame⟩ := X_82.leave (v := none) (fun _ => rfl)
  refine ⟨_, _, pre_82 _ ?_, hrun, hended, _, _, rfl, ?_, ⟨_, rfl⟩, hW, hsame.mono (by decide) (by decide)⟩
  · show Steps p.tables e below (T_82.setTop (mkF m 44 #[.val (.ref r), .val (.ref x), .val (.long sv), .second, .val (.double co), .second, .val (.double od), .second, .val (.long rv), .second, .val (.double sl), .second, .val (.double ll), .second] [])) _
    exact X_82.returnOut hx Bd.returns (hb hby d2_44) hr
  · show Qoi Z r x sv co od rv sl ll h0 n0 _ T_82.heap _
    rw [e_82]
    exact ⟨rfl, N_93, K_91, f_83, f_86, f_87⟩
theorem d4_0 : decode prog_21_method_6_code 0 = .ok (.dconst 1, 1) := by decide +kernel
theorem d4_1 : decode prog_21_method_6_code 1 = .ok (.aload_n 0, 1) := by decide +kernel
theorem d4_2 : decode prog_21_method_6_code 2 = .ok (.getfield 17, 3) := by decide +kernel
theorem d4_5 : decode prog_21_method_6_code 5 = .ok (.aload_n 0, 1) := by decide +kernel
theorem d4_6 : decode prog_21_method_6_code 6 = .ok (.getfield 21, 3) := by decide +kernel
theorem d4_9 : decode prog_21_method_6_code 9 = .ok (.ddiv, 1) := by decide +kernel
theorem d4_10 : decode prog_21_method_6_code 10 = .ok (.dsub, 1) := by decide +kernel
theorem d4_11 : decode prog_21_method_6_code 11 = .ok (.dreturn, 1) := by decide +kernel
theorem ef_sa (m : MethodId) (x0 : Addr) : entryFrame m #[(.ref x0)] 1 = mkF m 0 #[.val (.ref x0)] [] := by first | (simp [entryFrame, mkF, argsToLocals, Value.category]; done) | rfl
def Qsa (Z : State) (r : Addr) (co od : UInt64) (h0 : Heap) (n0 : Nat) (v : Option Value) (h : Heap) (L : List Loc) : Prop := v = some (.double (FP.dsub (4607182418800017408 : UInt64) (FP.ddiv co od))) ∧ Fr n0 L ∧ h = h0
set_option maxRecDepth 65536 in
set_option maxHeartbeats 40000000 in
theorem rmsa (l : Launch) (Z : State) (a0 : Array Value) (hw : ∀ d ∈ tables_1, d.before a0 Z = true) (ws : List Jvm.Cond) (r : Addr) (co od : UInt64) (h0 : Heap) (n0 : Nat) (Z0 : n0 ≤ h0.size) (F1 : Fld Z h0 r "com/example/prudent_spot/prudentspot/replay/Outcome" "cost" "D" (.double co)) (F2 : Fld Z h0 r "com/example/prudent_spot/prudentspot/replay/Outcome" "onDemandCost" "D" (.double od)) (n1 : Jvm.Free.Fl.NoNaN64 (FP.ddiv co od)) (n2 : Jvm.Free.Fl.NoNaN64 (FP.dsub (4607182418800017408 : UInt64) (FP.ddiv co od))) :
    MetFree l (⟨"com/example/prudent_spot/prudentspot/replay/Outcome", "saving", "()D"⟩ : MethodName) (head1 (Jvm.Cond.code (⟨"com/example/prudent_spot/prudentspot/replay/Outcome", "saving", "()D"⟩ : MethodName) prog_21_method_6_code 1 (some .double) :: ws) ({ frames := 0, cells := 0, slots := 0, locals := 0 } : Room)) (fun aA U => aA = #[(.ref r)] ∧ Z.Warmed39 U.vm ∧ U.heap = h0) (fun _ _ _ _ _ => True) (fun _ U oO U' => ∃ vV LL, oO = .returned vV ∧ Qsa Z r co od h0 n0 vV U'.heap LL ∧ FrameEnd U oO U' LL ({ frames := 0, cells := 0, slots := 0, locals := 0 } : Room).cells ({ frames := 0, cells := 0, slots := 0, locals := 0 } : Room).slots) := by
  refine MetFree.of_bodySF (plainFor_of_name pn_0) hisR ?_
  intro p e s m args below meth c s₁ Bd hml0 hP hK
  obtain ⟨rfl, hZ, hh⟩ := hP
  have hx := Bd.exec
  have hby := Bd.bytes
  have hml : c.maxLocals = 1 := hml0
  have hown : s.vm.findClass "com/example/prudent_spot/prudentspot/replay/Outcome" = some m.cls := findClass_of_methodNamed Bd.named
  have hnm := (name_of_methodNamed Bd.named Bd.method).1
  have X0 : Stand p l e ({ frames := 0, cells := 0, slots := 0, locals := 0 } : Room) s m #[(.ref r)] below meth c s₁ [] 0 0 := Stand.of_body Bd
  have e0 : s₁.heap = h0 := by rw [← hh, Bd.state]; rfl
  have N0 := Fr.nil n0
  have K0 : Keep h0 h0 [] := Keep.refl _ _
  have pre0 : Rch p.tables e below (s₁.setTop (entryFrame m #[(.ref r)] 1)) (s₁.setTop (mkF m 0 #[.val (.ref r)] [])) := fun tgt ktg => castTop (ef_sa m r) ktg
  have pre_1 : Rch p.tables e below (s₁.setTop (entryFrame m #[(.ref r)] 1)) (s₁.setTop (mkF m 2 #[.val (.ref r)] [(.ref r), (.double (4607182418800017408 : UInt64))])) := fun tgt ktg => pre0 tgt (by
    show Steps p.tables e below (s₁.setTop (mkF m 0 #[.val (.ref r)] [])) _
    refine XS.dconst1 X0.here hx rfl (hb hby d4_0) (v := (4607182418800017408 : UInt64)) own_dc1 ?_
    show Steps p.tables e below (s₁.setTop (mkF m 1 #[.val (.ref r)] [(.double (4607182418800017408 : UInt64))])) _
    refine XS.aloadN X0.here hx rfl (hb hby d4_1) rfl rfl ?_
    exact ktg)
  obtain ⟨T_2, X_2, e_2, st_2⟩ := getF X0 hx hZ hown (host := "") (Or.inl (hw _ (List.mem_of_getElem? (i := 26) rfl))) Via.refl e0 F1 (g := (mkF m 2 #[.val (.ref r)] [(.ref r), (.double (4607182418800017408 : UInt64))])) rfl rfl (hb hby d4_2)
  have pre_2 : Rch p.tables e below (s₁.setTop (entryFrame m #[(.ref r)] 1)) (T_2.setTop (mkF m 5 #[.val (.ref r)] [(.double co), (.double (4607182418800017408 : UInt64))])) := fun tgt ktg => pre_1 tgt (st_2 tgt ktg)
  have pre_3 : Rch p.tables e below (s₁.setTop (entryFrame m #[(.ref r)] 1)) (T_2.setTop (mkF m 6 #[.val (.ref r)] [(.ref r), (.double co), (.double (4607182418800017408 : UInt64))])) := fun tgt ktg => pre_2 tgt (by
    show Steps p.tables e below (T_2.setTop (mkF m 5 #[.val (.ref r)] [(.double co), (.double (4607182418800017408 : UInt64))])) _
    refine XS.aloadN X_2.here hx rfl (hb hby d4_5) rfl rfl ?_
    exact ktg)
  obtain ⟨T_4, X_4, e_4, st_4⟩ := getF X_2 hx hZ hown (host := "") (Or.inl (hw _ (List.mem_of_getElem? (i := 28) rfl))) Via.refl e_2 F2 (g := (mkF m 6 #[.val (.ref r)] [(.ref r), (.double co), (.double (4607182418800017408 : UInt64))])) rfl rfl (hb hby d4_6)
  have pre_4 : Rch p.tables e below (s₁.setTop (entryFrame m #[(.ref r)] 1)) (T_4.setTop (mkF m 9 #[.val (.ref r)] [(.double od), (.double co), (.double (4607182418800017408 : UInt64))])) := fun tgt ktg => pre_3 tgt (st_4 tgt ktg)
  have pre_5 : Rch p.tables e below (s₁.setTop (entryFrame m #[(.ref r)] 1)) (T_4.setTop (mkF m 11 #[.val (.ref r)] [(.double (FP.dsub (4607182418800017408 : UInt64) (FP.ddiv co od)))])) := fun tgt ktg => pre_4 tgt (by
    show Steps p.tables e below (T_4.setTop (mkF m 9 #[.val (.ref r)] [(.double od), (.double co), (.double (4607182418800017408 : UInt64))])) _
    refine XS.ddivS X_4.here hx rfl (hb hby d4_9) rfl n1 rfl ?_
    show Steps p.tables e below (T_4.setTop (mkF m 10 #[.val (.ref r)] [(.double (FP.ddiv co od)), (.double (4607182418800017408 : UInt64))])) _
    refine XS.dsubS X_4.here hx rfl (hb hby d4_10) rfl n2 rfl ?_
    exact ktg)
  obtain ⟨fs, hr, hrun, hended, hW, hsame⟩ := X_4.leave (v := some (.double (FP.dsub (4607182418800017408 : UInt64) (FP.ddiv co od)))) (fun h => by rw [Bd.returns] at h; cases h)
  refine ⟨_, _, pre_5 _ ?_, hrun, hended, _, _, rfl, ?_, ⟨_, rfl⟩, hW, hsame.mono (by decide) (by decide)⟩
  · show Steps p.tables e below (T_4.setTop (mkF m 11 #[.val (.ref r)] [(.double (FP.dsub (4607182418800017408 : UInt64) (FP.ddiv co od)))])) _
    jvm_step X_4.here [X_4.here.top, hx, (hb hby d4_11), X_4.method', Bd.returns, narrow]
    first | (intro acts; rw [hr _ acts rfl rfl rfl]) | rw [hr _ _ rfl rfl rfl] | (refine ⟨meth, X_4.method', ⟨_, Bd.returns, rfl⟩, fun acts => ?_⟩; rw [hr _ acts rfl rfl rfl]) | (refine ⟨meth, X_4.method', _, Bd.returns, fun acts => ?_⟩; rw [hr _ acts rfl rfl rfl]) | (refine ⟨_, X_4.here.method, meth, X_4.method', Bd.returns, fun acts => ?_⟩; rw [hr _ acts rfl rfl rfl])
    exact Steps.refl _
  · show Qsa Z r co od h0 n0 _ T_4.heap _
    rw [e_4]
    exact ⟨rfl, N0, rfl⟩
theorem d1_0 : decode method_2_code 0 = .ok (.new 7, 3) := by decide +kernel
theorem d1_3 : decode method_2_code 3 = .ok (.dup, 1) := by decide +kernel
theorem d1_4 : decode method_2_code 4 = .ok (.ldc 9, 2) := by decide +kernel
theorem d1_6 : decode method_2_code 6 = .ok (.lconst 1, 1) := by decide +kernel
theorem d1_7 : decode method_2_code 7 = .ok (.lload_n 0, 1) := by decide +kernel
theorem d1_8 : decode method_2_code 8 = .ok (.l2d, 1) := by decide +kernel
theorem d1_9 : decode method_2_code 9 = .ok (.lload_n 2, 1) := by decide +kernel
theorem d1_10 : decode method_2_code 10 = .ok (.l2d, 1) := by decide +kernel
theorem d1_11 : decode method_2_code 11 = .ok (.lconst 0, 1) := by decide +kernel
theorem d1_12 : decode method_2_code 12 = .ok (.dconst 0, 1) := by decide +kernel
theorem d1_13 : decode method_2_code 13 = .ok (.dconst 0, 1) := by decide +kernel
theorem d1_14 : decode method_2_code 14 = .ok (.invokespecial 11, 3) := by decide +kernel
theorem pd_0 : parseMethodDescriptor "(Ljava/lang/String;JDDJDD)V" = some ⟨[(.object "java/lang/String"), .long, .double, .double, .long, .double, .double], none⟩ := by decide +kernel
theorem d1_17 : decode method_2_code 17 = .ok (.invokevirtual 14, 3) := by decide +kernel
theorem pd_1 : parseMethodDescriptor "()D" = some ⟨[], some .double⟩ := by decide +kernel
theorem d1_20 : decode method_2_code 20 = .ok (.dreturn, 1) := by decide +kernel
theorem pn_1 : plainName "com/example/prudent_spot/prudentspot/replay/OutcomeSavingPinLaw" = true := by first | (simp [plainName, overriddenIn]; done) | decide +kernel
theorem ef_s (m : MethodId) (x0 : Int64) (x1 : Int64) : entryFrame m #[(.long x0), (.long x1)] 4 = mkF m 0 #[.val (.long x0), .second, .val (.long x1), .second] [] := by first | (simp [entryFrame, mkF, argsToLocals, Value.category]; done) | rfl
def Qs (Z : State) (ct : Int64) (dt : Int64) (h0 : Heap) (n0 : Nat) (v : Option Value) (h : Heap) (L : List Loc) : Prop := v = some (.double (sav ct dt)) ∧ Fr n0 L ∧ Keep h0 h []
set_option maxRecDepth 65536 in
set_option maxHeartbeats 40000000 in
theorem rms (l : Launch) (Z : State) (a0 : Array Value) (hw : ∀ d ∈ tables_1, d.before a0 Z = true) (ws : List Jvm.Cond) (ct : Int64) (dt : Int64) (h0 : Heap) (n0 : Nat) (Z0 : n0 ≤ h0.size) (hd : Dn dt) :
    MetFree l (⟨"com/example/prudent_spot/prudentspot/replay/OutcomeSavingPinLaw", "s", "(JJ)D"⟩ : MethodName) (head1 (Jvm.Cond.code (⟨"com/example/prudent_spot/prudentspot/replay/OutcomeSavingPinLaw", "s", "(JJ)D"⟩ : MethodName) method_2_code 4 (some .double) :: ws) ({ frames := 2, cells := 3, slots := 15, locals := 60 } : Room)) (fun aA U => aA = #[(.long ct), (.long dt)] ∧ Z.Warmed39 U.vm ∧ U.heap = h0 ∧ CHv Z consts_1 U.vm h0) (fun _ _ _ _ _ => True) (fun _ U oO U' => ∃ vV LL, oO = .returned vV ∧ Qs Z ct dt h0 n0 vV U'.heap LL ∧ CHr Z consts_1 U.vm U.heap U'.vm U'.heap ∧ ReturnedEndW U oO U' LL ({ frames := 2, cells := 3, slots := 15, locals := 60 } : Room).cells ({ frames := 2, cells := 3, slots := 15, locals := 60 } : Room).slots) := by
  refine MetFree.of_bodySF (plainFor_of_name pn_1) hisR ?_
  intro p e s m args below meth c s₁ Bd hml0 hP hK
  obtain ⟨rfl, hZ, hh, hC⟩ := hP
  have hx := Bd.exec
  have hby := Bd.bytes
  have hml : c.maxLocals = 4 := hml0
  have hown : s.vm.findClass "com/example/prudent_spot/prudentspot/replay/OutcomeSavingPinLaw" = some m.cls := findClass_of_methodNamed Bd.named
  have hnm := (name_of_methodNamed Bd.named Bd.method).1
  have X0 : Stand p l e ({ frames := 2, cells := 3, slots := 15, locals := 60 } : Room) (s.setVm s.vm) m #[(.long ct), (.long dt)] below meth c s₁ [] 0 0 := Stand.of_body Bd
  have e0 : s₁.heap = h0 := by rw [← hh, Bd.state]; rfl
  have N0 := Fr.nil n0
  have K0 : Keep h0 h0 [] := Keep.refl _ _
  have hS0 : s.Since s.vm 0 := (State.WarmedH.refl s).since _
  have hk0 : 0 ≤ h0.size := Nat.zero_le _
  have C0 : CHr Z consts_1 s.vm h0 s.vm h0 := CHr.refl hC
  have hEL := own_EW hw
  have wS := own_wS hw
  have pre0 : Rch p.tables e below (s₁.setTop (entryFrame m #[(.long ct), (.long dt)] 4)) (s₁.setTop (mkF m 0 #[.val (.long ct), .second, .val (.long dt), .second] [])) := fun tgt ktg => castTop (ef_s m ct dt) ktg
  obtain ⟨T_1, h_1, X_1, e_1, E_1, A_1, D_1, U_1, st_1⟩ := newO X0 hx hZ hown (hw _ (List.mem_of_getElem? (i := 5) rfl)) (hw _ (List.mem_of_getElem? (i := 6) rfl)) (hw _ (List.mem_of_getElem? (i := 7) rfl)) e0 (g := (mkF m 0 #[.val (.long ct), .second, .val (.long dt), .second] [])) rfl (hb hby d1_0) (by decide) (by decide)
  obtain ⟨r, g_1⟩ : ∃ nm_, nm_ = h0.size := ⟨_, rfl⟩
  rw [← g_1] at A_1 D_1 U_1 st_1
  have g_r : n0 ≤ r := Nat.le_trans Z0 (Nat.le_of_eq g_1.symm)
  have sz_r : h0.size ≤ r := Nat.le_trans K0.1 (Nat.le_of_eq g_1.symm)
  have f_2 : Safe Z consts_1 s.vm h0 r := Safe.new (Nat.le_of_eq g_1.symm)
  have pre_1 : Rch p.tables e below (s₁.setTop (entryFrame m #[(.long ct), (.long dt)] 4)) (T_1.setTop (mkF m 3 #[.val (.long ct), .second, .val (.long dt), .second] [(.ref r)])) := fun tgt ktg => pre0 tgt (st_1 tgt ktg)
  have C_3 : CHr Z consts_1 s.vm h0 s.vm h_1 := C0.trans (CHr.ext E_1 C0.1)
  have hk_3 := Nat.le_trans hk0 E_1.1
  have f_4 : Safe Z consts_1 s.vm h_1 r := Safe.ext E_1 C0.1 f_2
  have z_5 : n0 ≤ h_1.size := Nat.le_trans Z0 E_1.1
  have K_6 : Keep h0 h_1 [] := K0.ext E_1
  have f_7 : Exa Z h_1 r "com/example/prudent_spot/prudentspot/replay/Outcome" := A_1
  have f_8 : Fld Z h_1 r "com/example/prudent_spot/prudentspot/replay/Outcome" "name" "Ljava/lang/String;" .null := D_1 (Or.inr (hw _ (List.mem_of_getElem? (i := 23) rfl))) (ty := (.object "java/lang/String")) (by decide)
  have f_9 : Fld Z h_1 r "com/example/prudent_spot/prudentspot/replay/Outcome" "servers" "J" (.long (0 : Int64)) := D_1 (Or.inr (hw _ (List.mem_of_getElem? (i := 25) rfl))) (ty := .long) (by decide)
  have f_10 : Fld Z h_1 r "com/example/prudent_spot/prudentspot/replay/Outcome" "cost" "D" (.double (0 : UInt64)) := D_1 (Or.inr (hw _ (List.mem_of_getElem? (i := 27) rfl))) (ty := .double) (by decide)
  have f_11 : Fld Z h_1 r "com/example/prudent_spot/prudentspot/replay/Outcome" "onDemandCost" "D" (.double (0 : UInt64)) := D_1 (Or.inr (hw _ (List.mem_of_getElem? (i := 29) rfl))) (ty := .double) (by decide)
  have f_12 : Fld Z h_1 r "com/example/prudent_spot/prudentspot/replay/Outcome" "revocations" "J" (.long (0 : Int64)) := D_1 (Or.inr (hw _ (List.mem_of_getElem? (i := 31) rfl))) (ty := .long) (by decide)
  have f_13 : Fld Z h_1 r "com/example/prudent_spot/prudentspot/replay/Outcome" "serverHoursLost" "D" (.double (0 : UInt64)) := D_1 (Or.inr (hw _ (List.mem_of_getElem? (i := 33) rfl))) (ty := .double) (by decide)
  have f_14 : Fld Z h_1 r "com/example/prudent_spot/prudentspot/replay/Outcome" "largestLossShare" "D" (.double (0 : UInt64)) := D_1 (Or.inr (hw _ (List.mem_of_getElem? (i := 35) rfl))) (ty := .double) (by decide)
  have pre_15 : Rch p.tables e below (s₁.setTop (entryFrame m #[(.long ct), (.long dt)] 4)) (T_1.setTop (mkF m 4 #[.val (.long ct), .second, .val (.long dt), .second] [(.ref r), (.ref r)])) := fun tgt ktg => pre_1 tgt (by
    show Steps p.tables e below (T_1.setTop (mkF m 3 #[.val (.long ct), .second, .val (.long dt), .second] [(.ref r)])) _
    refine XS.dup X_1.here hx rfl (hb hby d1_3) rfl rfl ?_
    exact ktg)
  obtain ⟨x, T_16, h_16, k1__16, X_16, e_16, E_16, hS_16, hk_16, hZ, hown, hC_16, -, st_16⟩ := ldcOH X_1 hx hZ hown (hw _ (List.mem_of_getElem? (i := 8) rfl)) wS e_1 hS0 hk_3 hEL C_3.1 (g := (mkF m 4 #[.val (.long ct), .second, .val (.long dt), .second] [(.ref r), (.ref r)])) rfl (hb hby d1_4) (n := 4) (by decide) (by decide) (by decide) (by decide)
  have pre_16 : Rch p.tables e below (s₁.setTop (entryFrame m #[(.long ct), (.long dt)] 4)) (T_16.setTop (mkF m 6 #[.val (.long ct), .second, .val (.long dt), .second] [(.ref x), (.ref r), (.ref r)])) := fun tgt ktg => pre_15 tgt (st_16 tgt ktg)
  have C_17 : CHr Z consts_1 s.vm h0 T_16.vm h_16 := C_3.trans hC_16
  have f_18 : Safe Z consts_1 T_16.vm h_16 r := CHr.safe hC_16 f_7.lt f_4
  have f_19 : Exa Z h_16 r "com/example/prudent_spot/prudentspot/replay/Outcome" := f_7.ext E_16
  have f_20 : Fld Z h_16 r "com/example/prudent_spot/prudentspot/replay/Outcome" "name" "Ljava/lang/String;" .null := f_8.ext E_16
  have f_21 : Fld Z h_16 r "com/example/prudent_spot/prudentspot/replay/Outcome" "servers" "J" (.long (0 : Int64)) := f_9.ext E_16
  have f_22 : Fld Z h_16 r "com/example/prudent_spot/prudentspot/replay/Outcome" "cost" "D" (.double (0 : UInt64)) := f_10.ext E_16
  have f_23 : Fld Z h_16 r "com/example/prudent_spot/prudentspot/replay/Outcome" "onDemandCost" "D" (.double (0 : UInt64)) := f_11.ext E_16
  have f_24 : Fld Z h_16 r "com/example/prudent_spot/prudentspot/replay/Outcome" "revocations" "J" (.long (0 : Int64)) := f_12.ext E_16
  have f_25 : Fld Z h_16 r "com/example/prudent_spot/prudentspot/replay/Outcome" "serverHoursLost" "D" (.double (0 : UInt64)) := f_13.ext E_16
  have f_26 : Fld Z h_16 r "com/example/prudent_spot/prudentspot/replay/Outcome" "largestLossShare" "D" (.double (0 : UInt64)) := f_14.ext E_16
  have z_27 : n0 ≤ h_16.size := Nat.le_trans z_5 E_16.1
  have K_28 : Keep h0 h_16 [] := K_6.ext E_16
  have pre_29 : Rch p.tables e below (s₁.setTop (entryFrame m #[(.long ct), (.long dt)] 4)) (T_16.setTop (mkF m 14 #[.val (.long ct), .second, .val (.long dt), .second] [(.double (0 : UInt64)), (.double (0 : UInt64)), (.long (0 : Int64)), (.double (FP.l2d dt)), (.double (FP.l2d ct)), (.long (1 : Int64)), (.ref x), (.ref r), (.ref r)])) := fun tgt ktg => pre_16 tgt (by
    show Steps p.tables e below (T_16.setTop (mkF m 6 #[.val (.long ct), .second, .val (.long dt), .second] [(.ref x), (.ref r), (.ref r)])) _
    refine XT.lconst X_16.here hx rfl (hb hby d1_6) ?_
    show Steps p.tables e below (T_16.setTop (mkF m 7 #[.val (.long ct), .second, .val (.long dt), .second] [(.long (1 : Int64)), (.ref x), (.ref r), (.ref r)])) _
    refine XT.lloadN X_16.here hx rfl (hb hby d1_7) rfl ?_
    show Steps p.tables e below (T_16.setTop (mkF m 8 #[.val (.long ct), .second, .val (.long dt), .second] [(.long ct), (.long (1 : Int64)), (.ref x), (.ref r), (.ref r)])) _
    refine XS.l2dS X_16.here hx rfl (hb hby d1_8) rfl rfl ?_
    show Steps p.tables e below (T_16.setTop (mkF m 9 #[.val (.long ct), .second, .val (.long dt), .second] [(.double (FP.l2d ct)), (.long (1 : Int64)), (.ref x), (.ref r), (.ref r)])) _
    refine XT.lloadN X_16.here hx rfl (hb hby d1_9) rfl ?_
    show Steps p.tables e below (T_16.setTop (mkF m 10 #[.val (.long ct), .second, .val (.long dt), .second] [(.long dt), (.double (FP.l2d ct)), (.long (1 : Int64)), (.ref x), (.ref r), (.ref r)])) _
    refine XS.l2dS X_16.here hx rfl (hb hby d1_10) rfl rfl ?_
    show Steps p.tables e below (T_16.setTop (mkF m 11 #[.val (.long ct), .second, .val (.long dt), .second] [(.double (FP.l2d dt)), (.double (FP.l2d ct)), (.long (1 : Int64)), (.ref x), (.ref r), (.ref r)])) _
    refine XT.lconst X_16.here hx rfl (hb hby d1_11) ?_
    show Steps p.tables e below (T_16.setTop (mkF m 12 #[.val (.long ct), .second, .val (.long dt), .second] [(.long (0 : Int64)), (.double (FP.l2d dt)), (.double (FP.l2d ct)), (.long (1 : Int64)), (.ref x), (.ref r), (.ref r)])) _
    refine XS.dconst0 X_16.here hx rfl (hb hby d1_12) (v := (0 : UInt64)) own_dc0 ?_
    show Steps p.tables e below (T_16.setTop (mkF m 13 #[.val (.long ct), .second, .val (.long dt), .second] [(.double (0 : UInt64)), (.long (0 : Int64)), (.double (FP.l2d dt)), (.double (FP.l2d ct)), (.long (1 : Int64)), (.ref x), (.ref r), (.ref r)])) _
    refine XS.dconst0 X_16.here hx rfl (hb hby d1_13) (v := (0 : UInt64)) own_dc0 ?_
    exact ktg)
  obtain ⟨_, _, ⟨T_30, L_30, k_30, n_30⟩, -, X_30, ⟨Lc_30, hQ_30, l_30, y_30, z_30⟩, st_30⟩ := X_16.specialBack hx (y := (⟨"com/example/prudent_spot/prudentspot/replay/Outcome", "<init>", "(Ljava/lang/String;JDDJDD)V"⟩ : MethodName)) rfl hown (mvT hZ (hw _ (List.mem_of_getElem? (i := 16) rfl))) (mvT hZ (hw _ (List.mem_of_getElem? (i := 17) rfl))) (mvT hZ (hw _ (List.mem_of_getElem? (i := 18) rfl))) (by decide) (backOf (W := 1) (rmoi l Z a0 hw [] r x (1 : Int64) (FP.l2d ct) (FP.l2d dt) (0 : Int64) (0 : UInt64) (0 : UInt64) h_16 n0 z_27 f_19 f_20 f_21 f_22 f_23 f_24 f_25 f_26 g_r) hZ (hw _ (List.mem_of_getElem? (i := 18) rfl)) (hw _ (List.mem_of_getElem? (i := 7) rfl)) (by decide) (by decide)) (g := (mkF m 14 #[.val (.long ct), .second, .val (.long dt), .second] [(.double (0 : UInt64)), (.double (0 : UInt64)), (.long (0 : Int64)), (.double (FP.l2d dt)), (.double (FP.l2d ct)), (.long (1 : Int64)), (.ref x), (.ref r), (.ref r)])) rfl (by rw [hml]; rfl) (Steps.refl _) (a := r) (argsL := [(.ref x), (.long (1 : Int64)), (.double (FP.l2d ct)), (.double (FP.l2d dt)), (.long (0 : Int64)), (.double (0 : UInt64)), (.double (0 : UInt64))]) (rest := [(.ref r)]) (lenOf pd_0 rfl) rfl (by show 2 * 0 + _ ≤ _; exact Nat.le_of_eq rfl) (hb hby d1_14) (fun _ _ => ⟨rfl, e_16, (by decide : 3 + 0 ≤ _), (by decide : 15 + 0 ≤ _)⟩)
  dsimp only [Pt.U, Pt.locs, Pt.cells, Pt.slots] at X_30 l_30 y_30 z_30 st_30 hQ_30
  subst l_30 y_30 z_30
  obtain ⟨rfl, Nq_30, Kq_30, b1, b2, b3⟩ := hQ_30
  have N_31 := Fr.app N0 Nq_30
  have pre_30 : Rch p.tables e below (s₁.setTop (entryFrame m #[(.long ct), (.long dt)] 4)) (T_30.setTop (mkF m 17 #[.val (.long ct), .second, .val (.long dt), .second] [(.ref r)])) := fun tgt ktg => pre_29 tgt (st_30.trans ktg)
  have C_32 : CHr Z consts_1 s.vm h0 T_16.vm T_30.heap := C_17.trans (CHr.keep Kq_30 (sfS f_18 sf0) C_17.1)
  have hk_32 := Nat.le_trans hk_16 Kq_30.1
  have f_33 : Safe Z consts_1 T_16.vm T_30.heap r := Safe.keep Kq_30 (sfS f_18 sf0) C_17.1 f_18
  have f_34 : Exa Z T_30.heap r "com/example/prudent_spot/prudentspot/replay/Outcome" := f_19.keep Kq_30
  have z_35 : n0 ≤ T_30.heap.size := Nat.le_trans z_27 Kq_30.1
  have K_36 : Keep h0 T_30.heap [] := K_28.trans Kq_30 (allS (P := fun x => x ∈ ([] : List Addr) ∨ h0.size ≤ x) (Or.inr sz_r) (all0 (P := fun x => x ∈ ([] : List Addr) ∨ h0.size ≤ x)))
  obtain ⟨cq_37, kq_37, q_37a, q_37b, q_37c⟩ := isOf hZ rfl b1
  obtain ⟨_, _, ⟨T_37, L_37, k_37, n_37⟩, -, X_37, ⟨Lc_37, hQ_37, l_37, y_37, z_37⟩, st_37⟩ := X_30.virtualBack hx (y := (⟨"com/example/prudent_spot/prudentspot/replay/Outcome", "saving", "()D"⟩ : MethodName)) (z := (⟨"com/example/prudent_spot/prudentspot/replay/Outcome", "saving", "()D"⟩ : MethodName)) hown (mvT hZ (hw _ (List.mem_of_getElem? (i := 36) rfl))) (mvT hZ (hw _ (List.mem_of_getElem? (i := 37) rfl))) (notFace_of_selects (args := #[]) (mvT hZ (hw _ (List.mem_of_getElem? (i := 39) rfl)))) (mvT hZ (hw _ (List.mem_of_getElem? (i := 39) rfl))) (mvT hZ (hw _ (List.mem_of_getElem? (i := 38) rfl))) (by decide) (backOf (W := 0) (rmsa l Z a0 hw [] r (FP.l2d ct) (FP.l2d dt) T_30.heap n0 z_35 b2 b3 (own_nn (own_divfin hd.1)) (own_nn (own_savfin hd.1))) hZ (hw _ (List.mem_of_getElem? (i := 40) rfl)) (hw _ (List.mem_of_getElem? (i := 7) rfl)) (by decide) (by decide)) q_37a q_37c (g := (mkF m 17 #[.val (.long ct), .second, .val (.long dt), .second] [(.ref r)])) rfl (by rw [hml]; rfl) (Steps.refl _) (argsL := []) (rest := []) (lenOf pd_1 rfl) rfl (by show 2 * 0 + _ ≤ _; exact Nat.le_of_eq rfl) (hb hby d1_17) (fun _ _ => ⟨rfl, rfl, (by decide : 3 + 0 ≤ _), (by decide : 15 + 0 ≤ _)⟩)
  dsimp only [Pt.U, Pt.locs, Pt.cells, Pt.slots] at X_37 l_37 y_37 z_37 st_37 hQ_37
  subst l_37 y_37 z_37
  obtain ⟨rfl, Nq_37, eh_37⟩ := hQ_37
  have N_38 := Fr.app N_31 Nq_37
  have pre_37 : Rch p.tables e below (s₁.setTop (entryFrame m #[(.long ct), (.long dt)] 4)) (T_37.setTop (mkF m 20 #[.val (.long ct), .second, .val (.long dt), .second] [(.double (FP.dsub (4607182418800017408 : UInt64) (FP.ddiv (FP.l2d ct) (FP.l2d dt))))])) := fun tgt ktg => pre_30 tgt (st_37.trans ktg)
  obtain ⟨fs, hr, hrun, hended, hW⟩ := X_37.leaveW hS_16 (by rw [eh_37]; exact hk_32) (v := some (.double (FP.dsub (4607182418800017408 : UInt64) (FP.ddiv (FP.l2d ct) (FP.l2d dt))))) (fun h => by rw [Bd.returns] at h; cases h)
  refine ⟨_, _, pre_37 _ ?_, hrun, hended, _, _, rfl, ?_, ?_, hW.1, hW.2.1, hW.2.2.1, hW.2.2.2.mono (by decide) (by decide)⟩
  · show Steps p.tables e below (T_37.setTop (mkF m 20 #[.val (.long ct), .second, .val (.long dt), .second] [(.double (FP.dsub (4607182418800017408 : UInt64) (FP.ddiv (FP.l2d ct) (FP.l2d dt))))])) _
    jvm_step X_37.here [X_37.here.top, hx, (hb hby d1_20), X_37.method', Bd.returns, narrow]
    first | (intro acts; rw [hr _ acts rfl rfl rfl]) | rw [hr _ _ rfl rfl rfl] | (refine ⟨meth, X_37.method', ⟨_, Bd.returns, rfl⟩, fun acts => ?_⟩; rw [hr _ acts rfl rfl rfl]) | (refine ⟨meth, X_37.method', _, Bd.returns, fun acts => ?_⟩; rw [hr _ acts rfl rfl rfl]) | (refine ⟨_, X_37.here.method, meth, X_37.method', Bd.returns, fun acts => ?_⟩; rw [hr _ acts rfl rfl rfl])
    exact Steps.refl _
  · show Qs Z ct dt h0 n0 _ T_37.heap _
    rw [eh_37]
    exact ⟨rfl, N_38, K_36⟩
  · show CHr Z consts_1 s.vm s.heap T_37.vm T_37.heap
    rw [hh, eh_37]
    exact C_32.trans (CHv.at X_37 hZ hEL C_32.1)
theorem pd_2 : parseMethodDescriptor "(JJ)D" = some ⟨[.long, .long], some .double⟩ := by decide +kernel
theorem ef_0 (m : MethodId) (x0 : Int32) (x1 : Int32) (x2 : Int32) (x3 : Int32) (x4 : Int32) : entryFrame m #[(.int x0), (.int x1), (.int x2), (.int x3), (.int x4)] maxLocals = mkF m 0 #[.val (.int x0), .val (.int x1), .val (.int x2), .val (.int x3), .val (.int x4), .unset, .unset, .unset, .unset, .unset, .unset, .unset, .unset, .unset, .unset, .unset, .unset, .unset, .unset, .unset, .unset] [] := by first | (simp [entryFrame, mkF, argsToLocals, Value.category, maxLocals]; done) | rfl
def Q0 (Z : State) (p0 : Int32) (p1 : Int32) (p2 : Int32) (p3 : Int32) (p4 : Int32) (h0 : Heap) (n0 : Nat) (v : Option Value) (h : Heap) (L : List Loc) : Prop := v = some (.int 1) ∧ Fr n0 L
set_option maxRecDepth 65536 in
set_option maxHeartbeats 40000000 in
theorem rm0 (l : Launch) (Z : State) (a0 : Array Value) (hw : ∀ d ∈ tables_1, d.before a0 Z = true) (ws : List Jvm.Cond) (p0 : Int32) (p1 : Int32) (p2 : Int32) (p3 : Int32) (p4 : Int32) (h0 : Heap) (n0 : Nat) (Z0 : n0 ≤ h0.size)  :
    MetFree l x (head1 (Jvm.Cond.code x code maxLocals ret :: ws) room_1) (fun aA U => aA = #[(.int p0), (.int p1), (.int p2), (.int p3), (.int p4)] ∧ Z.Warmed39 U.vm ∧ U.heap = h0 ∧ CHv Z consts_1 U.vm h0) (fun _ _ _ _ _ => True) (fun _ U oO U' => ∃ vV LL, oO = .returned vV ∧ Q0 Z p0 p1 p2 p3 p4 h0 n0 vV U'.heap LL ∧ CHr Z consts_1 U.vm U.heap U'.vm U'.heap ∧ ReturnedEndW U oO U' LL room_1.cells room_1.slots) := by
  refine MetFree.of_bodySF (plainFor_of_name pn_1) hisR ?_
  intro p e s m args below meth c s₁ Bd hml0 hP hK
  obtain ⟨rfl, hZ, hh, hC⟩ := hP
  have hx := Bd.exec
  have hby := Bd.bytes
  have hml : c.maxLocals = 21 := hml0
  have hown : s.vm.findClass "com/example/prudent_spot/prudentspot/replay/OutcomeSavingPinLaw" = some m.cls := findClass_of_methodNamed Bd.named
  have hnm := (name_of_methodNamed Bd.named Bd.method).1
  have X0 : Stand p l e room_1 (s.setVm s.vm) m #[(.int p0), (.int p1), (.int p2), (.int p3), (.int p4)] below meth c s₁ [] 0 0 := Stand.of_body Bd
  have e0 : s₁.heap = h0 := by rw [← hh, Bd.state]; rfl
  have N0 := Fr.nil n0
  have K0 : Keep h0 h0 [] := Keep.refl _ _
  have hS0 : s.Since s.vm 0 := (State.WarmedH.refl s).since _
  have hk0 : 0 ≤ h0.size := Nat.zero_le _
  have C0 : CHr Z consts_1 s.vm h0 s.vm h0 := CHr.refl hC
  have hEL := own_EW hw
  have wS := own_wS hw
  have pre0 : Rch p.tables e below (s₁.setTop (entryFrame m #[(.int p0), (.int p1), (.int p2), (.int p3), (.int p4)] maxLocals)) (s₁.setTop (mkF m 0 #[.val (.int p0), .val (.int p1), .val (.int p2), .val (.int p3), .val (.int p4), .unset, .unset, .unset, .unset, .unset, .unset, .unset, .unset, .unset, .unset, .unset, .unset, .unset, .unset, .unset, .unset] [])) := fun tgt ktg => castTop (ef_0 m p0 p1 p2 p3 p4) ktg
  have pre_1 : Rch p.tables e below (s₁.setTop (entryFrame m #[(.int p0), (.int p1), (.int p2), (.int p3), (.int p4)] maxLocals)) (s₁.setTop (mkF m 7 #[.val (.int p0), .val (.int p1), .val (.int p2), .val (.int p3), .val (.int p4), .unset, .unset, .unset, .unset, .unset, .unset, .unset, .unset, .unset, .unset, .unset, .unset, .unset, .unset, .unset, .unset] [(.long (((p2 &&& (65535 : Int32)).toInt64) + (1 : Int64)))])) := fun tgt ktg => pre0 tgt (by
    show Steps p.tables e below (s₁.setTop (mkF m 0 #[.val (.int p0), .val (.int p1), .val (.int p2), .val (.int p3), .val (.int p4), .unset, .unset, .unset, .unset, .unset, .unset, .unset, .unset, .unset, .unset, .unset, .unset, .unset, .unset, .unset, .unset] [])) _
    refine XS.iloadN X0.here hx rfl (hb hby at_0) rfl ?_
    show Steps p.tables e below (s₁.setTop (mkF m 1 #[.val (.int p0), .val (.int p1), .val (.int p2), .val (.int p3), .val (.int p4), .unset, .unset, .unset, .unset, .unset, .unset, .unset, .unset, .unset, .unset, .unset, .unset, .unset, .unset, .unset, .unset] [(.int p2)])) _
    refine X0.ldcInt hx hown (mvT hZ (hw _ (List.mem_of_getElem? (i := 0) rfl))) (g := (mkF m 1 #[.val (.int p0), .val (.int p1), .val (.int p2), .val (.int p3), .val (.int p4), .unset, .unset, .unset, .unset, .unset, .unset, .unset, .unset, .unset, .unset, .unset, .unset, .unset, .unset, .unset, .unset] [(.int p2)])) rfl (hb hby at_1) _ ?_
    show Steps p.tables e below (s₁.setTop (mkF m 3 #[.val (.int p0), .val (.int p1), .val (.int p2), .val (.int p3), .val (.int p4), .unset, .unset, .unset, .unset, .unset, .unset, .unset, .unset, .unset, .unset, .unset, .unset, .unset, .unset, .unset, .unset] [(.int (65535 : Int32)), (.int p2)])) _
    refine XS.iand X0.here hx rfl (hb hby at_3) rfl ?_
    show Steps p.tables e below (s₁.setTop (mkF m 4 #[.val (.int p0), .val (.int p1), .val (.int p2), .val (.int p3), .val (.int p4), .unset, .unset, .unset, .unset, .unset, .unset, .unset, .unset, .unset, .unset, .unset, .unset, .unset, .unset, .unset, .unset] [(.int (p2 &&& (65535 : Int32)))])) _
    refine XT.i2l X0.here hx rfl (hb hby at_4) rfl ?_
    show Steps p.tables e below (s₁.setTop (mkF m 5 #[.val (.int p0), .val (.int p1), .val (.int p2), .val (.int p3), .val (.int p4), .unset, .unset, .unset, .unset, .unset, .unset, .unset, .unset, .unset, .unset, .unset, .unset, .unset, .unset, .unset, .unset] [(.long ((p2 &&& (65535 : Int32)).toInt64))])) _
    refine XT.lconst X0.here hx rfl (hb hby at_5) ?_
    show Steps p.tables e below (s₁.setTop (mkF m 6 #[.val (.int p0), .val (.int p1), .val (.int p2), .val (.int p3), .val (.int p4), .unset, .unset, .unset, .unset, .unset, .unset, .unset, .unset, .unset, .unset, .unset, .unset, .unset, .unset, .unset, .unset] [(.long (1 : Int64)), (.long ((p2 &&& (65535 : Int32)).toInt64))])) _
    refine XT.ladd X0.here hx rfl (hb hby at_6) rfl ?_
    exact ktg)
  obtain ⟨d, hv_d⟩ : ∃ nm_ : Int64, nm_ = (((p2 &&& (65535 : Int32)).toInt64) + (1 : Int64)) := ⟨_, rfl⟩
  have pre_2 : Rch p.tables e below (s₁.setTop (entryFrame m #[(.int p0), (.int p1), (.int p2), (.int p3), (.int p4)] maxLocals)) (s₁.setTop (mkF m 7 #[.val (.int p0), .val (.int p1), .val (.int p2), .val (.int p3), .val (.int p4), .unset, .unset, .unset, .unset, .unset, .unset, .unset, .unset, .unset, .unset, .unset, .unset, .unset, .unset, .unset, .unset] [(.long d)])) := fun tgt ktg => pre_1 tgt (by rw [hv_d] at ktg; exact ktg)
  have hd := own_d hv_d
  have Hd : Dn d := ⟨by omega, by omega⟩
  have pre_3 : Rch p.tables e below (s₁.setTop (entryFrame m #[(.int p0), (.int p1), (.int p2), (.int p3), (.int p4)] maxLocals)) (s₁.setTop (mkF m 17 #[.val (.int p0), .val (.int p1), .val (.int p2), .val (.int p3), .val (.int p4), .val (.long d), .second, .unset, .unset, .unset, .unset, .unset, .unset, .unset, .unset, .unset, .unset, .unset, .unset, .unset, .unset] [(.long (((p3 &&& (255 : Int32)).toInt64) + (1 : Int64)))])) := fun tgt ktg => pre_2 tgt (by
    show Steps p.tables e below (s₁.setTop (mkF m 7 #[.val (.int p0), .val (.int p1), .val (.int p2), .val (.int p3), .val (.int p4), .unset, .unset, .unset, .unset, .unset, .unset, .unset, .unset, .unset, .unset, .unset, .unset, .unset, .unset, .unset, .unset] [(.long d)])) _
    refine XT.lstore X0.here hx rfl (hb hby at_7) rfl (l' := #[.val (.int p0), .val (.int p1), .val (.int p2), .val (.int p3), .val (.int p4), .val (.long d), .second, .unset, .unset, .unset, .unset, .unset, .unset, .unset, .unset, .unset, .unset, .unset, .unset, .unset, .unset]) rfl ?_
    show Steps p.tables e below (s₁.setTop (mkF m 9 #[.val (.int p0), .val (.int p1), .val (.int p2), .val (.int p3), .val (.int p4), .val (.long d), .second, .unset, .unset, .unset, .unset, .unset, .unset, .unset, .unset, .unset, .unset, .unset, .unset, .unset, .unset] [])) _
    refine XS.iloadN X0.here hx rfl (hb hby at_9) rfl ?_
    show Steps p.tables e below (s₁.setTop (mkF m 10 #[.val (.int p0), .val (.int p1), .val (.int p2), .val (.int p3), .val (.int p4), .val (.long d), .second, .unset, .unset, .unset, .unset, .unset, .unset, .unset, .unset, .unset, .unset, .unset, .unset, .unset, .unset] [(.int p3)])) _
    refine XS.sipush X0.here hx rfl (hb hby at_10) ?_
    show Steps p.tables e below (s₁.setTop (mkF m 13 #[.val (.int p0), .val (.int p1), .val (.int p2), .val (.int p3), .val (.int p4), .val (.long d), .second, .unset, .unset, .unset, .unset, .unset, .unset, .unset, .unset, .unset, .unset, .unset, .unset, .unset, .unset] [(.int (255 : Int32)), (.int p3)])) _
    refine XS.iand X0.here hx rfl (hb hby at_13) rfl ?_
    show Steps p.tables e below (s₁.setTop (mkF m 14 #[.val (.int p0), .val (.int p1), .val (.int p2), .val (.int p3), .val (.int p4), .val (.long d), .second, .unset, .unset, .unset, .unset, .unset, .unset, .unset, .unset, .unset, .unset, .unset, .unset, .unset, .unset] [(.int (p3 &&& (255 : Int32)))])) _
    refine XT.i2l X0.here hx rfl (hb hby at_14) rfl ?_
    show Steps p.tables e below (s₁.setTop (mkF m 15 #[.val (.int p0), .val (.int p1), .val (.int p2), .val (.int p3), .val (.int p4), .val (.long d), .second, .unset, .unset, .unset, .unset, .unset, .unset, .unset, .unset, .unset, .unset, .unset, .unset, .unset, .unset] [(.long ((p3 &&& (255 : Int32)).toInt64))])) _
    refine XT.lconst X0.here hx rfl (hb hby at_15) ?_
    show Steps p.tables e below (s₁.setTop (mkF m 16 #[.val (.int p0), .val (.int p1), .val (.int p2), .val (.int p3), .val (.int p4), .val (.long d), .second, .unset, .unset, .unset, .unset, .unset, .unset, .unset, .unset, .unset, .unset, .unset, .unset, .unset, .unset] [(.long (1 : Int64)), (.long ((p3 &&& (255 : Int32)).toInt64))])) _
    refine XT.ladd X0.here hx rfl (hb hby at_16) rfl ?_
    exact ktg)
  obtain ⟨k, hv_k⟩ : ∃ nm_ : Int64, nm_ = (((p3 &&& (255 : Int32)).toInt64) + (1 : Int64)) := ⟨_, rfl⟩
  have pre_4 : Rch p.tables e below (s₁.setTop (entryFrame m #[(.int p0), (.int p1), (.int p2), (.int p3), (.int p4)] maxLocals)) (s₁.setTop (mkF m 17 #[.val (.int p0), .val (.int p1), .val (.int p2), .val (.int p3), .val (.int p4), .val (.long d), .second, .unset, .unset, .unset, .unset, .unset, .unset, .unset, .unset, .unset, .unset, .unset, .unset, .unset, .unset] [(.long k)])) := fun tgt ktg => pre_3 tgt (by rw [hv_k] at ktg; exact ktg)
  have hk := own_k hv_k
  have Hdk : Dn (d * k) := by obtain ⟨b1, b2, b3⟩ := own_dk hd hk; exact ⟨by omega, by omega⟩
  have Hdd : Dn ((2 : Int64) * d) := by have q := own_dd hd; exact ⟨by omega, by omega⟩
  have pre_5 : Rch p.tables e below (s₁.setTop (entryFrame m #[(.int p0), (.int p1), (.int p2), (.int p3), (.int p4)] maxLocals)) (s₁.setTop (mkF m 23 #[.val (.int p0), .val (.int p1), .val (.int p2), .val (.int p3), .val (.int p4), .val (.long d), .second, .val (.long k), .second, .unset, .unset, .unset, .unset, .unset, .unset, .unset, .unset, .unset, .unset, .unset, .unset] [(.long d), (.long (p0.toInt64))])) := fun tgt ktg => pre_4 tgt (by
    show Steps p.tables e below (s₁.setTop (mkF m 17 #[.val (.int p0), .val (.int p1), .val (.int p2), .val (.int p3), .val (.int p4), .val (.long d), .second, .unset, .unset, .unset, .unset, .unset, .unset, .unset, .unset, .unset, .unset, .unset, .unset, .unset, .unset] [(.long k)])) _
    refine XT.lstore X0.here hx rfl (hb hby at_17) rfl (l' := #[.val (.int p0), .val (.int p1), .val (.int p2), .val (.int p3), .val (.int p4), .val (.long d), .second, .val (.long k), .second, .unset, .unset, .unset, .unset, .unset, .unset, .unset, .unset, .unset, .unset, .unset, .unset]) rfl ?_
    show Steps p.tables e below (s₁.setTop (mkF m 19 #[.val (.int p0), .val (.int p1), .val (.int p2), .val (.int p3), .val (.int p4), .val (.long d), .second, .val (.long k), .second, .unset, .unset, .unset, .unset, .unset, .unset, .unset, .unset, .unset, .unset, .unset, .unset] [])) _
    refine XS.iloadN X0.here hx rfl (hb hby at_19) rfl ?_
    show Steps p.tables e below (s₁.setTop (mkF m 20 #[.val (.int p0), .val (.int p1), .val (.int p2), .val (.int p3), .val (.int p4), .val (.long d), .second, .val (.long k), .second, .unset, .unset, .unset, .unset, .unset, .unset, .unset, .unset, .unset, .unset, .unset, .unset] [(.int p0)])) _
    refine XT.i2l X0.here hx rfl (hb hby at_20) rfl ?_
    show Steps p.tables e below (s₁.setTop (mkF m 21 #[.val (.int p0), .val (.int p1), .val (.int p2), .val (.int p3), .val (.int p4), .val (.long d), .second, .val (.long k), .second, .unset, .unset, .unset, .unset, .unset, .unset, .unset, .unset, .unset, .unset, .unset, .unset] [(.long (p0.toInt64))])) _
    refine XT.lload X0.here hx rfl (hb hby at_21) rfl ?_
    exact ktg)
  obtain ⟨_, _, ⟨T_6, L_6, k_6, n_6⟩, -, X_6, hSn_6, hgr_6, ⟨Lc_6, hQ_6, l_6, y_6, z_6, hCn_6⟩, st_6⟩ := callSS X0 hx (y := (⟨"com/example/prudent_spot/prudentspot/replay/OutcomeSavingPinLaw", "s", "(JJ)D"⟩ : MethodName)) hown (mvT hZ (hw _ (List.mem_of_getElem? (i := 1) rfl))) (mvT hZ (hw _ (List.mem_of_getElem? (i := 2) rfl))) (mvT hZ (hw _ (List.mem_of_getElem? (i := 3) rfl))) (mvT hZ (hw _ (List.mem_of_getElem? (i := 4) rfl))) (by decide) (backOfSH (W := 0) (rms l Z a0 hw [] (p0.toInt64) d h0 n0 Z0 Hd) hZ (hw _ (List.mem_of_getElem? (i := 4) rfl)) (hw _ (List.mem_of_getElem? (i := 3) rfl)) (by decide) (by decide) hEL C0.1) (g := (mkF m 23 #[.val (.int p0), .val (.int p1), .val (.int p2), .val (.int p3), .val (.int p4), .val (.long d), .second, .val (.long k), .second, .unset, .unset, .unset, .unset, .unset, .unset, .unset, .unset, .unset, .unset, .unset, .unset] [(.long d), (.long (p0.toInt64))])) rfl (by rw [hml]; rfl) (argsL := [(.long (p0.toInt64)), (.long d)]) (rest := []) (lenOf pd_2 rfl) rfl (by show 2 * 0 + _ ≤ _; exact Nat.le_of_eq rfl) (hb hby at_23) (fun _ _ => ⟨rfl, e0, (by decide : 0 + 3 ≤ _), (by decide : 0 + 15 ≤ _)⟩)
  dsimp only [Pt.U, Pt.locs, Pt.cells, Pt.slots] at X_6 l_6 y_6 z_6 st_6 hQ_6 hSn_6 hgr_6 hCn_6
  subst l_6 y_6 z_6
  obtain ⟨rfl, Nq_6, Kq_6⟩ := hQ_6
  have N_7 := Fr.app N0 Nq_6
  have pre_6 : Rch p.tables e below (s₁.setTop (entryFrame m #[(.int p0), (.int p1), (.int p2), (.int p3), (.int p4)] maxLocals)) (T_6.setTop (mkF m 26 #[.val (.int p0), .val (.int p1), .val (.int p2), .val (.int p3), .val (.int p4), .val (.long d), .second, .val (.long k), .second, .unset, .unset, .unset, .unset, .unset, .unset, .unset, .unset, .unset, .unset, .unset, .unset] [(.double (sav (p0.toInt64) d))])) := fun tgt ktg => pre_5 tgt (st_6.trans ktg)
  have hS_6 : s.Since T_6.vm T_6.heap.size := hS0.trans hSn_6 (Nat.le_trans hk0 (by rw [← e0]; exact hgr_6))
  have hk_6 := Nat.le_refl T_6.heap.size
  have hZn_6 : Z.Warmed39 T_6.vm := State.Warmed39.trans (t := s.setVm s.vm) hZ hSn_6.1
  have hownn_6 : T_6.vm.findClass "com/example/prudent_spot/prudentspot/replay/OutcomeSavingPinLaw" = some m.cls := by rw [hSn_6.1.alike.findClass]; exact hown
  have hZ := hZn_6
  have hown := hownn_6
  have Xw_6 : Stand p l e room_1 (s.setVm T_6.vm) m #[(.int p0), (.int p1), (.int p2), (.int p3), (.int p4)] below meth c T_6 _ _ _ := X_6
  have C_8 : CHr Z consts_1 s.vm h0 T_6.vm T_6.heap := C0.trans hCn_6
  have z_9 : n0 ≤ T_6.heap.size := Nat.le_trans Z0 Kq_6.1
  have pre_10 : Rch p.tables e below (s₁.setTop (entryFrame m #[(.int p0), (.int p1), (.int p2), (.int p3), (.int p4)] maxLocals)) (T_6.setTop (mkF m 32 #[.val (.int p0), .val (.int p1), .val (.int p2), .val (.int p3), .val (.int p4), .val (.long d), .second, .val (.long k), .second, .val (.double (sav (p0.toInt64) d)), .second, .unset, .unset, .unset, .unset, .unset, .unset, .unset, .unset, .unset, .unset] [(.long d), (.long (p1.toInt64))])) := fun tgt ktg => pre_6 tgt (by
    show Steps p.tables e below (T_6.setTop (mkF m 26 #[.val (.int p0), .val (.int p1), .val (.int p2), .val (.int p3), .val (.int p4), .val (.long d), .second, .val (.long k), .second, .unset, .unset, .unset, .unset, .unset, .unset, .unset, .unset, .unset, .unset, .unset, .unset] [(.double (sav (p0.toInt64) d))])) _
    refine XS.dstore Xw_6.here hx rfl (hb hby at_26) rfl (l' := #[.val (.int p0), .val (.int p1), .val (.int p2), .val (.int p3), .val (.int p4), .val (.long d), .second, .val (.long k), .second, .val (.double (sav (p0.toInt64) d)), .second, .unset, .unset, .unset, .unset, .unset, .unset, .unset, .unset, .unset, .unset]) rfl ?_
    show Steps p.tables e below (T_6.setTop (mkF m 28 #[.val (.int p0), .val (.int p1), .val (.int p2), .val (.int p3), .val (.int p4), .val (.long d), .second, .val (.long k), .second, .val (.double (sav (p0.toInt64) d)), .second, .unset, .unset, .unset, .unset, .unset, .unset, .unset, .unset, .unset, .unset] [])) _
    refine XS.iloadN Xw_6.here hx rfl (hb hby at_28) rfl ?_
    show Steps p.tables e below (T_6.setTop (mkF m 29 #[.val (.int p0), .val (.int p1), .val (.int p2), .val (.int p3), .val (.int p4), .val (.long d), .second, .val (.long k), .second, .val (.double (sav (p0.toInt64) d)), .second, .unset, .unset, .unset, .unset, .unset, .unset, .unset, .unset, .unset, .unset] [(.int p1)])) _
    refine XT.i2l Xw_6.here hx rfl (hb hby at_29) rfl ?_
    show Steps p.tables e below (T_6.setTop (mkF m 30 #[.val (.int p0), .val (.int p1), .val (.int p2), .val (.int p3), .val (.int p4), .val (.long d), .second, .val (.long k), .second, .val (.double (sav (p0.toInt64) d)), .second, .unset, .unset, .unset, .unset, .unset, .unset, .unset, .unset, .unset, .unset] [(.long (p1.toInt64))])) _
    refine XT.lload Xw_6.here hx rfl (hb hby at_30) rfl ?_
    exact ktg)
  obtain ⟨_, _, ⟨T_11, L_11, k_11, n_11⟩, -, X_11, hSn_11, hgr_11, ⟨Lc_11, hQ_11, l_11, y_11, z_11, hCn_11⟩, st_11⟩ := callSS Xw_6 hx (y := (⟨"com/example/prudent_spot/prudentspot/replay/OutcomeSavingPinLaw", "s", "(JJ)D"⟩ : MethodName)) hown (mvT hZ (hw _ (List.mem_of_getElem? (i := 1) rfl))) (mvT hZ (hw _ (List.mem_of_getElem? (i := 2) rfl))) (mvT hZ (hw _ (List.mem_of_getElem? (i := 3) rfl))) (mvT hZ (hw _ (List.mem_of_getElem? (i := 4) rfl))) (by decide) (backOfSH (W := 0) (rms l Z a0 hw [] (p1.toInt64) d T_6.heap n0 z_9 Hd) hZ (hw _ (List.mem_of_getElem? (i := 4) rfl)) (hw _ (List.mem_of_getElem? (i := 3) rfl)) (by decide) (by decide) hEL C_8.1) (g := (mkF m 32 #[.val (.int p0), .val (.int p1), .val (.int p2), .val (.int p3), .val (.int p4), .val (.long d), .second, .val (.long k), .second, .val (.double (sav (p0.toInt64) d)), .second, .unset, .unset, .unset, .unset, .unset, .unset, .unset, .unset, .unset, .unset] [(.long d), (.long (p1.toInt64))])) rfl (by rw [hml]; rfl) (argsL := [(.long (p1.toInt64)), (.long d)]) (rest := []) (lenOf pd_2 rfl) rfl (by show 2 * 0 + _ ≤ _; exact Nat.le_of_eq rfl) (hb hby at_32) (fun _ _ => ⟨rfl, rfl, (by decide : 3 + 3 ≤ _), (by decide : 15 + 15 ≤ _)⟩)
  dsimp only [Pt.U, Pt.locs, Pt.cells, Pt.slots] at X_11 l_11 y_11 z_11 st_11 hQ_11 hSn_11 hgr_11 hCn_11
  subst l_11 y_11 z_11
  obtain ⟨rfl, Nq_11, Kq_11⟩ := hQ_11
  have N_12 := Fr.app N_7 Nq_11
  have pre_11 : Rch p.tables e below (s₁.setTop (entryFrame m #[(.int p0), (.int p1), (.int p2), (.int p3), (.int p4)] maxLocals)) (T_11.setTop (mkF m 35 #[.val (.int p0), .val (.int p1), .val (.int p2), .val (.int p3), .val (.int p4), .val (.long d), .second, .val (.long k), .second, .val (.double (sav (p0.toInt64) d)), .second, .unset, .unset, .unset, .unset, .unset, .unset, .unset, .unset, .unset, .unset] [(.double (sav (p1.toInt64) d))])) := fun tgt ktg => pre_10 tgt (st_11.trans ktg)
  have hS_11 : s.Since T_11.vm T_11.heap.size := hS_6.trans hSn_11 (Nat.le_trans hk_6 hgr_11)
  have hk_11 := Nat.le_refl T_11.heap.size
  have hZn_11 : Z.Warmed39 T_11.vm := State.Warmed39.trans (t := s.setVm T_6.vm) hZ hSn_11.1
  have hownn_11 : T_11.vm.findClass "com/example/prudent_spot/prudentspot/replay/OutcomeSavingPinLaw" = some m.cls := by rw [hSn_11.1.alike.findClass]; exact hown
  have hZ := hZn_11
  have hown := hownn_11
  have Xw_11 : Stand p l e room_1 (s.setVm T_11.vm) m #[(.int p0), (.int p1), (.int p2), (.int p3), (.int p4)] below meth c T_11 _ _ _ := X_11
  have C_13 : CHr Z consts_1 s.vm h0 T_11.vm T_11.heap := C_8.trans hCn_11
  have z_14 : n0 ≤ T_11.heap.size := Nat.le_trans z_9 Kq_11.1
  have pre_15 : Rch p.tables e below (s₁.setTop (entryFrame m #[(.int p0), (.int p1), (.int p2), (.int p3), (.int p4)] maxLocals)) (T_11.setTop (mkF m 47 #[.val (.int p0), .val (.int p1), .val (.int p2), .val (.int p3), .val (.int p4), .val (.long d), .second, .val (.long k), .second, .val (.double (sav (p0.toInt64) d)), .second, .val (.double (sav (p1.toInt64) d)), .second, .unset, .unset, .unset, .unset, .unset, .unset, .unset, .unset] [(.long (d * k)), (.long ((p0.toInt64) * k))])) := fun tgt ktg => pre_11 tgt (by
    show Steps p.tables e below (T_11.setTop (mkF m 35 #[.val (.int p0), .val (.int p1), .val (.int p2), .val (.int p3), .val (.int p4), .val (.long d), .second, .val (.long k), .second, .val (.double (sav (p0.toInt64) d)), .second, .unset, .unset, .unset, .unset, .unset, .unset, .unset, .unset, .unset, .unset] [(.double (sav (p1.toInt64) d))])) _
    refine XS.dstore Xw_11.here hx rfl (hb hby at_35) rfl (l' := #[.val (.int p0), .val (.int p1), .val (.int p2), .val (.int p3), .val (.int p4), .val (.long d), .second, .val (.long k), .second, .val (.double (sav (p0.toInt64) d)), .second, .val (.double (sav (p1.toInt64) d)), .second, .unset, .unset, .unset, .unset, .unset, .unset, .unset, .unset]) rfl ?_
    show Steps p.tables e below (T_11.setTop (mkF m 37 #[.val (.int p0), .val (.int p1), .val (.int p2), .val (.int p3), .val (.int p4), .val (.long d), .second, .val (.long k), .second, .val (.double (sav (p0.toInt64) d)), .second, .val (.double (sav (p1.toInt64) d)), .second, .unset, .unset, .unset, .unset, .unset, .unset, .unset, .unset] [])) _
    refine XS.iloadN Xw_11.here hx rfl (hb hby at_37) rfl ?_
    show Steps p.tables e below (T_11.setTop (mkF m 38 #[.val (.int p0), .val (.int p1), .val (.int p2), .val (.int p3), .val (.int p4), .val (.long d), .second, .val (.long k), .second, .val (.double (sav (p0.toInt64) d)), .second, .val (.double (sav (p1.toInt64) d)), .second, .unset, .unset, .unset, .unset, .unset, .unset, .unset, .unset] [(.int p0)])) _
    refine XT.i2l Xw_11.here hx rfl (hb hby at_38) rfl ?_
    show Steps p.tables e below (T_11.setTop (mkF m 39 #[.val (.int p0), .val (.int p1), .val (.int p2), .val (.int p3), .val (.int p4), .val (.long d), .second, .val (.long k), .second, .val (.double (sav (p0.toInt64) d)), .second, .val (.double (sav (p1.toInt64) d)), .second, .unset, .unset, .unset, .unset, .unset, .unset, .unset, .unset] [(.long (p0.toInt64))])) _
    refine XT.lload Xw_11.here hx rfl (hb hby at_39) rfl ?_
    show Steps p.tables e below (T_11.setTop (mkF m 41 #[.val (.int p0), .val (.int p1), .val (.int p2), .val (.int p3), .val (.int p4), .val (.long d), .second, .val (.long k), .second, .val (.double (sav (p0.toInt64) d)), .second, .val (.double (sav (p1.toInt64) d)), .second, .unset, .unset, .unset, .unset, .unset, .unset, .unset, .unset] [(.long k), (.long (p0.toInt64))])) _
    refine XT.lmul Xw_11.here hx rfl (hb hby at_41) rfl ?_
    show Steps p.tables e below (T_11.setTop (mkF m 42 #[.val (.int p0), .val (.int p1), .val (.int p2), .val (.int p3), .val (.int p4), .val (.long d), .second, .val (.long k), .second, .val (.double (sav (p0.toInt64) d)), .second, .val (.double (sav (p1.toInt64) d)), .second, .unset, .unset, .unset, .unset, .unset, .unset, .unset, .unset] [(.long ((p0.toInt64) * k))])) _
    refine XT.lload Xw_11.here hx rfl (hb hby at_42) rfl ?_
    show Steps p.tables e below (T_11.setTop (mkF m 44 #[.val (.int p0), .val (.int p1), .val (.int p2), .val (.int p3), .val (.int p4), .val (.long d), .second, .val (.long k), .second, .val (.double (sav (p0.toInt64) d)), .second, .val (.double (sav (p1.toInt64) d)), .second, .unset, .unset, .unset, .unset, .unset, .unset, .unset, .unset] [(.long d), (.long ((p0.toInt64) * k))])) _
    refine XT.lload Xw_11.here hx rfl (hb hby at_44) rfl ?_
    show Steps p.tables e below (T_11.setTop (mkF m 46 #[.val (.int p0), .val (.int p1), .val (.int p2), .val (.int p3), .val (.int p4), .val (.long d), .second, .val (.long k), .second, .val (.double (sav (p0.toInt64) d)), .second, .val (.double (sav (p1.toInt64) d)), .second, .unset, .unset, .unset, .unset, .unset, .unset, .unset, .unset] [(.long k), (.long d), (.long ((p0.toInt64) * k))])) _
    refine XT.lmul Xw_11.here hx rfl (hb hby at_46) rfl ?_
    exact ktg)
  obtain ⟨_, _, ⟨T_16, L_16, k_16, n_16⟩, -, X_16, hSn_16, hgr_16, ⟨Lc_16, hQ_16, l_16, y_16, z_16, hCn_16⟩, st_16⟩ := callSS Xw_11 hx (y := (⟨"com/example/prudent_spot/prudentspot/replay/OutcomeSavingPinLaw", "s", "(JJ)D"⟩ : MethodName)) hown (mvT hZ (hw _ (List.mem_of_getElem? (i := 1) rfl))) (mvT hZ (hw _ (List.mem_of_getElem? (i := 2) rfl))) (mvT hZ (hw _ (List.mem_of_getElem? (i := 3) rfl))) (mvT hZ (hw _ (List.mem_of_getElem? (i := 4) rfl))) (by decide) (backOfSH (W := 0) (rms l Z a0 hw [] ((p0.toInt64) * k) (d * k) T_11.heap n0 z_14 Hdk) hZ (hw _ (List.mem_of_getElem? (i := 4) rfl)) (hw _ (List.mem_of_getElem? (i := 3) rfl)) (by decide) (by decide) hEL C_13.1) (g := (mkF m 47 #[.val (.int p0), .val (.int p1), .val (.int p2), .val (.int p3), .val (.int p4), .val (.long d), .second, .val (.long k), .second, .val (.double (sav (p0.toInt64) d)), .second, .val (.double (sav (p1.toInt64) d)), .second, .unset, .unset, .unset, .unset, .unset, .unset, .unset, .unset] [(.long (d * k)), (.long ((p0.toInt64) * k))])) rfl (by rw [hml]; rfl) (argsL := [(.long ((p0.toInt64) * k)), (.long (d * k))]) (rest := []) (lenOf pd_2 rfl) rfl (by show 2 * 0 + _ ≤ _; exact Nat.le_of_eq rfl) (hb hby at_47) (fun _ _ => ⟨rfl, rfl, (by decide : 6 + 3 ≤ _), (by decide : 30 + 15 ≤ _)⟩)
  dsimp only [Pt.U, Pt.locs, Pt.cells, Pt.slots] at X_16 l_16 y_16 z_16 st_16 hQ_16 hSn_16 hgr_16 hCn_16
  subst l_16 y_16 z_16
  obtain ⟨rfl, Nq_16, Kq_16⟩ := hQ_16
  have N_17 := Fr.app N_12 Nq_16
  have pre_16 : Rch p.tables e below (s₁.setTop (entryFrame m #[(.int p0), (.int p1), (.int p2), (.int p3), (.int p4)] maxLocals)) (T_16.setTop (mkF m 50 #[.val (.int p0), .val (.int p1), .val (.int p2), .val (.int p3), .val (.int p4), .val (.long d), .second, .val (.long k), .second, .val (.double (sav (p0.toInt64) d)), .second, .val (.double (sav (p1.toInt64) d)), .second, .unset, .unset, .unset, .unset, .unset, .unset, .unset, .unset] [(.double (sav ((p0.toInt64) * k) (d * k)))])) := fun tgt ktg => pre_15 tgt (st_16.trans ktg)
  have hS_16 : s.Since T_16.vm T_16.heap.size := hS_11.trans hSn_16 (Nat.le_trans hk_11 hgr_16)
  have hk_16 := Nat.le_refl T_16.heap.size
  have hZn_16 : Z.Warmed39 T_16.vm := State.Warmed39.trans (t := s.setVm T_11.vm) hZ hSn_16.1
  have hownn_16 : T_16.vm.findClass "com/example/prudent_spot/prudentspot/replay/OutcomeSavingPinLaw" = some m.cls := by rw [hSn_16.1.alike.findClass]; exact hown
  have hZ := hZn_16
  have hown := hownn_16
  have Xw_16 : Stand p l e room_1 (s.setVm T_16.vm) m #[(.int p0), (.int p1), (.int p2), (.int p3), (.int p4)] below meth c T_16 _ _ _ := X_16
  have C_18 : CHr Z consts_1 s.vm h0 T_16.vm T_16.heap := C_13.trans hCn_16
  have z_19 : n0 ≤ T_16.heap.size := Nat.le_trans z_14 Kq_16.1
  have pre_20 : Rch p.tables e below (s₁.setTop (entryFrame m #[(.int p0), (.int p1), (.int p2), (.int p3), (.int p4)] maxLocals)) (T_16.setTop (mkF m 60 #[.val (.int p0), .val (.int p1), .val (.int p2), .val (.int p3), .val (.int p4), .val (.long d), .second, .val (.long k), .second, .val (.double (sav (p0.toInt64) d)), .second, .val (.double (sav (p1.toInt64) d)), .second, .val (.double (sav ((p0.toInt64) * k) (d * k))), .second, .val (.int (p4 &&& (3 : Int32))), .unset, .unset, .unset, .unset, .unset] [(.int (p4 &&& (3 : Int32)))])) := fun tgt ktg => pre_16 tgt (by
    show Steps p.tables e below (T_16.setTop (mkF m 50 #[.val (.int p0), .val (.int p1), .val (.int p2), .val (.int p3), .val (.int p4), .val (.long d), .second, .val (.long k), .second, .val (.double (sav (p0.toInt64) d)), .second, .val (.double (sav (p1.toInt64) d)), .second, .unset, .unset, .unset, .unset, .unset, .unset, .unset, .unset] [(.double (sav ((p0.toInt64) * k) (d * k)))])) _
    refine XS.dstore Xw_16.here hx rfl (hb hby at_50) rfl (l' := #[.val (.int p0), .val (.int p1), .val (.int p2), .val (.int p3), .val (.int p4), .val (.long d), .second, .val (.long k), .second, .val (.double (sav (p0.toInt64) d)), .second, .val (.double (sav (p1.toInt64) d)), .second, .val (.double (sav ((p0.toInt64) * k) (d * k))), .second, .unset, .unset, .unset, .unset, .unset, .unset]) rfl ?_
    show Steps p.tables e below (T_16.setTop (mkF m 52 #[.val (.int p0), .val (.int p1), .val (.int p2), .val (.int p3), .val (.int p4), .val (.long d), .second, .val (.long k), .second, .val (.double (sav (p0.toInt64) d)), .second, .val (.double (sav (p1.toInt64) d)), .second, .val (.double (sav ((p0.toInt64) * k) (d * k))), .second, .unset, .unset, .unset, .unset, .unset, .unset] [])) _
    refine XS.iload Xw_16.here hx rfl (hb hby at_52) rfl ?_
    show Steps p.tables e below (T_16.setTop (mkF m 54 #[.val (.int p0), .val (.int p1), .val (.int p2), .val (.int p3), .val (.int p4), .val (.long d), .second, .val (.long k), .second, .val (.double (sav (p0.toInt64) d)), .second, .val (.double (sav (p1.toInt64) d)), .second, .val (.double (sav ((p0.toInt64) * k) (d * k))), .second, .unset, .unset, .unset, .unset, .unset, .unset] [(.int p4)])) _
    refine XS.iconst Xw_16.here hx rfl (hb hby at_54) ?_
    show Steps p.tables e below (T_16.setTop (mkF m 55 #[.val (.int p0), .val (.int p1), .val (.int p2), .val (.int p3), .val (.int p4), .val (.long d), .second, .val (.long k), .second, .val (.double (sav (p0.toInt64) d)), .second, .val (.double (sav (p1.toInt64) d)), .second, .val (.double (sav ((p0.toInt64) * k) (d * k))), .second, .unset, .unset, .unset, .unset, .unset, .unset] [(.int (3 : Int32)), (.int p4)])) _
    refine XS.iand Xw_16.here hx rfl (hb hby at_55) rfl ?_
    show Steps p.tables e below (T_16.setTop (mkF m 56 #[.val (.int p0), .val (.int p1), .val (.int p2), .val (.int p3), .val (.int p4), .val (.long d), .second, .val (.long k), .second, .val (.double (sav (p0.toInt64) d)), .second, .val (.double (sav (p1.toInt64) d)), .second, .val (.double (sav ((p0.toInt64) * k) (d * k))), .second, .unset, .unset, .unset, .unset, .unset, .unset] [(.int (p4 &&& (3 : Int32)))])) _
    refine XS.istore Xw_16.here hx rfl (hb hby at_56) rfl (l' := #[.val (.int p0), .val (.int p1), .val (.int p2), .val (.int p3), .val (.int p4), .val (.long d), .second, .val (.long k), .second, .val (.double (sav (p0.toInt64) d)), .second, .val (.double (sav (p1.toInt64) d)), .second, .val (.double (sav ((p0.toInt64) * k) (d * k))), .second, .val (.int (p4 &&& (3 : Int32))), .unset, .unset, .unset, .unset, .unset]) rfl ?_
    show Steps p.tables e below (T_16.setTop (mkF m 58 #[.val (.int p0), .val (.int p1), .val (.int p2), .val (.int p3), .val (.int p4), .val (.long d), .second, .val (.long k), .second, .val (.double (sav (p0.toInt64) d)), .second, .val (.double (sav (p1.toInt64) d)), .second, .val (.double (sav ((p0.toInt64) * k) (d * k))), .second, .val (.int (p4 &&& (3 : Int32))), .unset, .unset, .unset, .unset, .unset] [])) _
    refine XS.iload Xw_16.here hx rfl (hb hby at_58) rfl ?_
    exact ktg)
  by_cases c_21 : (p4 &&& (3 : Int32)) = (0 : Int32)
  · skip
    have pre_22 : Rch p.tables e below (s₁.setTop (entryFrame m #[(.int p0), (.int p1), (.int p2), (.int p3), (.int p4)] maxLocals)) (T_16.setTop (mkF m 63 #[.val (.int p0), .val (.int p1), .val (.int p2), .val (.int p3), .val (.int p4), .val (.long d), .second, .val (.long k), .second, .val (.double (sav (p0.toInt64) d)), .second, .val (.double (sav (p1.toInt64) d)), .second, .val (.double (sav ((p0.toInt64) * k) (d * k))), .second, .val (.int (p4 &&& (3 : Int32))), .unset, .unset, .unset, .unset, .unset] [])) := fun tgt ktg => pre_20 tgt (by
      show Steps p.tables e below (T_16.setTop (mkF m 60 #[.val (.int p0), .val (.int p1), .val (.int p2), .val (.int p3), .val (.int p4), .val (.long d), .second, .val (.long k), .second, .val (.double (sav (p0.toInt64) d)), .second, .val (.double (sav (p1.toInt64) d)), .second, .val (.double (sav ((p0.toInt64) * k) (d * k))), .second, .val (.int (p4 &&& (3 : Int32))), .unset, .unset, .unset, .unset, .unset] [(.int (p4 &&& (3 : Int32)))])) _
      refine XS.ifNo Xw_16.here hx rfl (hb hby at_60) rfl ((if0 _ _).trans (teq c_21).2) ?_
      exact ktg)
    have pre_23 : Rch p.tables e below (s₁.setTop (entryFrame m #[(.int p0), (.int p1), (.int p2), (.int p3), (.int p4)] maxLocals)) (T_16.setTop (mkF m 66 #[.val (.int p0), .val (.int p1), .val (.int p2), .val (.int p3), .val (.int p4), .val (.long d), .second, .val (.long k), .second, .val (.double (sav (p0.toInt64) d)), .second, .val (.double (sav (p1.toInt64) d)), .second, .val (.double (sav ((p0.toInt64) * k) (d * k))), .second, .val (.int (p4 &&& (3 : Int32))), .unset, .unset, .unset, .unset, .unset] [(.long d), (.long (0 : Int64))])) := fun tgt ktg => pre_22 tgt (by
      show Steps p.tables e below (T_16.setTop (mkF m 63 #[.val (.int p0), .val (.int p1), .val (.int p2), .val (.int p3), .val (.int p4), .val (.long d), .second, .val (.long k), .second, .val (.double (sav (p0.toInt64) d)), .second, .val (.double (sav (p1.toInt64) d)), .second, .val (.double (sav ((p0.toInt64) * k) (d * k))), .second, .val (.int (p4 &&& (3 : Int32))), .unset, .unset, .unset, .unset, .unset] [])) _
      refine XT.lconst Xw_16.here hx rfl (hb hby at_63) ?_
      show Steps p.tables e below (T_16.setTop (mkF m 64 #[.val (.int p0), .val (.int p1), .val (.int p2), .val (.int p3), .val (.int p4), .val (.long d), .second, .val (.long k), .second, .val (.double (sav (p0.toInt64) d)), .second, .val (.double (sav (p1.toInt64) d)), .second, .val (.double (sav ((p0.toInt64) * k) (d * k))), .second, .val (.int (p4 &&& (3 : Int32))), .unset, .unset, .unset, .unset, .unset] [(.long (0 : Int64))])) _
      refine XT.lload Xw_16.here hx rfl (hb hby at_64) rfl ?_
      exact ktg)
    obtain ⟨_, _, ⟨T_24, L_24, k_24, n_24⟩, -, X_24, hSn_24, hgr_24, ⟨Lc_24, hQ_24, l_24, y_24, z_24, hCn_24⟩, st_24⟩ := callSS Xw_16 hx (y := (⟨"com/example/prudent_spot/prudentspot/replay/OutcomeSavingPinLaw", "s", "(JJ)D"⟩ : MethodName)) hown (mvT hZ (hw _ (List.mem_of_getElem? (i := 1) rfl))) (mvT hZ (hw _ (List.mem_of_getElem? (i := 2) rfl))) (mvT hZ (hw _ (List.mem_of_getElem? (i := 3) rfl))) (mvT hZ (hw _ (List.mem_of_getElem? (i := 4) rfl))) (by decide) (backOfSH (W := 0) (rms l Z a0 hw [] (0 : Int64) d T_16.heap n0 z_19 Hd) hZ (hw _ (List.mem_of_getElem? (i := 4) rfl)) (hw _ (List.mem_of_getElem? (i := 3) rfl)) (by decide) (by decide) hEL C_18.1) (g := (mkF m 66 #[.val (.int p0), .val (.int p1), .val (.int p2), .val (.int p3), .val (.int p4), .val (.long d), .second, .val (.long k), .second, .val (.double (sav (p0.toInt64) d)), .second, .val (.double (sav (p1.toInt64) d)), .second, .val (.double (sav ((p0.toInt64) * k) (d * k))), .second, .val (.int (p4 &&& (3 : Int32))), .unset, .unset, .unset, .unset, .unset] [(.long d), (.long (0 : Int64))])) rfl (by rw [hml]; rfl) (argsL := [(.long (0 : Int64)), (.long d)]) (rest := []) (lenOf pd_2 rfl) rfl (by show 2 * 0 + _ ≤ _; exact Nat.le_of_eq rfl) (hb hby at_66) (fun _ _ => ⟨rfl, rfl, (by decide : 9 + 3 ≤ _), (by decide : 45 + 15 ≤ _)⟩)
    dsimp only [Pt.U, Pt.locs, Pt.cells, Pt.slots] at X_24 l_24 y_24 z_24 st_24 hQ_24 hSn_24 hgr_24 hCn_24
    subst l_24 y_24 z_24
    obtain ⟨rfl, Nq_24, Kq_24⟩ := hQ_24
    have N_25 := Fr.app N_17 Nq_24
    have pre_24 : Rch p.tables e below (s₁.setTop (entryFrame m #[(.int p0), (.int p1), (.int p2), (.int p3), (.int p4)] maxLocals)) (T_24.setTop (mkF m 69 #[.val (.int p0), .val (.int p1), .val (.int p2), .val (.int p3), .val (.int p4), .val (.long d), .second, .val (.long k), .second, .val (.double (sav (p0.toInt64) d)), .second, .val (.double (sav (p1.toInt64) d)), .second, .val (.double (sav ((p0.toInt64) * k) (d * k))), .second, .val (.int (p4 &&& (3 : Int32))), .unset, .unset, .unset, .unset, .unset] [(.double (sav (0 : Int64) d))])) := fun tgt ktg => pre_23 tgt (st_24.trans ktg)
    have hS_24 : s.Since T_24.vm T_24.heap.size := hS_16.trans hSn_24 (Nat.le_trans hk_16 hgr_24)
    have hk_24 := Nat.le_refl T_24.heap.size
    have hZn_24 : Z.Warmed39 T_24.vm := State.Warmed39.trans (t := s.setVm T_16.vm) hZ hSn_24.1
    have hownn_24 : T_24.vm.findClass "com/example/prudent_spot/prudentspot/replay/OutcomeSavingPinLaw" = some m.cls := by rw [hSn_24.1.alike.findClass]; exact hown
    have hZ := hZn_24
    have hown := hownn_24
    have Xw_24 : Stand p l e room_1 (s.setVm T_24.vm) m #[(.int p0), (.int p1), (.int p2), (.int p3), (.int p4)] below meth c T_24 _ _ _ := X_24
    have C_26 : CHr Z consts_1 s.vm h0 T_24.vm T_24.heap := C_18.trans hCn_24
    have z_27 : n0 ≤ T_24.heap.size := Nat.le_trans z_19 Kq_24.1
    have pre_28 : Rch p.tables e below (s₁.setTop (entryFrame m #[(.int p0), (.int p1), (.int p2), (.int p3), (.int p4)] maxLocals)) (T_24.setTop (mkF m 180 #[.val (.int p0), .val (.int p1), .val (.int p2), .val (.int p3), .val (.int p4), .val (.long d), .second, .val (.long k), .second, .val (.double (sav (p0.toInt64) d)), .second, .val (.double (sav (p1.toInt64) d)), .second, .val (.double (sav ((p0.toInt64) * k) (d * k))), .second, .val (.int (p4 &&& (3 : Int32))), .val (.double (sav (0 : Int64) d)), .second, .val (.double (4607182418800017408 : UInt64)), .second, .val (.int (1 : Int32))] [(.int p1), (.int p0)])) := fun tgt ktg => pre_24 tgt (by
      show Steps p.tables e below (T_24.setTop (mkF m 69 #[.val (.int p0), .val (.int p1), .val (.int p2), .val (.int p3), .val (.int p4), .val (.long d), .second, .val (.long k), .second, .val (.double (sav (p0.toInt64) d)), .second, .val (.double (sav (p1.toInt64) d)), .second, .val (.double (sav ((p0.toInt64) * k) (d * k))), .second, .val (.int (p4 &&& (3 : Int32))), .unset, .unset, .unset, .unset, .unset] [(.double (sav (0 : Int64) d))])) _
      refine XS.dstore Xw_24.here hx rfl (hb hby at_69) rfl (l' := #[.val (.int p0), .val (.int p1), .val (.int p2), .val (.int p3), .val (.int p4), .val (.long d), .second, .val (.long k), .second, .val (.double (sav (p0.toInt64) d)), .second, .val (.double (sav (p1.toInt64) d)), .second, .val (.double (sav ((p0.toInt64) * k) (d * k))), .second, .val (.int (p4 &&& (3 : Int32))), .val (.double (sav (0 : Int64) d)), .second, .unset, .unset, .unset]) rfl ?_
      show Steps p.tables e below (T_24.setTop (mkF m 71 #[.val (.int p0), .val (.int p1), .val (.int p2), .val (.int p3), .val (.int p4), .val (.long d), .second, .val (.long k), .second, .val (.double (sav (p0.toInt64) d)), .second, .val (.double (sav (p1.toInt64) d)), .second, .val (.double (sav ((p0.toInt64) * k) (d * k))), .second, .val (.int (p4 &&& (3 : Int32))), .val (.double (sav (0 : Int64) d)), .second, .unset, .unset, .unset] [])) _
      refine XS.dconst1 Xw_24.here hx rfl (hb hby at_71) (v := (4607182418800017408 : UInt64)) own_dc1 ?_
      show Steps p.tables e below (T_24.setTop (mkF m 72 #[.val (.int p0), .val (.int p1), .val (.int p2), .val (.int p3), .val (.int p4), .val (.long d), .second, .val (.long k), .second, .val (.double (sav (p0.toInt64) d)), .second, .val (.double (sav (p1.toInt64) d)), .second, .val (.double (sav ((p0.toInt64) * k) (d * k))), .second, .val (.int (p4 &&& (3 : Int32))), .val (.double (sav (0 : Int64) d)), .second, .unset, .unset, .unset] [(.double (4607182418800017408 : UInt64))])) _
      refine XS.dstore Xw_24.here hx rfl (hb hby at_72) rfl (l' := #[.val (.int p0), .val (.int p1), .val (.int p2), .val (.int p3), .val (.int p4), .val (.long d), .second, .val (.long k), .second, .val (.double (sav (p0.toInt64) d)), .second, .val (.double (sav (p1.toInt64) d)), .second, .val (.double (sav ((p0.toInt64) * k) (d * k))), .second, .val (.int (p4 &&& (3 : Int32))), .val (.double (sav (0 : Int64) d)), .second, .val (.double (4607182418800017408 : UInt64)), .second, .unset]) rfl ?_
      show Steps p.tables e below (T_24.setTop (mkF m 74 #[.val (.int p0), .val (.int p1), .val (.int p2), .val (.int p3), .val (.int p4), .val (.long d), .second, .val (.long k), .second, .val (.double (sav (p0.toInt64) d)), .second, .val (.double (sav (p1.toInt64) d)), .second, .val (.double (sav ((p0.toInt64) * k) (d * k))), .second, .val (.int (p4 &&& (3 : Int32))), .val (.double (sav (0 : Int64) d)), .second, .val (.double (4607182418800017408 : UInt64)), .second, .unset] [])) _
      refine XS.goto Xw_24.here hx rfl (pc0 := 74) (pc' := 143) rfl (hb hby at_74) (by decide) (by decide) ?_
      show Steps p.tables e below (T_24.setTop (mkF m 143 #[.val (.int p0), .val (.int p1), .val (.int p2), .val (.int p3), .val (.int p4), .val (.long d), .second, .val (.long k), .second, .val (.double (sav (p0.toInt64) d)), .second, .val (.double (sav (p1.toInt64) d)), .second, .val (.double (sav ((p0.toInt64) * k) (d * k))), .second, .val (.int (p4 &&& (3 : Int32))), .val (.double (sav (0 : Int64) d)), .second, .val (.double (4607182418800017408 : UInt64)), .second, .unset] [])) _
      refine XS.dload Xw_24.here hx rfl (hb hby at_143) rfl ?_
      show Steps p.tables e below (T_24.setTop (mkF m 145 #[.val (.int p0), .val (.int p1), .val (.int p2), .val (.int p3), .val (.int p4), .val (.long d), .second, .val (.long k), .second, .val (.double (sav (p0.toInt64) d)), .second, .val (.double (sav (p1.toInt64) d)), .second, .val (.double (sav ((p0.toInt64) * k) (d * k))), .second, .val (.int (p4 &&& (3 : Int32))), .val (.double (sav (0 : Int64) d)), .second, .val (.double (4607182418800017408 : UInt64)), .second, .unset] [(.double (sav (0 : Int64) d))])) _
      refine XS.dload Xw_24.here hx rfl (hb hby at_145) rfl ?_
      show Steps p.tables e below (T_24.setTop (mkF m 147 #[.val (.int p0), .val (.int p1), .val (.int p2), .val (.int p3), .val (.int p4), .val (.long d), .second, .val (.long k), .second, .val (.double (sav (p0.toInt64) d)), .second, .val (.double (sav (p1.toInt64) d)), .second, .val (.double (sav ((p0.toInt64) * k) (d * k))), .second, .val (.int (p4 &&& (3 : Int32))), .val (.double (sav (0 : Int64) d)), .second, .val (.double (4607182418800017408 : UInt64)), .second, .unset] [(.double (4607182418800017408 : UInt64)), (.double (sav (0 : Int64) d))])) _
      refine XS.dcmpS Xw_24.here hx rfl (hb hby at_147) rfl rfl ?_
      show Steps p.tables e below (T_24.setTop (mkF m 148 #[.val (.int p0), .val (.int p1), .val (.int p2), .val (.int p3), .val (.int p4), .val (.long d), .second, .val (.long k), .second, .val (.double (sav (p0.toInt64) d)), .second, .val (.double (sav (p1.toInt64) d)), .second, .val (.double (sav ((p0.toInt64) * k) (d * k))), .second, .val (.int (p4 &&& (3 : Int32))), .val (.double (sav (0 : Int64) d)), .second, .val (.double (4607182418800017408 : UInt64)), .second, .unset] [(.int (cmpValue (FP.dcmp (sav (0 : Int64) d) (4607182418800017408 : UInt64)) .l))])) _
      refine XS.ifNo Xw_24.here hx rfl (hb hby at_148) rfl ((if0 _ _).trans (teq (own_k0 (own_sp0 Hd))).2) ?_
      show Steps p.tables e below (T_24.setTop (mkF m 151 #[.val (.int p0), .val (.int p1), .val (.int p2), .val (.int p3), .val (.int p4), .val (.long d), .second, .val (.long k), .second, .val (.double (sav (p0.toInt64) d)), .second, .val (.double (sav (p1.toInt64) d)), .second, .val (.double (sav ((p0.toInt64) * k) (d * k))), .second, .val (.int (p4 &&& (3 : Int32))), .val (.double (sav (0 : Int64) d)), .second, .val (.double (4607182418800017408 : UInt64)), .second, .unset] [])) _
      refine XS.iconst Xw_24.here hx rfl (hb hby at_151) ?_
      show Steps p.tables e below (T_24.setTop (mkF m 152 #[.val (.int p0), .val (.int p1), .val (.int p2), .val (.int p3), .val (.int p4), .val (.long d), .second, .val (.long k), .second, .val (.double (sav (p0.toInt64) d)), .second, .val (.double (sav (p1.toInt64) d)), .second, .val (.double (sav ((p0.toInt64) * k) (d * k))), .second, .val (.int (p4 &&& (3 : Int32))), .val (.double (sav (0 : Int64) d)), .second, .val (.double (4607182418800017408 : UInt64)), .second, .unset] [(.int (1 : Int32))])) _
      refine XS.goto Xw_24.here hx rfl (pc0 := 152) (pc' := 156) rfl (hb hby at_152) (by decide) (by decide) ?_
      show Steps p.tables e below (T_24.setTop (mkF m 156 #[.val (.int p0), .val (.int p1), .val (.int p2), .val (.int p3), .val (.int p4), .val (.long d), .second, .val (.long k), .second, .val (.double (sav (p0.toInt64) d)), .second, .val (.double (sav (p1.toInt64) d)), .second, .val (.double (sav ((p0.toInt64) * k) (d * k))), .second, .val (.int (p4 &&& (3 : Int32))), .val (.double (sav (0 : Int64) d)), .second, .val (.double (4607182418800017408 : UInt64)), .second, .unset] [(.int (1 : Int32))])) _
      refine XS.istore Xw_24.here hx rfl (hb hby at_156) rfl (l' := #[.val (.int p0), .val (.int p1), .val (.int p2), .val (.int p3), .val (.int p4), .val (.long d), .second, .val (.long k), .second, .val (.double (sav (p0.toInt64) d)), .second, .val (.double (sav (p1.toInt64) d)), .second, .val (.double (sav ((p0.toInt64) * k) (d * k))), .second, .val (.int (p4 &&& (3 : Int32))), .val (.double (sav (0 : Int64) d)), .second, .val (.double (4607182418800017408 : UInt64)), .second, .val (.int (1 : Int32))]) rfl ?_
      show Steps p.tables e below (T_24.setTop (mkF m 158 #[.val (.int p0), .val (.int p1), .val (.int p2), .val (.int p3), .val (.int p4), .val (.long d), .second, .val (.long k), .second, .val (.double (sav (p0.toInt64) d)), .second, .val (.double (sav (p1.toInt64) d)), .second, .val (.double (sav ((p0.toInt64) * k) (d * k))), .second, .val (.int (p4 &&& (3 : Int32))), .val (.double (sav (0 : Int64) d)), .second, .val (.double (4607182418800017408 : UInt64)), .second, .val (.int (1 : Int32))] [])) _
      refine XS.iload Xw_24.here hx rfl (hb hby at_158) rfl ?_
      show Steps p.tables e below (T_24.setTop (mkF m 160 #[.val (.int p0), .val (.int p1), .val (.int p2), .val (.int p3), .val (.int p4), .val (.long d), .second, .val (.long k), .second, .val (.double (sav (p0.toInt64) d)), .second, .val (.double (sav (p1.toInt64) d)), .second, .val (.double (sav ((p0.toInt64) * k) (d * k))), .second, .val (.int (p4 &&& (3 : Int32))), .val (.double (sav (0 : Int64) d)), .second, .val (.double (4607182418800017408 : UInt64)), .second, .val (.int (1 : Int32))] [(.int (1 : Int32))])) _
      refine XS.ifNo Xw_24.here hx rfl (hb hby at_160) rfl ((if0 _ _).trans (feq (by decide : ¬ ((1 : Int32) = (0 : Int32)))).1) ?_
      show Steps p.tables e below (T_24.setTop (mkF m 163 #[.val (.int p0), .val (.int p1), .val (.int p2), .val (.int p3), .val (.int p4), .val (.long d), .second, .val (.long k), .second, .val (.double (sav (p0.toInt64) d)), .second, .val (.double (sav (p1.toInt64) d)), .second, .val (.double (sav ((p0.toInt64) * k) (d * k))), .second, .val (.int (p4 &&& (3 : Int32))), .val (.double (sav (0 : Int64) d)), .second, .val (.double (4607182418800017408 : UInt64)), .second, .val (.int (1 : Int32))] [])) _
      refine XS.dload Xw_24.here hx rfl (hb hby at_163) rfl ?_
      show Steps p.tables e below (T_24.setTop (mkF m 165 #[.val (.int p0), .val (.int p1), .val (.int p2), .val (.int p3), .val (.int p4), .val (.long d), .second, .val (.long k), .second, .val (.double (sav (p0.toInt64) d)), .second, .val (.double (sav (p1.toInt64) d)), .second, .val (.double (sav ((p0.toInt64) * k) (d * k))), .second, .val (.int (p4 &&& (3 : Int32))), .val (.double (sav (0 : Int64) d)), .second, .val (.double (4607182418800017408 : UInt64)), .second, .val (.int (1 : Int32))] [(.double (sav ((p0.toInt64) * k) (d * k)))])) _
      refine XS.dload Xw_24.here hx rfl (hb hby at_165) rfl ?_
      show Steps p.tables e below (T_24.setTop (mkF m 167 #[.val (.int p0), .val (.int p1), .val (.int p2), .val (.int p3), .val (.int p4), .val (.long d), .second, .val (.long k), .second, .val (.double (sav (p0.toInt64) d)), .second, .val (.double (sav (p1.toInt64) d)), .second, .val (.double (sav ((p0.toInt64) * k) (d * k))), .second, .val (.int (p4 &&& (3 : Int32))), .val (.double (sav (0 : Int64) d)), .second, .val (.double (4607182418800017408 : UInt64)), .second, .val (.int (1 : Int32))] [(.double (sav (p0.toInt64) d)), (.double (sav ((p0.toInt64) * k) (d * k)))])) _
      refine XS.dcmpS Xw_24.here hx rfl (hb hby at_167) rfl rfl ?_
      show Steps p.tables e below (T_24.setTop (mkF m 168 #[.val (.int p0), .val (.int p1), .val (.int p2), .val (.int p3), .val (.int p4), .val (.long d), .second, .val (.long k), .second, .val (.double (sav (p0.toInt64) d)), .second, .val (.double (sav (p1.toInt64) d)), .second, .val (.double (sav ((p0.toInt64) * k) (d * k))), .second, .val (.int (p4 &&& (3 : Int32))), .val (.double (sav (0 : Int64) d)), .second, .val (.double (4607182418800017408 : UInt64)), .second, .val (.int (1 : Int32))] [(.int (cmpValue (FP.dcmp (sav ((p0.toInt64) * k) (d * k)) (sav (p0.toInt64) d)) .l))])) _
      refine XS.ifNo Xw_24.here hx rfl (hb hby at_168) rfl ((if0 _ _).trans (teq (own_scl (c := p0) hd hk)).2) ?_
      show Steps p.tables e below (T_24.setTop (mkF m 171 #[.val (.int p0), .val (.int p1), .val (.int p2), .val (.int p3), .val (.int p4), .val (.long d), .second, .val (.long k), .second, .val (.double (sav (p0.toInt64) d)), .second, .val (.double (sav (p1.toInt64) d)), .second, .val (.double (sav ((p0.toInt64) * k) (d * k))), .second, .val (.int (p4 &&& (3 : Int32))), .val (.double (sav (0 : Int64) d)), .second, .val (.double (4607182418800017408 : UInt64)), .second, .val (.int (1 : Int32))] [])) _
      refine XS.iconst Xw_24.here hx rfl (hb hby at_171) ?_
      show Steps p.tables e below (T_24.setTop (mkF m 172 #[.val (.int p0), .val (.int p1), .val (.int p2), .val (.int p3), .val (.int p4), .val (.long d), .second, .val (.long k), .second, .val (.double (sav (p0.toInt64) d)), .second, .val (.double (sav (p1.toInt64) d)), .second, .val (.double (sav ((p0.toInt64) * k) (d * k))), .second, .val (.int (p4 &&& (3 : Int32))), .val (.double (sav (0 : Int64) d)), .second, .val (.double (4607182418800017408 : UInt64)), .second, .val (.int (1 : Int32))] [(.int (1 : Int32))])) _
      refine XS.goto Xw_24.here hx rfl (pc0 := 172) (pc' := 176) rfl (hb hby at_172) (by decide) (by decide) ?_
      show Steps p.tables e below (T_24.setTop (mkF m 176 #[.val (.int p0), .val (.int p1), .val (.int p2), .val (.int p3), .val (.int p4), .val (.long d), .second, .val (.long k), .second, .val (.double (sav (p0.toInt64) d)), .second, .val (.double (sav (p1.toInt64) d)), .second, .val (.double (sav ((p0.toInt64) * k) (d * k))), .second, .val (.int (p4 &&& (3 : Int32))), .val (.double (sav (0 : Int64) d)), .second, .val (.double (4607182418800017408 : UInt64)), .second, .val (.int (1 : Int32))] [(.int (1 : Int32))])) _
      refine XS.istore Xw_24.here hx rfl (hb hby at_176) rfl (l' := #[.val (.int p0), .val (.int p1), .val (.int p2), .val (.int p3), .val (.int p4), .val (.long d), .second, .val (.long k), .second, .val (.double (sav (p0.toInt64) d)), .second, .val (.double (sav (p1.toInt64) d)), .second, .val (.double (sav ((p0.toInt64) * k) (d * k))), .second, .val (.int (p4 &&& (3 : Int32))), .val (.double (sav (0 : Int64) d)), .second, .val (.double (4607182418800017408 : UInt64)), .second, .val (.int (1 : Int32))]) rfl ?_
      show Steps p.tables e below (T_24.setTop (mkF m 178 #[.val (.int p0), .val (.int p1), .val (.int p2), .val (.int p3), .val (.int p4), .val (.long d), .second, .val (.long k), .second, .val (.double (sav (p0.toInt64) d)), .second, .val (.double (sav (p1.toInt64) d)), .second, .val (.double (sav ((p0.toInt64) * k) (d * k))), .second, .val (.int (p4 &&& (3 : Int32))), .val (.double (sav (0 : Int64) d)), .second, .val (.double (4607182418800017408 : UInt64)), .second, .val (.int (1 : Int32))] [])) _
      refine XS.iloadN Xw_24.here hx rfl (hb hby at_178) rfl ?_
      show Steps p.tables e below (T_24.setTop (mkF m 179 #[.val (.int p0), .val (.int p1), .val (.int p2), .val (.int p3), .val (.int p4), .val (.long d), .second, .val (.long k), .second, .val (.double (sav (p0.toInt64) d)), .second, .val (.double (sav (p1.toInt64) d)), .second, .val (.double (sav ((p0.toInt64) * k) (d * k))), .second, .val (.int (p4 &&& (3 : Int32))), .val (.double (sav (0 : Int64) d)), .second, .val (.double (4607182418800017408 : UInt64)), .second, .val (.int (1 : Int32))] [(.int p0)])) _
      refine XS.iloadN Xw_24.here hx rfl (hb hby at_179) rfl ?_
      exact ktg)
    by_cases c_29 : p1 < p0
    · skip
      have pre_30 : Rch p.tables e below (s₁.setTop (entryFrame m #[(.int p0), (.int p1), (.int p2), (.int p3), (.int p4)] maxLocals)) (T_24.setTop (mkF m 206 #[.val (.int p0), .val (.int p1), .val (.int p2), .val (.int p3), .val (.int p4), .val (.long d), .second, .val (.long k), .second, .val (.double (sav (p0.toInt64) d)), .second, .val (.double (sav (p1.toInt64) d)), .second, .val (.double (sav ((p0.toInt64) * k) (d * k))), .second, .val (.int (p4 &&& (3 : Int32))), .val (.double (sav (0 : Int64) d)), .second, .val (.double (4607182418800017408 : UInt64)), .second, .val (.int (1 : Int32))] [])) := fun tgt ktg => pre_28 tgt (by
        show Steps p.tables e below (T_24.setTop (mkF m 180 #[.val (.int p0), .val (.int p1), .val (.int p2), .val (.int p3), .val (.int p4), .val (.long d), .second, .val (.long k), .second, .val (.double (sav (p0.toInt64) d)), .second, .val (.double (sav (p1.toInt64) d)), .second, .val (.double (sav ((p0.toInt64) * k) (d * k))), .second, .val (.int (p4 &&& (3 : Int32))), .val (.double (sav (0 : Int64) d)), .second, .val (.double (4607182418800017408 : UInt64)), .second, .val (.int (1 : Int32))] [(.int p1), (.int p0)])) _
        refine XS.icmpYes Xw_24.here hx rfl (pc0 := 180) (pc' := 206) rfl (hb hby at_180) rfl (tlt c_29).2.2.1 (by decide) (by decide) ?_
        exact ktg)
      have pre_31 : Rch p.tables e below (s₁.setTop (entryFrame m #[(.int p0), (.int p1), (.int p2), (.int p3), (.int p4)] maxLocals)) (T_24.setTop (mkF m 227 #[.val (.int p0), .val (.int p1), .val (.int p2), .val (.int p3), .val (.int p4), .val (.long d), .second, .val (.long k), .second, .val (.double (sav (p0.toInt64) d)), .second, .val (.double (sav (p1.toInt64) d)), .second, .val (.double (sav ((p0.toInt64) * k) (d * k))), .second, .val (.int (p4 &&& (3 : Int32))), .val (.double (sav (0 : Int64) d)), .second, .val (.double (4607182418800017408 : UInt64)), .second, .val (.int (1 : Int32))] [(.int p0)])) := fun tgt ktg => pre_30 tgt (by
        show Steps p.tables e below (T_24.setTop (mkF m 206 #[.val (.int p0), .val (.int p1), .val (.int p2), .val (.int p3), .val (.int p4), .val (.long d), .second, .val (.long k), .second, .val (.double (sav (p0.toInt64) d)), .second, .val (.double (sav (p1.toInt64) d)), .second, .val (.double (sav ((p0.toInt64) * k) (d * k))), .second, .val (.int (p4 &&& (3 : Int32))), .val (.double (sav (0 : Int64) d)), .second, .val (.double (4607182418800017408 : UInt64)), .second, .val (.int (1 : Int32))] [])) _
        refine XS.iload Xw_24.here hx rfl (hb hby at_206) rfl ?_
        show Steps p.tables e below (T_24.setTop (mkF m 208 #[.val (.int p0), .val (.int p1), .val (.int p2), .val (.int p3), .val (.int p4), .val (.long d), .second, .val (.long k), .second, .val (.double (sav (p0.toInt64) d)), .second, .val (.double (sav (p1.toInt64) d)), .second, .val (.double (sav ((p0.toInt64) * k) (d * k))), .second, .val (.int (p4 &&& (3 : Int32))), .val (.double (sav (0 : Int64) d)), .second, .val (.double (4607182418800017408 : UInt64)), .second, .val (.int (1 : Int32))] [(.int (1 : Int32))])) _
        refine XS.ifNo Xw_24.here hx rfl (hb hby at_208) rfl ((if0 _ _).trans (feq (by decide : ¬ ((1 : Int32) = (0 : Int32)))).1) ?_
        show Steps p.tables e below (T_24.setTop (mkF m 211 #[.val (.int p0), .val (.int p1), .val (.int p2), .val (.int p3), .val (.int p4), .val (.long d), .second, .val (.long k), .second, .val (.double (sav (p0.toInt64) d)), .second, .val (.double (sav (p1.toInt64) d)), .second, .val (.double (sav ((p0.toInt64) * k) (d * k))), .second, .val (.int (p4 &&& (3 : Int32))), .val (.double (sav (0 : Int64) d)), .second, .val (.double (4607182418800017408 : UInt64)), .second, .val (.int (1 : Int32))] [])) _
        refine XS.dload Xw_24.here hx rfl (hb hby at_211) rfl ?_
        show Steps p.tables e below (T_24.setTop (mkF m 213 #[.val (.int p0), .val (.int p1), .val (.int p2), .val (.int p3), .val (.int p4), .val (.long d), .second, .val (.long k), .second, .val (.double (sav (p0.toInt64) d)), .second, .val (.double (sav (p1.toInt64) d)), .second, .val (.double (sav ((p0.toInt64) * k) (d * k))), .second, .val (.int (p4 &&& (3 : Int32))), .val (.double (sav (0 : Int64) d)), .second, .val (.double (4607182418800017408 : UInt64)), .second, .val (.int (1 : Int32))] [(.double (sav (p1.toInt64) d))])) _
        refine XS.dload Xw_24.here hx rfl (hb hby at_213) rfl ?_
        show Steps p.tables e below (T_24.setTop (mkF m 215 #[.val (.int p0), .val (.int p1), .val (.int p2), .val (.int p3), .val (.int p4), .val (.long d), .second, .val (.long k), .second, .val (.double (sav (p0.toInt64) d)), .second, .val (.double (sav (p1.toInt64) d)), .second, .val (.double (sav ((p0.toInt64) * k) (d * k))), .second, .val (.int (p4 &&& (3 : Int32))), .val (.double (sav (0 : Int64) d)), .second, .val (.double (4607182418800017408 : UInt64)), .second, .val (.int (1 : Int32))] [(.double (sav (p0.toInt64) d)), (.double (sav (p1.toInt64) d))])) _
        refine XS.dcmpS Xw_24.here hx rfl (hb hby at_215) rfl rfl ?_
        show Steps p.tables e below (T_24.setTop (mkF m 216 #[.val (.int p0), .val (.int p1), .val (.int p2), .val (.int p3), .val (.int p4), .val (.long d), .second, .val (.long k), .second, .val (.double (sav (p0.toInt64) d)), .second, .val (.double (sav (p1.toInt64) d)), .second, .val (.double (sav ((p0.toInt64) * k) (d * k))), .second, .val (.int (p4 &&& (3 : Int32))), .val (.double (sav (0 : Int64) d)), .second, .val (.double (4607182418800017408 : UInt64)), .second, .val (.int (1 : Int32))] [(.int (cmpValue (FP.dcmp (sav (p1.toInt64) d) (sav (p0.toInt64) d)) .l))])) _
        refine XS.ifNo Xw_24.here hx rfl (hb hby at_216) rfl ((if0 _ _).trans (flt (own_nl (own_mo (own_cn p1) (own_cn p0) Hd (by rw [own_b, own_b]; exact Int.le_of_lt (Int32.lt_iff_toInt_lt.mp c_29))))).1) ?_
        show Steps p.tables e below (T_24.setTop (mkF m 219 #[.val (.int p0), .val (.int p1), .val (.int p2), .val (.int p3), .val (.int p4), .val (.long d), .second, .val (.long k), .second, .val (.double (sav (p0.toInt64) d)), .second, .val (.double (sav (p1.toInt64) d)), .second, .val (.double (sav ((p0.toInt64) * k) (d * k))), .second, .val (.int (p4 &&& (3 : Int32))), .val (.double (sav (0 : Int64) d)), .second, .val (.double (4607182418800017408 : UInt64)), .second, .val (.int (1 : Int32))] [])) _
        refine XS.iconst Xw_24.here hx rfl (hb hby at_219) ?_
        show Steps p.tables e below (T_24.setTop (mkF m 220 #[.val (.int p0), .val (.int p1), .val (.int p2), .val (.int p3), .val (.int p4), .val (.long d), .second, .val (.long k), .second, .val (.double (sav (p0.toInt64) d)), .second, .val (.double (sav (p1.toInt64) d)), .second, .val (.double (sav ((p0.toInt64) * k) (d * k))), .second, .val (.int (p4 &&& (3 : Int32))), .val (.double (sav (0 : Int64) d)), .second, .val (.double (4607182418800017408 : UInt64)), .second, .val (.int (1 : Int32))] [(.int (1 : Int32))])) _
        refine XS.goto Xw_24.here hx rfl (pc0 := 220) (pc' := 224) rfl (hb hby at_220) (by decide) (by decide) ?_
        show Steps p.tables e below (T_24.setTop (mkF m 224 #[.val (.int p0), .val (.int p1), .val (.int p2), .val (.int p3), .val (.int p4), .val (.long d), .second, .val (.long k), .second, .val (.double (sav (p0.toInt64) d)), .second, .val (.double (sav (p1.toInt64) d)), .second, .val (.double (sav ((p0.toInt64) * k) (d * k))), .second, .val (.int (p4 &&& (3 : Int32))), .val (.double (sav (0 : Int64) d)), .second, .val (.double (4607182418800017408 : UInt64)), .second, .val (.int (1 : Int32))] [(.int (1 : Int32))])) _
        refine XS.istore Xw_24.here hx rfl (hb hby at_224) rfl (l' := #[.val (.int p0), .val (.int p1), .val (.int p2), .val (.int p3), .val (.int p4), .val (.long d), .second, .val (.long k), .second, .val (.double (sav (p0.toInt64) d)), .second, .val (.double (sav (p1.toInt64) d)), .second, .val (.double (sav ((p0.toInt64) * k) (d * k))), .second, .val (.int (p4 &&& (3 : Int32))), .val (.double (sav (0 : Int64) d)), .second, .val (.double (4607182418800017408 : UInt64)), .second, .val (.int (1 : Int32))]) rfl ?_
        show Steps p.tables e below (T_24.setTop (mkF m 226 #[.val (.int p0), .val (.int p1), .val (.int p2), .val (.int p3), .val (.int p4), .val (.long d), .second, .val (.long k), .second, .val (.double (sav (p0.toInt64) d)), .second, .val (.double (sav (p1.toInt64) d)), .second, .val (.double (sav ((p0.toInt64) * k) (d * k))), .second, .val (.int (p4 &&& (3 : Int32))), .val (.double (sav (0 : Int64) d)), .second, .val (.double (4607182418800017408 : UInt64)), .second, .val (.int (1 : Int32))] [])) _
        refine XS.iloadN Xw_24.here hx rfl (hb hby at_226) rfl ?_
        exact ktg)
      by_cases c_32 : p0 < (0 : Int32)
      · skip
        have pre_33 : Rch p.tables e below (s₁.setTop (entryFrame m #[(.int p0), (.int p1), (.int p2), (.int p3), (.int p4)] maxLocals)) (T_24.setTop (mkF m 264 #[.val (.int p0), .val (.int p1), .val (.int p2), .val (.int p3), .val (.int p4), .val (.long d), .second, .val (.long k), .second, .val (.double (sav (p0.toInt64) d)), .second, .val (.double (sav (p1.toInt64) d)), .second, .val (.double (sav ((p0.toInt64) * k) (d * k))), .second, .val (.int (p4 &&& (3 : Int32))), .val (.double (sav (0 : Int64) d)), .second, .val (.double (4607182418800017408 : UInt64)), .second, .val (.int (1 : Int32))] [])) := fun tgt ktg => pre_31 tgt (by
          show Steps p.tables e below (T_24.setTop (mkF m 227 #[.val (.int p0), .val (.int p1), .val (.int p2), .val (.int p3), .val (.int p4), .val (.long d), .second, .val (.long k), .second, .val (.double (sav (p0.toInt64) d)), .second, .val (.double (sav (p1.toInt64) d)), .second, .val (.double (sav ((p0.toInt64) * k) (d * k))), .second, .val (.int (p4 &&& (3 : Int32))), .val (.double (sav (0 : Int64) d)), .second, .val (.double (4607182418800017408 : UInt64)), .second, .val (.int (1 : Int32))] [(.int p0)])) _
          refine XS.ifYes Xw_24.here hx rfl (pc0 := 227) (pc' := 264) rfl (hb hby at_227) rfl ((if0 _ _).trans (tlt c_32).1) (by decide) (by decide) ?_
          exact ktg)
        have pre_34 : Rch p.tables e below (s₁.setTop (entryFrame m #[(.int p0), (.int p1), (.int p2), (.int p3), (.int p4)] maxLocals)) (T_24.setTop (mkF m 266 #[.val (.int p0), .val (.int p1), .val (.int p2), .val (.int p3), .val (.int p4), .val (.long d), .second, .val (.long k), .second, .val (.double (sav (p0.toInt64) d)), .second, .val (.double (sav (p1.toInt64) d)), .second, .val (.double (sav ((p0.toInt64) * k) (d * k))), .second, .val (.int (p4 &&& (3 : Int32))), .val (.double (sav (0 : Int64) d)), .second, .val (.double (4607182418800017408 : UInt64)), .second, .val (.int (1 : Int32))] [(.int (1 : Int32))])) := fun tgt ktg => pre_33 tgt (by
          show Steps p.tables e below (T_24.setTop (mkF m 264 #[.val (.int p0), .val (.int p1), .val (.int p2), .val (.int p3), .val (.int p4), .val (.long d), .second, .val (.long k), .second, .val (.double (sav (p0.toInt64) d)), .second, .val (.double (sav (p1.toInt64) d)), .second, .val (.double (sav ((p0.toInt64) * k) (d * k))), .second, .val (.int (p4 &&& (3 : Int32))), .val (.double (sav (0 : Int64) d)), .second, .val (.double (4607182418800017408 : UInt64)), .second, .val (.int (1 : Int32))] [])) _
          refine XS.iload Xw_24.here hx rfl (hb hby at_264) rfl ?_
          exact ktg)
        obtain ⟨fs, hr, hrun, hended, hW⟩ := Xw_24.leaveW hS_24 hk_24 (v := some (.int (1 : Int32))) (fun h => by rw [Bd.returns] at h; cases h)
        refine ⟨_, _, pre_34 _ ?_, hrun, hended, _, _, rfl, ?_, ?_, hW.1, hW.2.1, hW.2.2.1, hW.2.2.2.mono (by decide) (by decide)⟩
        · show Steps p.tables e below (T_24.setTop (mkF m 266 #[.val (.int p0), .val (.int p1), .val (.int p2), .val (.int p3), .val (.int p4), .val (.long d), .second, .val (.long k), .second, .val (.double (sav (p0.toInt64) d)), .second, .val (.double (sav (p1.toInt64) d)), .second, .val (.double (sav ((p0.toInt64) * k) (d * k))), .second, .val (.int (p4 &&& (3 : Int32))), .val (.double (sav (0 : Int64) d)), .second, .val (.double (4607182418800017408 : UInt64)), .second, .val (.int (1 : Int32))] [(.int (1 : Int32))])) _
          exact retN Xw_24 hx (t := .boolean) Bd.returns (by simp) (hb hby at_266) hr
        · show Q0 Z p0 p1 p2 p3 p4 h0 n0 _ T_24.heap _
          exact ⟨rfl, N_25⟩
        · show CHr Z consts_1 s.vm s.heap T_24.vm T_24.heap
          rw [hh]
          exact C_26.trans (CHv.at Xw_24 hZ hEL C_26.1)
      · skip
        have pre_35 : Rch p.tables e below (s₁.setTop (entryFrame m #[(.int p0), (.int p1), (.int p2), (.int p3), (.int p4)] maxLocals)) (T_24.setTop (mkF m 230 #[.val (.int p0), .val (.int p1), .val (.int p2), .val (.int p3), .val (.int p4), .val (.long d), .second, .val (.long k), .second, .val (.double (sav (p0.toInt64) d)), .second, .val (.double (sav (p1.toInt64) d)), .second, .val (.double (sav ((p0.toInt64) * k) (d * k))), .second, .val (.int (p4 &&& (3 : Int32))), .val (.double (sav (0 : Int64) d)), .second, .val (.double (4607182418800017408 : UInt64)), .second, .val (.int (1 : Int32))] [])) := fun tgt ktg => pre_31 tgt (by
          show Steps p.tables e below (T_24.setTop (mkF m 227 #[.val (.int p0), .val (.int p1), .val (.int p2), .val (.int p3), .val (.int p4), .val (.long d), .second, .val (.long k), .second, .val (.double (sav (p0.toInt64) d)), .second, .val (.double (sav (p1.toInt64) d)), .second, .val (.double (sav ((p0.toInt64) * k) (d * k))), .second, .val (.int (p4 &&& (3 : Int32))), .val (.double (sav (0 : Int64) d)), .second, .val (.double (4607182418800017408 : UInt64)), .second, .val (.int (1 : Int32))] [(.int p0)])) _
          refine XS.ifNo Xw_24.here hx rfl (hb hby at_227) rfl ((if0 _ _).trans (flt c_32).1) ?_
          exact ktg)
        have pre_36 : Rch p.tables e below (s₁.setTop (entryFrame m #[(.int p0), (.int p1), (.int p2), (.int p3), (.int p4)] maxLocals)) (T_24.setTop (mkF m 235 #[.val (.int p0), .val (.int p1), .val (.int p2), .val (.int p3), .val (.int p4), .val (.long d), .second, .val (.long k), .second, .val (.double (sav (p0.toInt64) d)), .second, .val (.double (sav (p1.toInt64) d)), .second, .val (.double (sav ((p0.toInt64) * k) (d * k))), .second, .val (.int (p4 &&& (3 : Int32))), .val (.double (sav (0 : Int64) d)), .second, .val (.double (4607182418800017408 : UInt64)), .second, .val (.int (1 : Int32))] [(.int (XT.cmpL (p0.toInt64) d))])) := fun tgt ktg => pre_35 tgt (by
          show Steps p.tables e below (T_24.setTop (mkF m 230 #[.val (.int p0), .val (.int p1), .val (.int p2), .val (.int p3), .val (.int p4), .val (.long d), .second, .val (.long k), .second, .val (.double (sav (p0.toInt64) d)), .second, .val (.double (sav (p1.toInt64) d)), .second, .val (.double (sav ((p0.toInt64) * k) (d * k))), .second, .val (.int (p4 &&& (3 : Int32))), .val (.double (sav (0 : Int64) d)), .second, .val (.double (4607182418800017408 : UInt64)), .second, .val (.int (1 : Int32))] [])) _
          refine XS.iloadN Xw_24.here hx rfl (hb hby at_230) rfl ?_
          show Steps p.tables e below (T_24.setTop (mkF m 231 #[.val (.int p0), .val (.int p1), .val (.int p2), .val (.int p3), .val (.int p4), .val (.long d), .second, .val (.long k), .second, .val (.double (sav (p0.toInt64) d)), .second, .val (.double (sav (p1.toInt64) d)), .second, .val (.double (sav ((p0.toInt64) * k) (d * k))), .second, .val (.int (p4 &&& (3 : Int32))), .val (.double (sav (0 : Int64) d)), .second, .val (.double (4607182418800017408 : UInt64)), .second, .val (.int (1 : Int32))] [(.int p0)])) _
          refine XT.i2l Xw_24.here hx rfl (hb hby at_231) rfl ?_
          show Steps p.tables e below (T_24.setTop (mkF m 232 #[.val (.int p0), .val (.int p1), .val (.int p2), .val (.int p3), .val (.int p4), .val (.long d), .second, .val (.long k), .second, .val (.double (sav (p0.toInt64) d)), .second, .val (.double (sav (p1.toInt64) d)), .second, .val (.double (sav ((p0.toInt64) * k) (d * k))), .second, .val (.int (p4 &&& (3 : Int32))), .val (.double (sav (0 : Int64) d)), .second, .val (.double (4607182418800017408 : UInt64)), .second, .val (.int (1 : Int32))] [(.long (p0.toInt64))])) _
          refine XT.lload Xw_24.here hx rfl (hb hby at_232) rfl ?_
          show Steps p.tables e below (T_24.setTop (mkF m 234 #[.val (.int p0), .val (.int p1), .val (.int p2), .val (.int p3), .val (.int p4), .val (.long d), .second, .val (.long k), .second, .val (.double (sav (p0.toInt64) d)), .second, .val (.double (sav (p1.toInt64) d)), .second, .val (.double (sav ((p0.toInt64) * k) (d * k))), .second, .val (.int (p4 &&& (3 : Int32))), .val (.double (sav (0 : Int64) d)), .second, .val (.double (4607182418800017408 : UInt64)), .second, .val (.int (1 : Int32))] [(.long d), (.long (p0.toInt64))])) _
          refine XT.lcmp Xw_24.here hx rfl (hb hby at_234) rfl ?_
          exact ktg)
        by_cases c_37 : (0 : Int32) < (XT.cmpL (p0.toInt64) d)
        · skip
          have pre_38 : Rch p.tables e below (s₁.setTop (entryFrame m #[(.int p0), (.int p1), (.int p2), (.int p3), (.int p4)] maxLocals)) (T_24.setTop (mkF m 264 #[.val (.int p0), .val (.int p1), .val (.int p2), .val (.int p3), .val (.int p4), .val (.long d), .second, .val (.long k), .second, .val (.double (sav (p0.toInt64) d)), .second, .val (.double (sav (p1.toInt64) d)), .second, .val (.double (sav ((p0.toInt64) * k) (d * k))), .second, .val (.int (p4 &&& (3 : Int32))), .val (.double (sav (0 : Int64) d)), .second, .val (.double (4607182418800017408 : UInt64)), .second, .val (.int (1 : Int32))] [])) := fun tgt ktg => pre_36 tgt (by
            show Steps p.tables e below (T_24.setTop (mkF m 235 #[.val (.int p0), .val (.int p1), .val (.int p2), .val (.int p3), .val (.int p4), .val (.long d), .second, .val (.long k), .second, .val (.double (sav (p0.toInt64) d)), .second, .val (.double (sav (p1.toInt64) d)), .second, .val (.double (sav ((p0.toInt64) * k) (d * k))), .second, .val (.int (p4 &&& (3 : Int32))), .val (.double (sav (0 : Int64) d)), .second, .val (.double (4607182418800017408 : UInt64)), .second, .val (.int (1 : Int32))] [(.int (XT.cmpL (p0.toInt64) d))])) _
            refine XS.ifYes Xw_24.here hx rfl (pc0 := 235) (pc' := 264) rfl (hb hby at_235) rfl ((if0 _ _).trans (tlt c_37).2.2.1) (by decide) (by decide) ?_
            exact ktg)
          have pre_39 : Rch p.tables e below (s₁.setTop (entryFrame m #[(.int p0), (.int p1), (.int p2), (.int p3), (.int p4)] maxLocals)) (T_24.setTop (mkF m 266 #[.val (.int p0), .val (.int p1), .val (.int p2), .val (.int p3), .val (.int p4), .val (.long d), .second, .val (.long k), .second, .val (.double (sav (p0.toInt64) d)), .second, .val (.double (sav (p1.toInt64) d)), .second, .val (.double (sav ((p0.toInt64) * k) (d * k))), .second, .val (.int (p4 &&& (3 : Int32))), .val (.double (sav (0 : Int64) d)), .second, .val (.double (4607182418800017408 : UInt64)), .second, .val (.int (1 : Int32))] [(.int (1 : Int32))])) := fun tgt ktg => pre_38 tgt (by
            show Steps p.tables e below (T_24.setTop (mkF m 264 #[.val (.int p0), .val (.int p1), .val (.int p2), .val (.int p3), .val (.int p4), .val (.long d), .second, .val (.long k), .second, .val (.double (sav (p0.toInt64) d)), .second, .val (.double (sav (p1.toInt64) d)), .second, .val (.double (sav ((p0.toInt64) * k) (d * k))), .second, .val (.int (p4 &&& (3 : Int32))), .val (.double (sav (0 : Int64) d)), .second, .val (.double (4607182418800017408 : UInt64)), .second, .val (.int (1 : Int32))] [])) _
            refine XS.iload Xw_24.here hx rfl (hb hby at_264) rfl ?_
            exact ktg)
          obtain ⟨fs, hr, hrun, hended, hW⟩ := Xw_24.leaveW hS_24 hk_24 (v := some (.int (1 : Int32))) (fun h => by rw [Bd.returns] at h; cases h)
          refine ⟨_, _, pre_39 _ ?_, hrun, hended, _, _, rfl, ?_, ?_, hW.1, hW.2.1, hW.2.2.1, hW.2.2.2.mono (by decide) (by decide)⟩
          · show Steps p.tables e below (T_24.setTop (mkF m 266 #[.val (.int p0), .val (.int p1), .val (.int p2), .val (.int p3), .val (.int p4), .val (.long d), .second, .val (.long k), .second, .val (.double (sav (p0.toInt64) d)), .second, .val (.double (sav (p1.toInt64) d)), .second, .val (.double (sav ((p0.toInt64) * k) (d * k))), .second, .val (.int (p4 &&& (3 : Int32))), .val (.double (sav (0 : Int64) d)), .second, .val (.double (4607182418800017408 : UInt64)), .second, .val (.int (1 : Int32))] [(.int (1 : Int32))])) _
            exact retN Xw_24 hx (t := .boolean) Bd.returns (by simp) (hb hby at_266) hr
          · show Q0 Z p0 p1 p2 p3 p4 h0 n0 _ T_24.heap _
            exact ⟨rfl, N_25⟩
          · show CHr Z consts_1 s.vm s.heap T_24.vm T_24.heap
            rw [hh]
            exact C_26.trans (CHv.at Xw_24 hZ hEL C_26.1)
        · skip
          have pre_40 : Rch p.tables e below (s₁.setTop (entryFrame m #[(.int p0), (.int p1), (.int p2), (.int p3), (.int p4)] maxLocals)) (T_24.setTop (mkF m 238 #[.val (.int p0), .val (.int p1), .val (.int p2), .val (.int p3), .val (.int p4), .val (.long d), .second, .val (.long k), .second, .val (.double (sav (p0.toInt64) d)), .second, .val (.double (sav (p1.toInt64) d)), .second, .val (.double (sav ((p0.toInt64) * k) (d * k))), .second, .val (.int (p4 &&& (3 : Int32))), .val (.double (sav (0 : Int64) d)), .second, .val (.double (4607182418800017408 : UInt64)), .second, .val (.int (1 : Int32))] [])) := fun tgt ktg => pre_36 tgt (by
            show Steps p.tables e below (T_24.setTop (mkF m 235 #[.val (.int p0), .val (.int p1), .val (.int p2), .val (.int p3), .val (.int p4), .val (.long d), .second, .val (.long k), .second, .val (.double (sav (p0.toInt64) d)), .second, .val (.double (sav (p1.toInt64) d)), .second, .val (.double (sav ((p0.toInt64) * k) (d * k))), .second, .val (.int (p4 &&& (3 : Int32))), .val (.double (sav (0 : Int64) d)), .second, .val (.double (4607182418800017408 : UInt64)), .second, .val (.int (1 : Int32))] [(.int (XT.cmpL (p0.toInt64) d))])) _
            refine XS.ifNo Xw_24.here hx rfl (hb hby at_235) rfl ((if0 _ _).trans (flt c_37).2.2.1) ?_
            exact ktg)
          have hr := own_r32 Hd c_32 c_37
          have pre_41 : Rch p.tables e below (s₁.setTop (entryFrame m #[(.int p0), (.int p1), (.int p2), (.int p3), (.int p4)] maxLocals)) (T_24.setTop (mkF m 266 #[.val (.int p0), .val (.int p1), .val (.int p2), .val (.int p3), .val (.int p4), .val (.long d), .second, .val (.long k), .second, .val (.double (sav (p0.toInt64) d)), .second, .val (.double (sav (p1.toInt64) d)), .second, .val (.double (sav ((p0.toInt64) * k) (d * k))), .second, .val (.int (p4 &&& (3 : Int32))), .val (.double (sav (0 : Int64) d)), .second, .val (.double (4607182418800017408 : UInt64)), .second, .val (.int (1 : Int32))] [(.int (1 : Int32))])) := fun tgt ktg => pre_40 tgt (by
            show Steps p.tables e below (T_24.setTop (mkF m 238 #[.val (.int p0), .val (.int p1), .val (.int p2), .val (.int p3), .val (.int p4), .val (.long d), .second, .val (.long k), .second, .val (.double (sav (p0.toInt64) d)), .second, .val (.double (sav (p1.toInt64) d)), .second, .val (.double (sav ((p0.toInt64) * k) (d * k))), .second, .val (.int (p4 &&& (3 : Int32))), .val (.double (sav (0 : Int64) d)), .second, .val (.double (4607182418800017408 : UInt64)), .second, .val (.int (1 : Int32))] [])) _
            refine XS.iload Xw_24.here hx rfl (hb hby at_238) rfl ?_
            show Steps p.tables e below (T_24.setTop (mkF m 240 #[.val (.int p0), .val (.int p1), .val (.int p2), .val (.int p3), .val (.int p4), .val (.long d), .second, .val (.long k), .second, .val (.double (sav (p0.toInt64) d)), .second, .val (.double (sav (p1.toInt64) d)), .second, .val (.double (sav ((p0.toInt64) * k) (d * k))), .second, .val (.int (p4 &&& (3 : Int32))), .val (.double (sav (0 : Int64) d)), .second, .val (.double (4607182418800017408 : UInt64)), .second, .val (.int (1 : Int32))] [(.int (1 : Int32))])) _
            refine XS.ifNo Xw_24.here hx rfl (hb hby at_240) rfl ((if0 _ _).trans (feq (by decide : ¬ ((1 : Int32) = (0 : Int32)))).1) ?_
            show Steps p.tables e below (T_24.setTop (mkF m 243 #[.val (.int p0), .val (.int p1), .val (.int p2), .val (.int p3), .val (.int p4), .val (.long d), .second, .val (.long k), .second, .val (.double (sav (p0.toInt64) d)), .second, .val (.double (sav (p1.toInt64) d)), .second, .val (.double (sav ((p0.toInt64) * k) (d * k))), .second, .val (.int (p4 &&& (3 : Int32))), .val (.double (sav (0 : Int64) d)), .second, .val (.double (4607182418800017408 : UInt64)), .second, .val (.int (1 : Int32))] [])) _
            refine XS.dload Xw_24.here hx rfl (hb hby at_243) rfl ?_
            show Steps p.tables e below (T_24.setTop (mkF m 245 #[.val (.int p0), .val (.int p1), .val (.int p2), .val (.int p3), .val (.int p4), .val (.long d), .second, .val (.long k), .second, .val (.double (sav (p0.toInt64) d)), .second, .val (.double (sav (p1.toInt64) d)), .second, .val (.double (sav ((p0.toInt64) * k) (d * k))), .second, .val (.int (p4 &&& (3 : Int32))), .val (.double (sav (0 : Int64) d)), .second, .val (.double (4607182418800017408 : UInt64)), .second, .val (.int (1 : Int32))] [(.double (sav (p0.toInt64) d))])) _
            refine XS.dconst0 Xw_24.here hx rfl (hb hby at_245) (v := (0 : UInt64)) own_dc0 ?_
            show Steps p.tables e below (T_24.setTop (mkF m 246 #[.val (.int p0), .val (.int p1), .val (.int p2), .val (.int p3), .val (.int p4), .val (.long d), .second, .val (.long k), .second, .val (.double (sav (p0.toInt64) d)), .second, .val (.double (sav (p1.toInt64) d)), .second, .val (.double (sav ((p0.toInt64) * k) (d * k))), .second, .val (.int (p4 &&& (3 : Int32))), .val (.double (sav (0 : Int64) d)), .second, .val (.double (4607182418800017408 : UInt64)), .second, .val (.int (1 : Int32))] [(.double (0 : UInt64)), (.double (sav (p0.toInt64) d))])) _
            refine XS.dcmpS Xw_24.here hx rfl (hb hby at_246) rfl rfl ?_
            show Steps p.tables e below (T_24.setTop (mkF m 247 #[.val (.int p0), .val (.int p1), .val (.int p2), .val (.int p3), .val (.int p4), .val (.long d), .second, .val (.long k), .second, .val (.double (sav (p0.toInt64) d)), .second, .val (.double (sav (p1.toInt64) d)), .second, .val (.double (sav ((p0.toInt64) * k) (d * k))), .second, .val (.int (p4 &&& (3 : Int32))), .val (.double (sav (0 : Int64) d)), .second, .val (.double (4607182418800017408 : UInt64)), .second, .val (.int (1 : Int32))] [(.int (cmpValue (FP.dcmp (sav (p0.toInt64) d) (0 : UInt64)) .l))])) _
            refine XS.ifNo Xw_24.here hx rfl (hb hby at_247) rfl ((if0 _ _).trans (flt (own_nl hr.1)).1) ?_
            show Steps p.tables e below (T_24.setTop (mkF m 250 #[.val (.int p0), .val (.int p1), .val (.int p2), .val (.int p3), .val (.int p4), .val (.long d), .second, .val (.long k), .second, .val (.double (sav (p0.toInt64) d)), .second, .val (.double (sav (p1.toInt64) d)), .second, .val (.double (sav ((p0.toInt64) * k) (d * k))), .second, .val (.int (p4 &&& (3 : Int32))), .val (.double (sav (0 : Int64) d)), .second, .val (.double (4607182418800017408 : UInt64)), .second, .val (.int (1 : Int32))] [])) _
            refine XS.dload Xw_24.here hx rfl (hb hby at_250) rfl ?_
            show Steps p.tables e below (T_24.setTop (mkF m 252 #[.val (.int p0), .val (.int p1), .val (.int p2), .val (.int p3), .val (.int p4), .val (.long d), .second, .val (.long k), .second, .val (.double (sav (p0.toInt64) d)), .second, .val (.double (sav (p1.toInt64) d)), .second, .val (.double (sav ((p0.toInt64) * k) (d * k))), .second, .val (.int (p4 &&& (3 : Int32))), .val (.double (sav (0 : Int64) d)), .second, .val (.double (4607182418800017408 : UInt64)), .second, .val (.int (1 : Int32))] [(.double (sav (p0.toInt64) d))])) _
            refine XS.dconst1 Xw_24.here hx rfl (hb hby at_252) (v := (4607182418800017408 : UInt64)) own_dc1 ?_
            show Steps p.tables e below (T_24.setTop (mkF m 253 #[.val (.int p0), .val (.int p1), .val (.int p2), .val (.int p3), .val (.int p4), .val (.long d), .second, .val (.long k), .second, .val (.double (sav (p0.toInt64) d)), .second, .val (.double (sav (p1.toInt64) d)), .second, .val (.double (sav ((p0.toInt64) * k) (d * k))), .second, .val (.int (p4 &&& (3 : Int32))), .val (.double (sav (0 : Int64) d)), .second, .val (.double (4607182418800017408 : UInt64)), .second, .val (.int (1 : Int32))] [(.double (4607182418800017408 : UInt64)), (.double (sav (p0.toInt64) d))])) _
            refine XS.dcmpS Xw_24.here hx rfl (hb hby at_253) rfl rfl ?_
            show Steps p.tables e below (T_24.setTop (mkF m 254 #[.val (.int p0), .val (.int p1), .val (.int p2), .val (.int p3), .val (.int p4), .val (.long d), .second, .val (.long k), .second, .val (.double (sav (p0.toInt64) d)), .second, .val (.double (sav (p1.toInt64) d)), .second, .val (.double (sav ((p0.toInt64) * k) (d * k))), .second, .val (.int (p4 &&& (3 : Int32))), .val (.double (sav (0 : Int64) d)), .second, .val (.double (4607182418800017408 : UInt64)), .second, .val (.int (1 : Int32))] [(.int (cmpValue (FP.dcmp (sav (p0.toInt64) d) (4607182418800017408 : UInt64)) .g))])) _
            refine XS.ifNo Xw_24.here hx rfl (hb hby at_254) rfl ((if0 _ _).trans (flt (own_ng hr.2)).2.2.1) ?_
            show Steps p.tables e below (T_24.setTop (mkF m 257 #[.val (.int p0), .val (.int p1), .val (.int p2), .val (.int p3), .val (.int p4), .val (.long d), .second, .val (.long k), .second, .val (.double (sav (p0.toInt64) d)), .second, .val (.double (sav (p1.toInt64) d)), .second, .val (.double (sav ((p0.toInt64) * k) (d * k))), .second, .val (.int (p4 &&& (3 : Int32))), .val (.double (sav (0 : Int64) d)), .second, .val (.double (4607182418800017408 : UInt64)), .second, .val (.int (1 : Int32))] [])) _
            refine XS.iconst Xw_24.here hx rfl (hb hby at_257) ?_
            show Steps p.tables e below (T_24.setTop (mkF m 258 #[.val (.int p0), .val (.int p1), .val (.int p2), .val (.int p3), .val (.int p4), .val (.long d), .second, .val (.long k), .second, .val (.double (sav (p0.toInt64) d)), .second, .val (.double (sav (p1.toInt64) d)), .second, .val (.double (sav ((p0.toInt64) * k) (d * k))), .second, .val (.int (p4 &&& (3 : Int32))), .val (.double (sav (0 : Int64) d)), .second, .val (.double (4607182418800017408 : UInt64)), .second, .val (.int (1 : Int32))] [(.int (1 : Int32))])) _
            refine XS.goto Xw_24.here hx rfl (pc0 := 258) (pc' := 262) rfl (hb hby at_258) (by decide) (by decide) ?_
            show Steps p.tables e below (T_24.setTop (mkF m 262 #[.val (.int p0), .val (.int p1), .val (.int p2), .val (.int p3), .val (.int p4), .val (.long d), .second, .val (.long k), .second, .val (.double (sav (p0.toInt64) d)), .second, .val (.double (sav (p1.toInt64) d)), .second, .val (.double (sav ((p0.toInt64) * k) (d * k))), .second, .val (.int (p4 &&& (3 : Int32))), .val (.double (sav (0 : Int64) d)), .second, .val (.double (4607182418800017408 : UInt64)), .second, .val (.int (1 : Int32))] [(.int (1 : Int32))])) _
            refine XS.istore Xw_24.here hx rfl (hb hby at_262) rfl (l' := #[.val (.int p0), .val (.int p1), .val (.int p2), .val (.int p3), .val (.int p4), .val (.long d), .second, .val (.long k), .second, .val (.double (sav (p0.toInt64) d)), .second, .val (.double (sav (p1.toInt64) d)), .second, .val (.double (sav ((p0.toInt64) * k) (d * k))), .second, .val (.int (p4 &&& (3 : Int32))), .val (.double (sav (0 : Int64) d)), .second, .val (.double (4607182418800017408 : UInt64)), .second, .val (.int (1 : Int32))]) rfl ?_
            show Steps p.tables e below (T_24.setTop (mkF m 264 #[.val (.int p0), .val (.int p1), .val (.int p2), .val (.int p3), .val (.int p4), .val (.long d), .second, .val (.long k), .second, .val (.double (sav (p0.toInt64) d)), .second, .val (.double (sav (p1.toInt64) d)), .second, .val (.double (sav ((p0.toInt64) * k) (d * k))), .second, .val (.int (p4 &&& (3 : Int32))), .val (.double (sav (0 : Int64) d)), .second, .val (.double (4607182418800017408 : UInt64)), .second, .val (.int (1 : Int32))] [])) _
            refine XS.iload Xw_24.here hx rfl (hb hby at_264) rfl ?_
            exact ktg)
          obtain ⟨fs, hr, hrun, hended, hW⟩ := Xw_24.leaveW hS_24 hk_24 (v := some (.int (1 : Int32))) (fun h => by rw [Bd.returns] at h; cases h)
          refine ⟨_, _, pre_41 _ ?_, hrun, hended, _, _, rfl, ?_, ?_, hW.1, hW.2.1, hW.2.2.1, hW.2.2.2.mono (by decide) (by decide)⟩
          · show Steps p.tables e below (T_24.setTop (mkF m 266 #[.val (.int p0), .val (.int p1), .val (.int p2), .val (.int p3), .val (.int p4), .val (.long d), .second, .val (.long k), .second, .val (.double (sav (p0.toInt64) d)), .second, .val (.double (sav (p1.toInt64) d)), .second, .val (.double (sav ((p0.toInt64) * k) (d * k))), .second, .val (.int (p4 &&& (3 : Int32))), .val (.double (sav (0 : Int64) d)), .second, .val (.double (4607182418800017408 : UInt64)), .second, .val (.int (1 : Int32))] [(.int (1 : Int32))])) _
            exact retN Xw_24 hx (t := .boolean) Bd.returns (by simp) (hb hby at_266) hr
          · show Q0 Z p0 p1 p2 p3 p4 h0 n0 _ T_24.heap _
            exact ⟨rfl, N_25⟩
          · show CHr Z consts_1 s.vm s.heap T_24.vm T_24.heap
            rw [hh]
            exact C_26.trans (CHv.at Xw_24 hZ hEL C_26.1)
    · skip
      have pre_42 : Rch p.tables e below (s₁.setTop (entryFrame m #[(.int p0), (.int p1), (.int p2), (.int p3), (.int p4)] maxLocals)) (T_24.setTop (mkF m 183 #[.val (.int p0), .val (.int p1), .val (.int p2), .val (.int p3), .val (.int p4), .val (.long d), .second, .val (.long k), .second, .val (.double (sav (p0.toInt64) d)), .second, .val (.double (sav (p1.toInt64) d)), .second, .val (.double (sav ((p0.toInt64) * k) (d * k))), .second, .val (.int (p4 &&& (3 : Int32))), .val (.double (sav (0 : Int64) d)), .second, .val (.double (4607182418800017408 : UInt64)), .second, .val (.int (1 : Int32))] [])) := fun tgt ktg => pre_28 tgt (by
        show Steps p.tables e below (T_24.setTop (mkF m 180 #[.val (.int p0), .val (.int p1), .val (.int p2), .val (.int p3), .val (.int p4), .val (.long d), .second, .val (.long k), .second, .val (.double (sav (p0.toInt64) d)), .second, .val (.double (sav (p1.toInt64) d)), .second, .val (.double (sav ((p0.toInt64) * k) (d * k))), .second, .val (.int (p4 &&& (3 : Int32))), .val (.double (sav (0 : Int64) d)), .second, .val (.double (4607182418800017408 : UInt64)), .second, .val (.int (1 : Int32))] [(.int p1), (.int p0)])) _
        refine XS.icmpNo Xw_24.here hx rfl (hb hby at_180) rfl (flt c_29).2.2.1 ?_
        exact ktg)
      have pre_43 : Rch p.tables e below (s₁.setTop (entryFrame m #[(.int p0), (.int p1), (.int p2), (.int p3), (.int p4)] maxLocals)) (T_24.setTop (mkF m 227 #[.val (.int p0), .val (.int p1), .val (.int p2), .val (.int p3), .val (.int p4), .val (.long d), .second, .val (.long k), .second, .val (.double (sav (p0.toInt64) d)), .second, .val (.double (sav (p1.toInt64) d)), .second, .val (.double (sav ((p0.toInt64) * k) (d * k))), .second, .val (.int (p4 &&& (3 : Int32))), .val (.double (sav (0 : Int64) d)), .second, .val (.double (4607182418800017408 : UInt64)), .second, .val (.int (1 : Int32))] [(.int p0)])) := fun tgt ktg => pre_42 tgt (by
        show Steps p.tables e below (T_24.setTop (mkF m 183 #[.val (.int p0), .val (.int p1), .val (.int p2), .val (.int p3), .val (.int p4), .val (.long d), .second, .val (.long k), .second, .val (.double (sav (p0.toInt64) d)), .second, .val (.double (sav (p1.toInt64) d)), .second, .val (.double (sav ((p0.toInt64) * k) (d * k))), .second, .val (.int (p4 &&& (3 : Int32))), .val (.double (sav (0 : Int64) d)), .second, .val (.double (4607182418800017408 : UInt64)), .second, .val (.int (1 : Int32))] [])) _
        refine XS.iload Xw_24.here hx rfl (hb hby at_183) rfl ?_
        show Steps p.tables e below (T_24.setTop (mkF m 185 #[.val (.int p0), .val (.int p1), .val (.int p2), .val (.int p3), .val (.int p4), .val (.long d), .second, .val (.long k), .second, .val (.double (sav (p0.toInt64) d)), .second, .val (.double (sav (p1.toInt64) d)), .second, .val (.double (sav ((p0.toInt64) * k) (d * k))), .second, .val (.int (p4 &&& (3 : Int32))), .val (.double (sav (0 : Int64) d)), .second, .val (.double (4607182418800017408 : UInt64)), .second, .val (.int (1 : Int32))] [(.int (1 : Int32))])) _
        refine XS.ifNo Xw_24.here hx rfl (hb hby at_185) rfl ((if0 _ _).trans (feq (by decide : ¬ ((1 : Int32) = (0 : Int32)))).1) ?_
        show Steps p.tables e below (T_24.setTop (mkF m 188 #[.val (.int p0), .val (.int p1), .val (.int p2), .val (.int p3), .val (.int p4), .val (.long d), .second, .val (.long k), .second, .val (.double (sav (p0.toInt64) d)), .second, .val (.double (sav (p1.toInt64) d)), .second, .val (.double (sav ((p0.toInt64) * k) (d * k))), .second, .val (.int (p4 &&& (3 : Int32))), .val (.double (sav (0 : Int64) d)), .second, .val (.double (4607182418800017408 : UInt64)), .second, .val (.int (1 : Int32))] [])) _
        refine XS.dload Xw_24.here hx rfl (hb hby at_188) rfl ?_
        show Steps p.tables e below (T_24.setTop (mkF m 190 #[.val (.int p0), .val (.int p1), .val (.int p2), .val (.int p3), .val (.int p4), .val (.long d), .second, .val (.long k), .second, .val (.double (sav (p0.toInt64) d)), .second, .val (.double (sav (p1.toInt64) d)), .second, .val (.double (sav ((p0.toInt64) * k) (d * k))), .second, .val (.int (p4 &&& (3 : Int32))), .val (.double (sav (0 : Int64) d)), .second, .val (.double (4607182418800017408 : UInt64)), .second, .val (.int (1 : Int32))] [(.double (sav (p0.toInt64) d))])) _
        refine XS.dload Xw_24.here hx rfl (hb hby at_190) rfl ?_
        show Steps p.tables e below (T_24.setTop (mkF m 192 #[.val (.int p0), .val (.int p1), .val (.int p2), .val (.int p3), .val (.int p4), .val (.long d), .second, .val (.long k), .second, .val (.double (sav (p0.toInt64) d)), .second, .val (.double (sav (p1.toInt64) d)), .second, .val (.double (sav ((p0.toInt64) * k) (d * k))), .second, .val (.int (p4 &&& (3 : Int32))), .val (.double (sav (0 : Int64) d)), .second, .val (.double (4607182418800017408 : UInt64)), .second, .val (.int (1 : Int32))] [(.double (sav (p1.toInt64) d)), (.double (sav (p0.toInt64) d))])) _
        refine XS.dcmpS Xw_24.here hx rfl (hb hby at_192) rfl rfl ?_
        show Steps p.tables e below (T_24.setTop (mkF m 193 #[.val (.int p0), .val (.int p1), .val (.int p2), .val (.int p3), .val (.int p4), .val (.long d), .second, .val (.long k), .second, .val (.double (sav (p0.toInt64) d)), .second, .val (.double (sav (p1.toInt64) d)), .second, .val (.double (sav ((p0.toInt64) * k) (d * k))), .second, .val (.int (p4 &&& (3 : Int32))), .val (.double (sav (0 : Int64) d)), .second, .val (.double (4607182418800017408 : UInt64)), .second, .val (.int (1 : Int32))] [(.int (cmpValue (FP.dcmp (sav (p0.toInt64) d) (sav (p1.toInt64) d)) .l))])) _
        refine XS.ifNo Xw_24.here hx rfl (hb hby at_193) rfl ((if0 _ _).trans (flt (own_nl (own_mo (own_cn p0) (own_cn p1) Hd (by rw [own_b, own_b]; exact Int.not_lt.mp (fun q => c_29 (Int32.lt_iff_toInt_lt.mpr q)))))).1) ?_
        show Steps p.tables e below (T_24.setTop (mkF m 196 #[.val (.int p0), .val (.int p1), .val (.int p2), .val (.int p3), .val (.int p4), .val (.long d), .second, .val (.long k), .second, .val (.double (sav (p0.toInt64) d)), .second, .val (.double (sav (p1.toInt64) d)), .second, .val (.double (sav ((p0.toInt64) * k) (d * k))), .second, .val (.int (p4 &&& (3 : Int32))), .val (.double (sav (0 : Int64) d)), .second, .val (.double (4607182418800017408 : UInt64)), .second, .val (.int (1 : Int32))] [])) _
        refine XS.iconst Xw_24.here hx rfl (hb hby at_196) ?_
        show Steps p.tables e below (T_24.setTop (mkF m 197 #[.val (.int p0), .val (.int p1), .val (.int p2), .val (.int p3), .val (.int p4), .val (.long d), .second, .val (.long k), .second, .val (.double (sav (p0.toInt64) d)), .second, .val (.double (sav (p1.toInt64) d)), .second, .val (.double (sav ((p0.toInt64) * k) (d * k))), .second, .val (.int (p4 &&& (3 : Int32))), .val (.double (sav (0 : Int64) d)), .second, .val (.double (4607182418800017408 : UInt64)), .second, .val (.int (1 : Int32))] [(.int (1 : Int32))])) _
        refine XS.goto Xw_24.here hx rfl (pc0 := 197) (pc' := 201) rfl (hb hby at_197) (by decide) (by decide) ?_
        show Steps p.tables e below (T_24.setTop (mkF m 201 #[.val (.int p0), .val (.int p1), .val (.int p2), .val (.int p3), .val (.int p4), .val (.long d), .second, .val (.long k), .second, .val (.double (sav (p0.toInt64) d)), .second, .val (.double (sav (p1.toInt64) d)), .second, .val (.double (sav ((p0.toInt64) * k) (d * k))), .second, .val (.int (p4 &&& (3 : Int32))), .val (.double (sav (0 : Int64) d)), .second, .val (.double (4607182418800017408 : UInt64)), .second, .val (.int (1 : Int32))] [(.int (1 : Int32))])) _
        refine XS.istore Xw_24.here hx rfl (hb hby at_201) rfl (l' := #[.val (.int p0), .val (.int p1), .val (.int p2), .val (.int p3), .val (.int p4), .val (.long d), .second, .val (.long k), .second, .val (.double (sav (p0.toInt64) d)), .second, .val (.double (sav (p1.toInt64) d)), .second, .val (.double (sav ((p0.toInt64) * k) (d * k))), .second, .val (.int (p4 &&& (3 : Int32))), .val (.double (sav (0 : Int64) d)), .second, .val (.double (4607182418800017408 : UInt64)), .second, .val (.int (1 : Int32))]) rfl ?_
        show Steps p.tables e below (T_24.setTop (mkF m 203 #[.val (.int p0), .val (.int p1), .val (.int p2), .val (.int p3), .val (.int p4), .val (.long d), .second, .val (.long k), .second, .val (.double (sav (p0.toInt64) d)), .second, .val (.double (sav (p1.toInt64) d)), .second, .val (.double (sav ((p0.toInt64) * k) (d * k))), .second, .val (.int (p4 &&& (3 : Int32))), .val (.double (sav (0 : Int64) d)), .second, .val (.double (4607182418800017408 : UInt64)), .second, .val (.int (1 : Int32))] [])) _
        refine XS.goto Xw_24.here hx rfl (pc0 := 203) (pc' := 226) rfl (hb hby at_203) (by decide) (by decide) ?_
        show Steps p.tables e below (T_24.setTop (mkF m 226 #[.val (.int p0), .val (.int p1), .val (.int p2), .val (.int p3), .val (.int p4), .val (.long d), .second, .val (.long k), .second, .val (.double (sav (p0.toInt64) d)), .second, .val (.double (sav (p1.toInt64) d)), .second, .val (.double (sav ((p0.toInt64) * k) (d * k))), .second, .val (.int (p4 &&& (3 : Int32))), .val (.double (sav (0 : Int64) d)), .second, .val (.double (4607182418800017408 : UInt64)), .second, .val (.int (1 : Int32))] [])) _
        refine XS.iloadN Xw_24.here hx rfl (hb hby at_226) rfl ?_
        exact ktg)
      by_cases c_44 : p0 < (0 : Int32)
      · skip
        have pre_45 : Rch p.tables e below (s₁.setTop (entryFrame m #[(.int p0), (.int p1), (.int p2), (.int p3), (.int p4)] maxLocals)) (T_24.setTop (mkF m 264 #[.val (.int p0), .val (.int p1), .val (.int p2), .val (.int p3), .val (.int p4), .val (.long d), .second, .val (.long k), .second, .val (.double (sav (p0.toInt64) d)), .second, .val (.double (sav (p1.toInt64) d)), .second, .val (.double (sav ((p0.toInt64) * k) (d * k))), .second, .val (.int (p4 &&& (3 : Int32))), .val (.double (sav (0 : Int64) d)), .second, .val (.double (4607182418800017408 : UInt64)), .second, .val (.int (1 : Int32))] [])) := fun tgt ktg => pre_43 tgt (by
          show Steps p.tables e below (T_24.setTop (mkF m 227 #[.val (.int p0), .val (.int p1), .val (.int p2), .val (.int p3), .val (.int p4), .val (.long d), .second, .val (.long k), .second, .val (.double (sav (p0.toInt64) d)), .second, .val (.double (sav (p1.toInt64) d)), .second, .val (.double (sav ((p0.toInt64) * k) (d * k))), .second, .val (.int (p4 &&& (3 : Int32))), .val (.double (sav (0 : Int64) d)), .second, .val (.double (4607182418800017408 : UInt64)), .second, .val (.int (1 : Int32))] [(.int p0)])) _
          refine XS.ifYes Xw_24.here hx rfl (pc0 := 227) (pc' := 264) rfl (hb hby at_227) rfl ((if0 _ _).trans (tlt c_44).1) (by decide) (by decide) ?_
          exact ktg)
        have pre_46 : Rch p.tables e below (s₁.setTop (entryFrame m #[(.int p0), (.int p1), (.int p2), (.int p3), (.int p4)] maxLocals)) (T_24.setTop (mkF m 266 #[.val (.int p0), .val (.int p1), .val (.int p2), .val (.int p3), .val (.int p4), .val (.long d), .second, .val (.long k), .second, .val (.double (sav (p0.toInt64) d)), .second, .val (.double (sav (p1.toInt64) d)), .second, .val (.double (sav ((p0.toInt64) * k) (d * k))), .second, .val (.int (p4 &&& (3 : Int32))), .val (.double (sav (0 : Int64) d)), .second, .val (.double (4607182418800017408 : UInt64)), .second, .val (.int (1 : Int32))] [(.int (1 : Int32))])) := fun tgt ktg => pre_45 tgt (by
          show Steps p.tables e below (T_24.setTop (mkF m 264 #[.val (.int p0), .val (.int p1), .val (.int p2), .val (.int p3), .val (.int p4), .val (.long d), .second, .val (.long k), .second, .val (.double (sav (p0.toInt64) d)), .second, .val (.double (sav (p1.toInt64) d)), .second, .val (.double (sav ((p0.toInt64) * k) (d * k))), .second, .val (.int (p4 &&& (3 : Int32))), .val (.double (sav (0 : Int64) d)), .second, .val (.double (4607182418800017408 : UInt64)), .second, .val (.int (1 : Int32))] [])) _
          refine XS.iload Xw_24.here hx rfl (hb hby at_264) rfl ?_
          exact ktg)
        obtain ⟨fs, hr, hrun, hended, hW⟩ := Xw_24.leaveW hS_24 hk_24 (v := some (.int (1 : Int32))) (fun h => by rw [Bd.returns] at h; cases h)
        refine ⟨_, _, pre_46 _ ?_, hrun, hended, _, _, rfl, ?_, ?_, hW.1, hW.2.1, hW.2.2.1, hW.2.2.2.mono (by decide) (by decide)⟩
        · show Steps p.tables e below (T_24.setTop (mkF m 266 #[.val (.int p0), .val (.int p1), .val (.int p2), .val (.int p3), .val (.int p4), .val (.long d), .second, .val (.long k), .second, .val (.double (sav (p0.toInt64) d)), .second, .val (.double (sav (p1.toInt64) d)), .second, .val (.double (sav ((p0.toInt64) * k) (d * k))), .second, .val (.int (p4 &&& (3 : Int32))), .val (.double (sav (0 : Int64) d)), .second, .val (.double (4607182418800017408 : UInt64)), .second, .val (.int (1 : Int32))] [(.int (1 : Int32))])) _
          exact retN Xw_24 hx (t := .boolean) Bd.returns (by simp) (hb hby at_266) hr
        · show Q0 Z p0 p1 p2 p3 p4 h0 n0 _ T_24.heap _
          exact ⟨rfl, N_25⟩
        · show CHr Z consts_1 s.vm s.heap T_24.vm T_24.heap
          rw [hh]
          exact C_26.trans (CHv.at Xw_24 hZ hEL C_26.1)
      · skip
        have pre_47 : Rch p.tables e below (s₁.setTop (entryFrame m #[(.int p0), (.int p1), (.int p2), (.int p3), (.int p4)] maxLocals)) (T_24.setTop (mkF m 230 #[.val (.int p0), .val (.int p1), .val (.int p2), .val (.int p3), .val (.int p4), .val (.long d), .second, .val (.long k), .second, .val (.double (sav (p0.toInt64) d)), .second, .val (.double (sav (p1.toInt64) d)), .second, .val (.double (sav ((p0.toInt64) * k) (d * k))), .second, .val (.int (p4 &&& (3 : Int32))), .val (.double (sav (0 : Int64) d)), .second, .val (.double (4607182418800017408 : UInt64)), .second, .val (.int (1 : Int32))] [])) := fun tgt ktg => pre_43 tgt (by
          show Steps p.tables e below (T_24.setTop (mkF m 227 #[.val (.int p0), .val (.int p1), .val (.int p2), .val (.int p3), .val (.int p4), .val (.long d), .second, .val (.long k), .second, .val (.double (sav (p0.toInt64) d)), .second, .val (.double (sav (p1.toInt64) d)), .second, .val (.double (sav ((p0.toInt64) * k) (d * k))), .second, .val (.int (p4 &&& (3 : Int32))), .val (.double (sav (0 : Int64) d)), .second, .val (.double (4607182418800017408 : UInt64)), .second, .val (.int (1 : Int32))] [(.int p0)])) _
          refine XS.ifNo Xw_24.here hx rfl (hb hby at_227) rfl ((if0 _ _).trans (flt c_44).1) ?_
          exact ktg)
        have pre_48 : Rch p.tables e below (s₁.setTop (entryFrame m #[(.int p0), (.int p1), (.int p2), (.int p3), (.int p4)] maxLocals)) (T_24.setTop (mkF m 235 #[.val (.int p0), .val (.int p1), .val (.int p2), .val (.int p3), .val (.int p4), .val (.long d), .second, .val (.long k), .second, .val (.double (sav (p0.toInt64) d)), .second, .val (.double (sav (p1.toInt64) d)), .second, .val (.double (sav ((p0.toInt64) * k) (d * k))), .second, .val (.int (p4 &&& (3 : Int32))), .val (.double (sav (0 : Int64) d)), .second, .val (.double (4607182418800017408 : UInt64)), .second, .val (.int (1 : Int32))] [(.int (XT.cmpL (p0.toInt64) d))])) := fun tgt ktg => pre_47 tgt (by
          show Steps p.tables e below (T_24.setTop (mkF m 230 #[.val (.int p0), .val (.int p1), .val (.int p2), .val (.int p3), .val (.int p4), .val (.long d), .second, .val (.long k), .second, .val (.double (sav (p0.toInt64) d)), .second, .val (.double (sav (p1.toInt64) d)), .second, .val (.double (sav ((p0.toInt64) * k) (d * k))), .second, .val (.int (p4 &&& (3 : Int32))), .val (.double (sav (0 : Int64) d)), .second, .val (.double (4607182418800017408 : UInt64)), .second, .val (.int (1 : Int32))] [])) _
          refine XS.iloadN Xw_24.here hx rfl (hb hby at_230) rfl ?_
          show Steps p.tables e below (T_24.setTop (mkF m 231 #[.val (.int p0), .val (.int p1), .val (.int p2), .val (.int p3), .val (.int p4), .val (.long d), .second, .val (.long k), .second, .val (.double (sav (p0.toInt64) d)), .second, .val (.double (sav (p1.toInt64) d)), .second, .val (.double (sav ((p0.toInt64) * k) (d * k))), .second, .val (.int (p4 &&& (3 : Int32))), .val (.double (sav (0 : Int64) d)), .second, .val (.double (4607182418800017408 : UInt64)), .second, .val (.int (1 : Int32))] [(.int p0)])) _
          refine XT.i2l Xw_24.here hx rfl (hb hby at_231) rfl ?_
          show Steps p.tables e below (T_24.setTop (mkF m 232 #[.val (.int p0), .val (.int p1), .val (.int p2), .val (.int p3), .val (.int p4), .val (.long d), .second, .val (.long k), .second, .val (.double (sav (p0.toInt64) d)), .second, .val (.double (sav (p1.toInt64) d)), .second, .val (.double (sav ((p0.toInt64) * k) (d * k))), .second, .val (.int (p4 &&& (3 : Int32))), .val (.double (sav (0 : Int64) d)), .second, .val (.double (4607182418800017408 : UInt64)), .second, .val (.int (1 : Int32))] [(.long (p0.toInt64))])) _
          refine XT.lload Xw_24.here hx rfl (hb hby at_232) rfl ?_
          show Steps p.tables e below (T_24.setTop (mkF m 234 #[.val (.int p0), .val (.int p1), .val (.int p2), .val (.int p3), .val (.int p4), .val (.long d), .second, .val (.long k), .second, .val (.double (sav (p0.toInt64) d)), .second, .val (.double (sav (p1.toInt64) d)), .second, .val (.double (sav ((p0.toInt64) * k) (d * k))), .second, .val (.int (p4 &&& (3 : Int32))), .val (.double (sav (0 : Int64) d)), .second, .val (.double (4607182418800017408 : UInt64)), .second, .val (.int (1 : Int32))] [(.long d), (.long (p0.toInt64))])) _
          refine XT.lcmp Xw_24.here hx rfl (hb hby at_234) rfl ?_
          exact ktg)
        by_cases c_49 : (0 : Int32) < (XT.cmpL (p0.toInt64) d)
        · skip
          have pre_50 : Rch p.tables e below (s₁.setTop (entryFrame m #[(.int p0), (.int p1), (.int p2), (.int p3), (.int p4)] maxLocals)) (T_24.setTop (mkF m 264 #[.val (.int p0), .val (.int p1), .val (.int p2), .val (.int p3), .val (.int p4), .val (.long d), .second, .val (.long k), .second, .val (.double (sav (p0.toInt64) d)), .second, .val (.double (sav (p1.toInt64) d)), .second, .val (.double (sav ((p0.toInt64) * k) (d * k))), .second, .val (.int (p4 &&& (3 : Int32))), .val (.double (sav (0 : Int64) d)), .second, .val (.double (4607182418800017408 : UInt64)), .second, .val (.int (1 : Int32))] [])) := fun tgt ktg => pre_48 tgt (by
            show Steps p.tables e below (T_24.setTop (mkF m 235 #[.val (.int p0), .val (.int p1), .val (.int p2), .val (.int p3), .val (.int p4), .val (.long d), .second, .val (.long k), .second, .val (.double (sav (p0.toInt64) d)), .second, .val (.double (sav (p1.toInt64) d)), .second, .val (.double (sav ((p0.toInt64) * k) (d * k))), .second, .val (.int (p4 &&& (3 : Int32))), .val (.double (sav (0 : Int64) d)), .second, .val (.double (4607182418800017408 : UInt64)), .second, .val (.int (1 : Int32))] [(.int (XT.cmpL (p0.toInt64) d))])) _
            refine XS.ifYes Xw_24.here hx rfl (pc0 := 235) (pc' := 264) rfl (hb hby at_235) rfl ((if0 _ _).trans (tlt c_49).2.2.1) (by decide) (by decide) ?_
            exact ktg)
          have pre_51 : Rch p.tables e below (s₁.setTop (entryFrame m #[(.int p0), (.int p1), (.int p2), (.int p3), (.int p4)] maxLocals)) (T_24.setTop (mkF m 266 #[.val (.int p0), .val (.int p1), .val (.int p2), .val (.int p3), .val (.int p4), .val (.long d), .second, .val (.long k), .second, .val (.double (sav (p0.toInt64) d)), .second, .val (.double (sav (p1.toInt64) d)), .second, .val (.double (sav ((p0.toInt64) * k) (d * k))), .second, .val (.int (p4 &&& (3 : Int32))), .val (.double (sav (0 : Int64) d)), .second, .val (.double (4607182418800017408 : UInt64)), .second, .val (.int (1 : Int32))] [(.int (1 : Int32))])) := fun tgt ktg => pre_50 tgt (by
            show Steps p.tables e below (T_24.setTop (mkF m 264 #[.val (.int p0), .val (.int p1), .val (.int p2), .val (.int p3), .val (.int p4), .val (.long d), .second, .val (.long k), .second, .val (.double (sav (p0.toInt64) d)), .second, .val (.double (sav (p1.toInt64) d)), .second, .val (.double (sav ((p0.toInt64) * k) (d * k))), .second, .val (.int (p4 &&& (3 : Int32))), .val (.double (sav (0 : Int64) d)), .second, .val (.double (4607182418800017408 : UInt64)), .second, .val (.int (1 : Int32))] [])) _
            refine XS.iload Xw_24.here hx rfl (hb hby at_264) rfl ?_
            exact ktg)
          obtain ⟨fs, hr, hrun, hended, hW⟩ := Xw_24.leaveW hS_24 hk_24 (v := some (.int (1 : Int32))) (fun h => by rw [Bd.returns] at h; cases h)
          refine ⟨_, _, pre_51 _ ?_, hrun, hended, _, _, rfl, ?_, ?_, hW.1, hW.2.1, hW.2.2.1, hW.2.2.2.mono (by decide) (by decide)⟩
          · show Steps p.tables e below (T_24.setTop (mkF m 266 #[.val (.int p0), .val (.int p1), .val (.int p2), .val (.int p3), .val (.int p4), .val (.long d), .second, .val (.long k), .second, .val (.double (sav (p0.toInt64) d)), .second, .val (.double (sav (p1.toInt64) d)), .second, .val (.double (sav ((p0.toInt64) * k) (d * k))), .second, .val (.int (p4 &&& (3 : Int32))), .val (.double (sav (0 : Int64) d)), .second, .val (.double (4607182418800017408 : UInt64)), .second, .val (.int (1 : Int32))] [(.int (1 : Int32))])) _
            exact retN Xw_24 hx (t := .boolean) Bd.returns (by simp) (hb hby at_266) hr
          · show Q0 Z p0 p1 p2 p3 p4 h0 n0 _ T_24.heap _
            exact ⟨rfl, N_25⟩
          · show CHr Z consts_1 s.vm s.heap T_24.vm T_24.heap
            rw [hh]
            exact C_26.trans (CHv.at Xw_24 hZ hEL C_26.1)
        · skip
          have pre_52 : Rch p.tables e below (s₁.setTop (entryFrame m #[(.int p0), (.int p1), (.int p2), (.int p3), (.int p4)] maxLocals)) (T_24.setTop (mkF m 238 #[.val (.int p0), .val (.int p1), .val (.int p2), .val (.int p3), .val (.int p4), .val (.long d), .second, .val (.long k), .second, .val (.double (sav (p0.toInt64) d)), .second, .val (.double (sav (p1.toInt64) d)), .second, .val (.double (sav ((p0.toInt64) * k) (d * k))), .second, .val (.int (p4 &&& (3 : Int32))), .val (.double (sav (0 : Int64) d)), .second, .val (.double (4607182418800017408 : UInt64)), .second, .val (.int (1 : Int32))] [])) := fun tgt ktg => pre_48 tgt (by
            show Steps p.tables e below (T_24.setTop (mkF m 235 #[.val (.int p0), .val (.int p1), .val (.int p2), .val (.int p3), .val (.int p4), .val (.long d), .second, .val (.long k), .second, .val (.double (sav (p0.toInt64) d)), .second, .val (.double (sav (p1.toInt64) d)), .second, .val (.double (sav ((p0.toInt64) * k) (d * k))), .second, .val (.int (p4 &&& (3 : Int32))), .val (.double (sav (0 : Int64) d)), .second, .val (.double (4607182418800017408 : UInt64)), .second, .val (.int (1 : Int32))] [(.int (XT.cmpL (p0.toInt64) d))])) _
            refine XS.ifNo Xw_24.here hx rfl (hb hby at_235) rfl ((if0 _ _).trans (flt c_49).2.2.1) ?_
            exact ktg)
          have hr := own_r32 Hd c_44 c_49
          have pre_53 : Rch p.tables e below (s₁.setTop (entryFrame m #[(.int p0), (.int p1), (.int p2), (.int p3), (.int p4)] maxLocals)) (T_24.setTop (mkF m 266 #[.val (.int p0), .val (.int p1), .val (.int p2), .val (.int p3), .val (.int p4), .val (.long d), .second, .val (.long k), .second, .val (.double (sav (p0.toInt64) d)), .second, .val (.double (sav (p1.toInt64) d)), .second, .val (.double (sav ((p0.toInt64) * k) (d * k))), .second, .val (.int (p4 &&& (3 : Int32))), .val (.double (sav (0 : Int64) d)), .second, .val (.double (4607182418800017408 : UInt64)), .second, .val (.int (1 : Int32))] [(.int (1 : Int32))])) := fun tgt ktg => pre_52 tgt (by
            show Steps p.tables e below (T_24.setTop (mkF m 238 #[.val (.int p0), .val (.int p1), .val (.int p2), .val (.int p3), .val (.int p4), .val (.long d), .second, .val (.long k), .second, .val (.double (sav (p0.toInt64) d)), .second, .val (.double (sav (p1.toInt64) d)), .second, .val (.double (sav ((p0.toInt64) * k) (d * k))), .second, .val (.int (p4 &&& (3 : Int32))), .val (.double (sav (0 : Int64) d)), .second, .val (.double (4607182418800017408 : UInt64)), .second, .val (.int (1 : Int32))] [])) _
            refine XS.iload Xw_24.here hx rfl (hb hby at_238) rfl ?_
            show Steps p.tables e below (T_24.setTop (mkF m 240 #[.val (.int p0), .val (.int p1), .val (.int p2), .val (.int p3), .val (.int p4), .val (.long d), .second, .val (.long k), .second, .val (.double (sav (p0.toInt64) d)), .second, .val (.double (sav (p1.toInt64) d)), .second, .val (.double (sav ((p0.toInt64) * k) (d * k))), .second, .val (.int (p4 &&& (3 : Int32))), .val (.double (sav (0 : Int64) d)), .second, .val (.double (4607182418800017408 : UInt64)), .second, .val (.int (1 : Int32))] [(.int (1 : Int32))])) _
            refine XS.ifNo Xw_24.here hx rfl (hb hby at_240) rfl ((if0 _ _).trans (feq (by decide : ¬ ((1 : Int32) = (0 : Int32)))).1) ?_
            show Steps p.tables e below (T_24.setTop (mkF m 243 #[.val (.int p0), .val (.int p1), .val (.int p2), .val (.int p3), .val (.int p4), .val (.long d), .second, .val (.long k), .second, .val (.double (sav (p0.toInt64) d)), .second, .val (.double (sav (p1.toInt64) d)), .second, .val (.double (sav ((p0.toInt64) * k) (d * k))), .second, .val (.int (p4 &&& (3 : Int32))), .val (.double (sav (0 : Int64) d)), .second, .val (.double (4607182418800017408 : UInt64)), .second, .val (.int (1 : Int32))] [])) _
            refine XS.dload Xw_24.here hx rfl (hb hby at_243) rfl ?_
            show Steps p.tables e below (T_24.setTop (mkF m 245 #[.val (.int p0), .val (.int p1), .val (.int p2), .val (.int p3), .val (.int p4), .val (.long d), .second, .val (.long k), .second, .val (.double (sav (p0.toInt64) d)), .second, .val (.double (sav (p1.toInt64) d)), .second, .val (.double (sav ((p0.toInt64) * k) (d * k))), .second, .val (.int (p4 &&& (3 : Int32))), .val (.double (sav (0 : Int64) d)), .second, .val (.double (4607182418800017408 : UInt64)), .second, .val (.int (1 : Int32))] [(.double (sav (p0.toInt64) d))])) _
            refine XS.dconst0 Xw_24.here hx rfl (hb hby at_245) (v := (0 : UInt64)) own_dc0 ?_
            show Steps p.tables e below (T_24.setTop (mkF m 246 #[.val (.int p0), .val (.int p1), .val (.int p2), .val (.int p3), .val (.int p4), .val (.long d), .second, .val (.long k), .second, .val (.double (sav (p0.toInt64) d)), .second, .val (.double (sav (p1.toInt64) d)), .second, .val (.double (sav ((p0.toInt64) * k) (d * k))), .second, .val (.int (p4 &&& (3 : Int32))), .val (.double (sav (0 : Int64) d)), .second, .val (.double (4607182418800017408 : UInt64)), .second, .val (.int (1 : Int32))] [(.double (0 : UInt64)), (.double (sav (p0.toInt64) d))])) _
            refine XS.dcmpS Xw_24.here hx rfl (hb hby at_246) rfl rfl ?_
            show Steps p.tables e below (T_24.setTop (mkF m 247 #[.val (.int p0), .val (.int p1), .val (.int p2), .val (.int p3), .val (.int p4), .val (.long d), .second, .val (.long k), .second, .val (.double (sav (p0.toInt64) d)), .second, .val (.double (sav (p1.toInt64) d)), .second, .val (.double (sav ((p0.toInt64) * k) (d * k))), .second, .val (.int (p4 &&& (3 : Int32))), .val (.double (sav (0 : Int64) d)), .second, .val (.double (4607182418800017408 : UInt64)), .second, .val (.int (1 : Int32))] [(.int (cmpValue (FP.dcmp (sav (p0.toInt64) d) (0 : UInt64)) .l))])) _
            refine XS.ifNo Xw_24.here hx rfl (hb hby at_247) rfl ((if0 _ _).trans (flt (own_nl hr.1)).1) ?_
            show Steps p.tables e below (T_24.setTop (mkF m 250 #[.val (.int p0), .val (.int p1), .val (.int p2), .val (.int p3), .val (.int p4), .val (.long d), .second, .val (.long k), .second, .val (.double (sav (p0.toInt64) d)), .second, .val (.double (sav (p1.toInt64) d)), .second, .val (.double (sav ((p0.toInt64) * k) (d * k))), .second, .val (.int (p4 &&& (3 : Int32))), .val (.double (sav (0 : Int64) d)), .second, .val (.double (4607182418800017408 : UInt64)), .second, .val (.int (1 : Int32))] [])) _
            refine XS.dload Xw_24.here hx rfl (hb hby at_250) rfl ?_
            show Steps p.tables e below (T_24.setTop (mkF m 252 #[.val (.int p0), .val (.int p1), .val (.int p2), .val (.int p3), .val (.int p4), .val (.long d), .second, .val (.long k), .second, .val (.double (sav (p0.toInt64) d)), .second, .val (.double (sav (p1.toInt64) d)), .second, .val (.double (sav ((p0.toInt64) * k) (d * k))), .second, .val (.int (p4 &&& (3 : Int32))), .val (.double (sav (0 : Int64) d)), .second, .val (.double (4607182418800017408 : UInt64)), .second, .val (.int (1 : Int32))] [(.double (sav (p0.toInt64) d))])) _
            refine XS.dconst1 Xw_24.here hx rfl (hb hby at_252) (v := (4607182418800017408 : UInt64)) own_dc1 ?_
            show Steps p.tables e below (T_24.setTop (mkF m 253 #[.val (.int p0), .val (.int p1), .val (.int p2), .val (.int p3), .val (.int p4), .val (.long d), .second, .val (.long k), .second, .val (.double (sav (p0.toInt64) d)), .second, .val (.double (sav (p1.toInt64) d)), .second, .val (.double (sav ((p0.toInt64) * k) (d * k))), .second, .val (.int (p4 &&& (3 : Int32))), .val (.double (sav (0 : Int64) d)), .second, .val (.double (4607182418800017408 : UInt64)), .second, .val (.int (1 : Int32))] [(.double (4607182418800017408 : UInt64)), (.double (sav (p0.toInt64) d))])) _
            refine XS.dcmpS Xw_24.here hx rfl (hb hby at_253) rfl rfl ?_
            show Steps p.tables e below (T_24.setTop (mkF m 254 #[.val (.int p0), .val (.int p1), .val (.int p2), .val (.int p3), .val (.int p4), .val (.long d), .second, .val (.long k), .second, .val (.double (sav (p0.toInt64) d)), .second, .val (.double (sav (p1.toInt64) d)), .second, .val (.double (sav ((p0.toInt64) * k) (d * k))), .second, .val (.int (p4 &&& (3 : Int32))), .val (.double (sav (0 : Int64) d)), .second, .val (.double (4607182418800017408 : UInt64)), .second, .val (.int (1 : Int32))] [(.int (cmpValue (FP.dcmp (sav (p0.toInt64) d) (4607182418800017408 : UInt64)) .g))])) _
            refine XS.ifNo Xw_24.here hx rfl (hb hby at_254) rfl ((if0 _ _).trans (flt (own_ng hr.2)).2.2.1) ?_
            show Steps p.tables e below (T_24.setTop (mkF m 257 #[.val (.int p0), .val (.int p1), .val (.int p2), .val (.int p3), .val (.int p4), .val (.long d), .second, .val (.long k), .second, .val (.double (sav (p0.toInt64) d)), .second, .val (.double (sav (p1.toInt64) d)), .second, .val (.double (sav ((p0.toInt64) * k) (d * k))), .second, .val (.int (p4 &&& (3 : Int32))), .val (.double (sav (0 : Int64) d)), .second, .val (.double (4607182418800017408 : UInt64)), .second, .val (.int (1 : Int32))] [])) _
            refine XS.iconst Xw_24.here hx rfl (hb hby at_257) ?_
            show Steps p.tables e below (T_24.setTop (mkF m 258 #[.val (.int p0), .val (.int p1), .val (.int p2), .val (.int p3), .val (.int p4), .val (.long d), .second, .val (.long k), .second, .val (.double (sav (p0.toInt64) d)), .second, .val (.double (sav (p1.toInt64) d)), .second, .val (.double (sav ((p0.toInt64) * k) (d * k))), .second, .val (.int (p4 &&& (3 : Int32))), .val (.double (sav (0 : Int64) d)), .second, .val (.double (4607182418800017408 : UInt64)), .second, .val (.int (1 : Int32))] [(.int (1 : Int32))])) _
            refine XS.goto Xw_24.here hx rfl (pc0 := 258) (pc' := 262) rfl (hb hby at_258) (by decide) (by decide) ?_
            show Steps p.tables e below (T_24.setTop (mkF m 262 #[.val (.int p0), .val (.int p1), .val (.int p2), .val (.int p3), .val (.int p4), .val (.long d), .second, .val (.long k), .second, .val (.double (sav (p0.toInt64) d)), .second, .val (.double (sav (p1.toInt64) d)), .second, .val (.double (sav ((p0.toInt64) * k) (d * k))), .second, .val (.int (p4 &&& (3 : Int32))), .val (.double (sav (0 : Int64) d)), .second, .val (.double (4607182418800017408 : UInt64)), .second, .val (.int (1 : Int32))] [(.int (1 : Int32))])) _
            refine XS.istore Xw_24.here hx rfl (hb hby at_262) rfl (l' := #[.val (.int p0), .val (.int p1), .val (.int p2), .val (.int p3), .val (.int p4), .val (.long d), .second, .val (.long k), .second, .val (.double (sav (p0.toInt64) d)), .second, .val (.double (sav (p1.toInt64) d)), .second, .val (.double (sav ((p0.toInt64) * k) (d * k))), .second, .val (.int (p4 &&& (3 : Int32))), .val (.double (sav (0 : Int64) d)), .second, .val (.double (4607182418800017408 : UInt64)), .second, .val (.int (1 : Int32))]) rfl ?_
            show Steps p.tables e below (T_24.setTop (mkF m 264 #[.val (.int p0), .val (.int p1), .val (.int p2), .val (.int p3), .val (.int p4), .val (.long d), .second, .val (.long k), .second, .val (.double (sav (p0.toInt64) d)), .second, .val (.double (sav (p1.toInt64) d)), .second, .val (.double (sav ((p0.toInt64) * k) (d * k))), .second, .val (.int (p4 &&& (3 : Int32))), .val (.double (sav (0 : Int64) d)), .second, .val (.double (4607182418800017408 : UInt64)), .second, .val (.int (1 : Int32))] [])) _
            refine XS.iload Xw_24.here hx rfl (hb hby at_264) rfl ?_
            exact ktg)
          obtain ⟨fs, hr, hrun, hended, hW⟩ := Xw_24.leaveW hS_24 hk_24 (v := some (.int (1 : Int32))) (fun h => by rw [Bd.returns] at h; cases h)
          refine ⟨_, _, pre_53 _ ?_, hrun, hended, _, _, rfl, ?_, ?_, hW.1, hW.2.1, hW.2.2.1, hW.2.2.2.mono (by decide) (by decide)⟩
          · show Steps p.tables e below (T_24.setTop (mkF m 266 #[.val (.int p0), .val (.int p1), .val (.int p2), .val (.int p3), .val (.int p4), .val (.long d), .second, .val (.long k), .second, .val (.double (sav (p0.toInt64) d)), .second, .val (.double (sav (p1.toInt64) d)), .second, .val (.double (sav ((p0.toInt64) * k) (d * k))), .second, .val (.int (p4 &&& (3 : Int32))), .val (.double (sav (0 : Int64) d)), .second, .val (.double (4607182418800017408 : UInt64)), .second, .val (.int (1 : Int32))] [(.int (1 : Int32))])) _
            exact retN Xw_24 hx (t := .boolean) Bd.returns (by simp) (hb hby at_266) hr
          · show Q0 Z p0 p1 p2 p3 p4 h0 n0 _ T_24.heap _
            exact ⟨rfl, N_25⟩
          · show CHr Z consts_1 s.vm s.heap T_24.vm T_24.heap
            rw [hh]
            exact C_26.trans (CHv.at Xw_24 hZ hEL C_26.1)
  · skip
    have pre_54 : Rch p.tables e below (s₁.setTop (entryFrame m #[(.int p0), (.int p1), (.int p2), (.int p3), (.int p4)] maxLocals)) (T_16.setTop (mkF m 77 #[.val (.int p0), .val (.int p1), .val (.int p2), .val (.int p3), .val (.int p4), .val (.long d), .second, .val (.long k), .second, .val (.double (sav (p0.toInt64) d)), .second, .val (.double (sav (p1.toInt64) d)), .second, .val (.double (sav ((p0.toInt64) * k) (d * k))), .second, .val (.int (p4 &&& (3 : Int32))), .unset, .unset, .unset, .unset, .unset] [])) := fun tgt ktg => pre_20 tgt (by
      show Steps p.tables e below (T_16.setTop (mkF m 60 #[.val (.int p0), .val (.int p1), .val (.int p2), .val (.int p3), .val (.int p4), .val (.long d), .second, .val (.long k), .second, .val (.double (sav (p0.toInt64) d)), .second, .val (.double (sav (p1.toInt64) d)), .second, .val (.double (sav ((p0.toInt64) * k) (d * k))), .second, .val (.int (p4 &&& (3 : Int32))), .unset, .unset, .unset, .unset, .unset] [(.int (p4 &&& (3 : Int32)))])) _
      refine XS.ifYes Xw_16.here hx rfl (pc0 := 60) (pc' := 77) rfl (hb hby at_60) rfl ((if0 _ _).trans (feq c_21).2) (by decide) (by decide) ?_
      exact ktg)
    have pre_55 : Rch p.tables e below (s₁.setTop (entryFrame m #[(.int p0), (.int p1), (.int p2), (.int p3), (.int p4)] maxLocals)) (T_16.setTop (mkF m 80 #[.val (.int p0), .val (.int p1), .val (.int p2), .val (.int p3), .val (.int p4), .val (.long d), .second, .val (.long k), .second, .val (.double (sav (p0.toInt64) d)), .second, .val (.double (sav (p1.toInt64) d)), .second, .val (.double (sav ((p0.toInt64) * k) (d * k))), .second, .val (.int (p4 &&& (3 : Int32))), .unset, .unset, .unset, .unset, .unset] [(.int (1 : Int32)), (.int (p4 &&& (3 : Int32)))])) := fun tgt ktg => pre_54 tgt (by
      show Steps p.tables e below (T_16.setTop (mkF m 77 #[.val (.int p0), .val (.int p1), .val (.int p2), .val (.int p3), .val (.int p4), .val (.long d), .second, .val (.long k), .second, .val (.double (sav (p0.toInt64) d)), .second, .val (.double (sav (p1.toInt64) d)), .second, .val (.double (sav ((p0.toInt64) * k) (d * k))), .second, .val (.int (p4 &&& (3 : Int32))), .unset, .unset, .unset, .unset, .unset] [])) _
      refine XS.iload Xw_16.here hx rfl (hb hby at_77) rfl ?_
      show Steps p.tables e below (T_16.setTop (mkF m 79 #[.val (.int p0), .val (.int p1), .val (.int p2), .val (.int p3), .val (.int p4), .val (.long d), .second, .val (.long k), .second, .val (.double (sav (p0.toInt64) d)), .second, .val (.double (sav (p1.toInt64) d)), .second, .val (.double (sav ((p0.toInt64) * k) (d * k))), .second, .val (.int (p4 &&& (3 : Int32))), .unset, .unset, .unset, .unset, .unset] [(.int (p4 &&& (3 : Int32)))])) _
      refine XS.iconst Xw_16.here hx rfl (hb hby at_79) ?_
      exact ktg)
    by_cases c_56 : (p4 &&& (3 : Int32)) = (1 : Int32)
    · skip
      have pre_57 : Rch p.tables e below (s₁.setTop (entryFrame m #[(.int p0), (.int p1), (.int p2), (.int p3), (.int p4)] maxLocals)) (T_16.setTop (mkF m 83 #[.val (.int p0), .val (.int p1), .val (.int p2), .val (.int p3), .val (.int p4), .val (.long d), .second, .val (.long k), .second, .val (.double (sav (p0.toInt64) d)), .second, .val (.double (sav (p1.toInt64) d)), .second, .val (.double (sav ((p0.toInt64) * k) (d * k))), .second, .val (.int (p4 &&& (3 : Int32))), .unset, .unset, .unset, .unset, .unset] [])) := fun tgt ktg => pre_55 tgt (by
        show Steps p.tables e below (T_16.setTop (mkF m 80 #[.val (.int p0), .val (.int p1), .val (.int p2), .val (.int p3), .val (.int p4), .val (.long d), .second, .val (.long k), .second, .val (.double (sav (p0.toInt64) d)), .second, .val (.double (sav (p1.toInt64) d)), .second, .val (.double (sav ((p0.toInt64) * k) (d * k))), .second, .val (.int (p4 &&& (3 : Int32))), .unset, .unset, .unset, .unset, .unset] [(.int (1 : Int32)), (.int (p4 &&& (3 : Int32)))])) _
        refine XS.icmpNo Xw_16.here hx rfl (hb hby at_80) rfl (teq c_56).2 ?_
        exact ktg)
      have pre_58 : Rch p.tables e below (s₁.setTop (entryFrame m #[(.int p0), (.int p1), (.int p2), (.int p3), (.int p4)] maxLocals)) (T_16.setTop (mkF m 87 #[.val (.int p0), .val (.int p1), .val (.int p2), .val (.int p3), .val (.int p4), .val (.long d), .second, .val (.long k), .second, .val (.double (sav (p0.toInt64) d)), .second, .val (.double (sav (p1.toInt64) d)), .second, .val (.double (sav ((p0.toInt64) * k) (d * k))), .second, .val (.int (p4 &&& (3 : Int32))), .unset, .unset, .unset, .unset, .unset] [(.long d), (.long d)])) := fun tgt ktg => pre_57 tgt (by
        show Steps p.tables e below (T_16.setTop (mkF m 83 #[.val (.int p0), .val (.int p1), .val (.int p2), .val (.int p3), .val (.int p4), .val (.long d), .second, .val (.long k), .second, .val (.double (sav (p0.toInt64) d)), .second, .val (.double (sav (p1.toInt64) d)), .second, .val (.double (sav ((p0.toInt64) * k) (d * k))), .second, .val (.int (p4 &&& (3 : Int32))), .unset, .unset, .unset, .unset, .unset] [])) _
        refine XT.lload Xw_16.here hx rfl (hb hby at_83) rfl ?_
        show Steps p.tables e below (T_16.setTop (mkF m 85 #[.val (.int p0), .val (.int p1), .val (.int p2), .val (.int p3), .val (.int p4), .val (.long d), .second, .val (.long k), .second, .val (.double (sav (p0.toInt64) d)), .second, .val (.double (sav (p1.toInt64) d)), .second, .val (.double (sav ((p0.toInt64) * k) (d * k))), .second, .val (.int (p4 &&& (3 : Int32))), .unset, .unset, .unset, .unset, .unset] [(.long d)])) _
        refine XT.lload Xw_16.here hx rfl (hb hby at_85) rfl ?_
        exact ktg)
      obtain ⟨_, _, ⟨T_59, L_59, k_59, n_59⟩, -, X_59, hSn_59, hgr_59, ⟨Lc_59, hQ_59, l_59, y_59, z_59, hCn_59⟩, st_59⟩ := callSS Xw_16 hx (y := (⟨"com/example/prudent_spot/prudentspot/replay/OutcomeSavingPinLaw", "s", "(JJ)D"⟩ : MethodName)) hown (mvT hZ (hw _ (List.mem_of_getElem? (i := 1) rfl))) (mvT hZ (hw _ (List.mem_of_getElem? (i := 2) rfl))) (mvT hZ (hw _ (List.mem_of_getElem? (i := 3) rfl))) (mvT hZ (hw _ (List.mem_of_getElem? (i := 4) rfl))) (by decide) (backOfSH (W := 0) (rms l Z a0 hw [] d d T_16.heap n0 z_19 Hd) hZ (hw _ (List.mem_of_getElem? (i := 4) rfl)) (hw _ (List.mem_of_getElem? (i := 3) rfl)) (by decide) (by decide) hEL C_18.1) (g := (mkF m 87 #[.val (.int p0), .val (.int p1), .val (.int p2), .val (.int p3), .val (.int p4), .val (.long d), .second, .val (.long k), .second, .val (.double (sav (p0.toInt64) d)), .second, .val (.double (sav (p1.toInt64) d)), .second, .val (.double (sav ((p0.toInt64) * k) (d * k))), .second, .val (.int (p4 &&& (3 : Int32))), .unset, .unset, .unset, .unset, .unset] [(.long d), (.long d)])) rfl (by rw [hml]; rfl) (argsL := [(.long d), (.long d)]) (rest := []) (lenOf pd_2 rfl) rfl (by show 2 * 0 + _ ≤ _; exact Nat.le_of_eq rfl) (hb hby at_87) (fun _ _ => ⟨rfl, rfl, (by decide : 9 + 3 ≤ _), (by decide : 45 + 15 ≤ _)⟩)
      dsimp only [Pt.U, Pt.locs, Pt.cells, Pt.slots] at X_59 l_59 y_59 z_59 st_59 hQ_59 hSn_59 hgr_59 hCn_59
      subst l_59 y_59 z_59
      obtain ⟨rfl, Nq_59, Kq_59⟩ := hQ_59
      have N_60 := Fr.app N_17 Nq_59
      have pre_59 : Rch p.tables e below (s₁.setTop (entryFrame m #[(.int p0), (.int p1), (.int p2), (.int p3), (.int p4)] maxLocals)) (T_59.setTop (mkF m 90 #[.val (.int p0), .val (.int p1), .val (.int p2), .val (.int p3), .val (.int p4), .val (.long d), .second, .val (.long k), .second, .val (.double (sav (p0.toInt64) d)), .second, .val (.double (sav (p1.toInt64) d)), .second, .val (.double (sav ((p0.toInt64) * k) (d * k))), .second, .val (.int (p4 &&& (3 : Int32))), .unset, .unset, .unset, .unset, .unset] [(.double (sav d d))])) := fun tgt ktg => pre_58 tgt (st_59.trans ktg)
      have hS_59 : s.Since T_59.vm T_59.heap.size := hS_16.trans hSn_59 (Nat.le_trans hk_16 hgr_59)
      have hk_59 := Nat.le_refl T_59.heap.size
      have hZn_59 : Z.Warmed39 T_59.vm := State.Warmed39.trans (t := s.setVm T_16.vm) hZ hSn_59.1
      have hownn_59 : T_59.vm.findClass "com/example/prudent_spot/prudentspot/replay/OutcomeSavingPinLaw" = some m.cls := by rw [hSn_59.1.alike.findClass]; exact hown
      have hZ := hZn_59
      have hown := hownn_59
      have Xw_59 : Stand p l e room_1 (s.setVm T_59.vm) m #[(.int p0), (.int p1), (.int p2), (.int p3), (.int p4)] below meth c T_59 _ _ _ := X_59
      have C_61 : CHr Z consts_1 s.vm h0 T_59.vm T_59.heap := C_18.trans hCn_59
      have z_62 : n0 ≤ T_59.heap.size := Nat.le_trans z_19 Kq_59.1
      have pre_63 : Rch p.tables e below (s₁.setTop (entryFrame m #[(.int p0), (.int p1), (.int p2), (.int p3), (.int p4)] maxLocals)) (T_59.setTop (mkF m 180 #[.val (.int p0), .val (.int p1), .val (.int p2), .val (.int p3), .val (.int p4), .val (.long d), .second, .val (.long k), .second, .val (.double (sav (p0.toInt64) d)), .second, .val (.double (sav (p1.toInt64) d)), .second, .val (.double (sav ((p0.toInt64) * k) (d * k))), .second, .val (.int (p4 &&& (3 : Int32))), .val (.double (sav d d)), .second, .val (.double (0 : UInt64)), .second, .val (.int (1 : Int32))] [(.int p1), (.int p0)])) := fun tgt ktg => pre_59 tgt (by
        show Steps p.tables e below (T_59.setTop (mkF m 90 #[.val (.int p0), .val (.int p1), .val (.int p2), .val (.int p3), .val (.int p4), .val (.long d), .second, .val (.long k), .second, .val (.double (sav (p0.toInt64) d)), .second, .val (.double (sav (p1.toInt64) d)), .second, .val (.double (sav ((p0.toInt64) * k) (d * k))), .second, .val (.int (p4 &&& (3 : Int32))), .unset, .unset, .unset, .unset, .unset] [(.double (sav d d))])) _
        refine XS.dstore Xw_59.here hx rfl (hb hby at_90) rfl (l' := #[.val (.int p0), .val (.int p1), .val (.int p2), .val (.int p3), .val (.int p4), .val (.long d), .second, .val (.long k), .second, .val (.double (sav (p0.toInt64) d)), .second, .val (.double (sav (p1.toInt64) d)), .second, .val (.double (sav ((p0.toInt64) * k) (d * k))), .second, .val (.int (p4 &&& (3 : Int32))), .val (.double (sav d d)), .second, .unset, .unset, .unset]) rfl ?_
        show Steps p.tables e below (T_59.setTop (mkF m 92 #[.val (.int p0), .val (.int p1), .val (.int p2), .val (.int p3), .val (.int p4), .val (.long d), .second, .val (.long k), .second, .val (.double (sav (p0.toInt64) d)), .second, .val (.double (sav (p1.toInt64) d)), .second, .val (.double (sav ((p0.toInt64) * k) (d * k))), .second, .val (.int (p4 &&& (3 : Int32))), .val (.double (sav d d)), .second, .unset, .unset, .unset] [])) _
        refine XS.dconst0 Xw_59.here hx rfl (hb hby at_92) (v := (0 : UInt64)) own_dc0 ?_
        show Steps p.tables e below (T_59.setTop (mkF m 93 #[.val (.int p0), .val (.int p1), .val (.int p2), .val (.int p3), .val (.int p4), .val (.long d), .second, .val (.long k), .second, .val (.double (sav (p0.toInt64) d)), .second, .val (.double (sav (p1.toInt64) d)), .second, .val (.double (sav ((p0.toInt64) * k) (d * k))), .second, .val (.int (p4 &&& (3 : Int32))), .val (.double (sav d d)), .second, .unset, .unset, .unset] [(.double (0 : UInt64))])) _
        refine XS.dstore Xw_59.here hx rfl (hb hby at_93) rfl (l' := #[.val (.int p0), .val (.int p1), .val (.int p2), .val (.int p3), .val (.int p4), .val (.long d), .second, .val (.long k), .second, .val (.double (sav (p0.toInt64) d)), .second, .val (.double (sav (p1.toInt64) d)), .second, .val (.double (sav ((p0.toInt64) * k) (d * k))), .second, .val (.int (p4 &&& (3 : Int32))), .val (.double (sav d d)), .second, .val (.double (0 : UInt64)), .second, .unset]) rfl ?_
        show Steps p.tables e below (T_59.setTop (mkF m 95 #[.val (.int p0), .val (.int p1), .val (.int p2), .val (.int p3), .val (.int p4), .val (.long d), .second, .val (.long k), .second, .val (.double (sav (p0.toInt64) d)), .second, .val (.double (sav (p1.toInt64) d)), .second, .val (.double (sav ((p0.toInt64) * k) (d * k))), .second, .val (.int (p4 &&& (3 : Int32))), .val (.double (sav d d)), .second, .val (.double (0 : UInt64)), .second, .unset] [])) _
        refine XS.goto Xw_59.here hx rfl (pc0 := 95) (pc' := 143) rfl (hb hby at_95) (by decide) (by decide) ?_
        show Steps p.tables e below (T_59.setTop (mkF m 143 #[.val (.int p0), .val (.int p1), .val (.int p2), .val (.int p3), .val (.int p4), .val (.long d), .second, .val (.long k), .second, .val (.double (sav (p0.toInt64) d)), .second, .val (.double (sav (p1.toInt64) d)), .second, .val (.double (sav ((p0.toInt64) * k) (d * k))), .second, .val (.int (p4 &&& (3 : Int32))), .val (.double (sav d d)), .second, .val (.double (0 : UInt64)), .second, .unset] [])) _
        refine XS.dload Xw_59.here hx rfl (hb hby at_143) rfl ?_
        show Steps p.tables e below (T_59.setTop (mkF m 145 #[.val (.int p0), .val (.int p1), .val (.int p2), .val (.int p3), .val (.int p4), .val (.long d), .second, .val (.long k), .second, .val (.double (sav (p0.toInt64) d)), .second, .val (.double (sav (p1.toInt64) d)), .second, .val (.double (sav ((p0.toInt64) * k) (d * k))), .second, .val (.int (p4 &&& (3 : Int32))), .val (.double (sav d d)), .second, .val (.double (0 : UInt64)), .second, .unset] [(.double (sav d d))])) _
        refine XS.dload Xw_59.here hx rfl (hb hby at_145) rfl ?_
        show Steps p.tables e below (T_59.setTop (mkF m 147 #[.val (.int p0), .val (.int p1), .val (.int p2), .val (.int p3), .val (.int p4), .val (.long d), .second, .val (.long k), .second, .val (.double (sav (p0.toInt64) d)), .second, .val (.double (sav (p1.toInt64) d)), .second, .val (.double (sav ((p0.toInt64) * k) (d * k))), .second, .val (.int (p4 &&& (3 : Int32))), .val (.double (sav d d)), .second, .val (.double (0 : UInt64)), .second, .unset] [(.double (0 : UInt64)), (.double (sav d d))])) _
        refine XS.dcmpS Xw_59.here hx rfl (hb hby at_147) rfl rfl ?_
        show Steps p.tables e below (T_59.setTop (mkF m 148 #[.val (.int p0), .val (.int p1), .val (.int p2), .val (.int p3), .val (.int p4), .val (.long d), .second, .val (.long k), .second, .val (.double (sav (p0.toInt64) d)), .second, .val (.double (sav (p1.toInt64) d)), .second, .val (.double (sav ((p0.toInt64) * k) (d * k))), .second, .val (.int (p4 &&& (3 : Int32))), .val (.double (sav d d)), .second, .val (.double (0 : UInt64)), .second, .unset] [(.int (cmpValue (FP.dcmp (sav d d) (0 : UInt64)) .l))])) _
        refine XS.ifNo Xw_59.here hx rfl (hb hby at_148) rfl ((if0 _ _).trans (teq (own_k0 (own_sp1 Hd))).2) ?_
        show Steps p.tables e below (T_59.setTop (mkF m 151 #[.val (.int p0), .val (.int p1), .val (.int p2), .val (.int p3), .val (.int p4), .val (.long d), .second, .val (.long k), .second, .val (.double (sav (p0.toInt64) d)), .second, .val (.double (sav (p1.toInt64) d)), .second, .val (.double (sav ((p0.toInt64) * k) (d * k))), .second, .val (.int (p4 &&& (3 : Int32))), .val (.double (sav d d)), .second, .val (.double (0 : UInt64)), .second, .unset] [])) _
        refine XS.iconst Xw_59.here hx rfl (hb hby at_151) ?_
        show Steps p.tables e below (T_59.setTop (mkF m 152 #[.val (.int p0), .val (.int p1), .val (.int p2), .val (.int p3), .val (.int p4), .val (.long d), .second, .val (.long k), .second, .val (.double (sav (p0.toInt64) d)), .second, .val (.double (sav (p1.toInt64) d)), .second, .val (.double (sav ((p0.toInt64) * k) (d * k))), .second, .val (.int (p4 &&& (3 : Int32))), .val (.double (sav d d)), .second, .val (.double (0 : UInt64)), .second, .unset] [(.int (1 : Int32))])) _
        refine XS.goto Xw_59.here hx rfl (pc0 := 152) (pc' := 156) rfl (hb hby at_152) (by decide) (by decide) ?_
        show Steps p.tables e below (T_59.setTop (mkF m 156 #[.val (.int p0), .val (.int p1), .val (.int p2), .val (.int p3), .val (.int p4), .val (.long d), .second, .val (.long k), .second, .val (.double (sav (p0.toInt64) d)), .second, .val (.double (sav (p1.toInt64) d)), .second, .val (.double (sav ((p0.toInt64) * k) (d * k))), .second, .val (.int (p4 &&& (3 : Int32))), .val (.double (sav d d)), .second, .val (.double (0 : UInt64)), .second, .unset] [(.int (1 : Int32))])) _
        refine XS.istore Xw_59.here hx rfl (hb hby at_156) rfl (l' := #[.val (.int p0), .val (.int p1), .val (.int p2), .val (.int p3), .val (.int p4), .val (.long d), .second, .val (.long k), .second, .val (.double (sav (p0.toInt64) d)), .second, .val (.double (sav (p1.toInt64) d)), .second, .val (.double (sav ((p0.toInt64) * k) (d * k))), .second, .val (.int (p4 &&& (3 : Int32))), .val (.double (sav d d)), .second, .val (.double (0 : UInt64)), .second, .val (.int (1 : Int32))]) rfl ?_
        show Steps p.tables e below (T_59.setTop (mkF m 158 #[.val (.int p0), .val (.int p1), .val (.int p2), .val (.int p3), .val (.int p4), .val (.long d), .second, .val (.long k), .second, .val (.double (sav (p0.toInt64) d)), .second, .val (.double (sav (p1.toInt64) d)), .second, .val (.double (sav ((p0.toInt64) * k) (d * k))), .second, .val (.int (p4 &&& (3 : Int32))), .val (.double (sav d d)), .second, .val (.double (0 : UInt64)), .second, .val (.int (1 : Int32))] [])) _
        refine XS.iload Xw_59.here hx rfl (hb hby at_158) rfl ?_
        show Steps p.tables e below (T_59.setTop (mkF m 160 #[.val (.int p0), .val (.int p1), .val (.int p2), .val (.int p3), .val (.int p4), .val (.long d), .second, .val (.long k), .second, .val (.double (sav (p0.toInt64) d)), .second, .val (.double (sav (p1.toInt64) d)), .second, .val (.double (sav ((p0.toInt64) * k) (d * k))), .second, .val (.int (p4 &&& (3 : Int32))), .val (.double (sav d d)), .second, .val (.double (0 : UInt64)), .second, .val (.int (1 : Int32))] [(.int (1 : Int32))])) _
        refine XS.ifNo Xw_59.here hx rfl (hb hby at_160) rfl ((if0 _ _).trans (feq (by decide : ¬ ((1 : Int32) = (0 : Int32)))).1) ?_
        show Steps p.tables e below (T_59.setTop (mkF m 163 #[.val (.int p0), .val (.int p1), .val (.int p2), .val (.int p3), .val (.int p4), .val (.long d), .second, .val (.long k), .second, .val (.double (sav (p0.toInt64) d)), .second, .val (.double (sav (p1.toInt64) d)), .second, .val (.double (sav ((p0.toInt64) * k) (d * k))), .second, .val (.int (p4 &&& (3 : Int32))), .val (.double (sav d d)), .second, .val (.double (0 : UInt64)), .second, .val (.int (1 : Int32))] [])) _
        refine XS.dload Xw_59.here hx rfl (hb hby at_163) rfl ?_
        show Steps p.tables e below (T_59.setTop (mkF m 165 #[.val (.int p0), .val (.int p1), .val (.int p2), .val (.int p3), .val (.int p4), .val (.long d), .second, .val (.long k), .second, .val (.double (sav (p0.toInt64) d)), .second, .val (.double (sav (p1.toInt64) d)), .second, .val (.double (sav ((p0.toInt64) * k) (d * k))), .second, .val (.int (p4 &&& (3 : Int32))), .val (.double (sav d d)), .second, .val (.double (0 : UInt64)), .second, .val (.int (1 : Int32))] [(.double (sav ((p0.toInt64) * k) (d * k)))])) _
        refine XS.dload Xw_59.here hx rfl (hb hby at_165) rfl ?_
        show Steps p.tables e below (T_59.setTop (mkF m 167 #[.val (.int p0), .val (.int p1), .val (.int p2), .val (.int p3), .val (.int p4), .val (.long d), .second, .val (.long k), .second, .val (.double (sav (p0.toInt64) d)), .second, .val (.double (sav (p1.toInt64) d)), .second, .val (.double (sav ((p0.toInt64) * k) (d * k))), .second, .val (.int (p4 &&& (3 : Int32))), .val (.double (sav d d)), .second, .val (.double (0 : UInt64)), .second, .val (.int (1 : Int32))] [(.double (sav (p0.toInt64) d)), (.double (sav ((p0.toInt64) * k) (d * k)))])) _
        refine XS.dcmpS Xw_59.here hx rfl (hb hby at_167) rfl rfl ?_
        show Steps p.tables e below (T_59.setTop (mkF m 168 #[.val (.int p0), .val (.int p1), .val (.int p2), .val (.int p3), .val (.int p4), .val (.long d), .second, .val (.long k), .second, .val (.double (sav (p0.toInt64) d)), .second, .val (.double (sav (p1.toInt64) d)), .second, .val (.double (sav ((p0.toInt64) * k) (d * k))), .second, .val (.int (p4 &&& (3 : Int32))), .val (.double (sav d d)), .second, .val (.double (0 : UInt64)), .second, .val (.int (1 : Int32))] [(.int (cmpValue (FP.dcmp (sav ((p0.toInt64) * k) (d * k)) (sav (p0.toInt64) d)) .l))])) _
        refine XS.ifNo Xw_59.here hx rfl (hb hby at_168) rfl ((if0 _ _).trans (teq (own_scl (c := p0) hd hk)).2) ?_
        show Steps p.tables e below (T_59.setTop (mkF m 171 #[.val (.int p0), .val (.int p1), .val (.int p2), .val (.int p3), .val (.int p4), .val (.long d), .second, .val (.long k), .second, .val (.double (sav (p0.toInt64) d)), .second, .val (.double (sav (p1.toInt64) d)), .second, .val (.double (sav ((p0.toInt64) * k) (d * k))), .second, .val (.int (p4 &&& (3 : Int32))), .val (.double (sav d d)), .second, .val (.double (0 : UInt64)), .second, .val (.int (1 : Int32))] [])) _
        refine XS.iconst Xw_59.here hx rfl (hb hby at_171) ?_
        show Steps p.tables e below (T_59.setTop (mkF m 172 #[.val (.int p0), .val (.int p1), .val (.int p2), .val (.int p3), .val (.int p4), .val (.long d), .second, .val (.long k), .second, .val (.double (sav (p0.toInt64) d)), .second, .val (.double (sav (p1.toInt64) d)), .second, .val (.double (sav ((p0.toInt64) * k) (d * k))), .second, .val (.int (p4 &&& (3 : Int32))), .val (.double (sav d d)), .second, .val (.double (0 : UInt64)), .second, .val (.int (1 : Int32))] [(.int (1 : Int32))])) _
        refine XS.goto Xw_59.here hx rfl (pc0 := 172) (pc' := 176) rfl (hb hby at_172) (by decide) (by decide) ?_
        show Steps p.tables e below (T_59.setTop (mkF m 176 #[.val (.int p0), .val (.int p1), .val (.int p2), .val (.int p3), .val (.int p4), .val (.long d), .second, .val (.long k), .second, .val (.double (sav (p0.toInt64) d)), .second, .val (.double (sav (p1.toInt64) d)), .second, .val (.double (sav ((p0.toInt64) * k) (d * k))), .second, .val (.int (p4 &&& (3 : Int32))), .val (.double (sav d d)), .second, .val (.double (0 : UInt64)), .second, .val (.int (1 : Int32))] [(.int (1 : Int32))])) _
        refine XS.istore Xw_59.here hx rfl (hb hby at_176) rfl (l' := #[.val (.int p0), .val (.int p1), .val (.int p2), .val (.int p3), .val (.int p4), .val (.long d), .second, .val (.long k), .second, .val (.double (sav (p0.toInt64) d)), .second, .val (.double (sav (p1.toInt64) d)), .second, .val (.double (sav ((p0.toInt64) * k) (d * k))), .second, .val (.int (p4 &&& (3 : Int32))), .val (.double (sav d d)), .second, .val (.double (0 : UInt64)), .second, .val (.int (1 : Int32))]) rfl ?_
        show Steps p.tables e below (T_59.setTop (mkF m 178 #[.val (.int p0), .val (.int p1), .val (.int p2), .val (.int p3), .val (.int p4), .val (.long d), .second, .val (.long k), .second, .val (.double (sav (p0.toInt64) d)), .second, .val (.double (sav (p1.toInt64) d)), .second, .val (.double (sav ((p0.toInt64) * k) (d * k))), .second, .val (.int (p4 &&& (3 : Int32))), .val (.double (sav d d)), .second, .val (.double (0 : UInt64)), .second, .val (.int (1 : Int32))] [])) _
        refine XS.iloadN Xw_59.here hx rfl (hb hby at_178) rfl ?_
        show Steps p.tables e below (T_59.setTop (mkF m 179 #[.val (.int p0), .val (.int p1), .val (.int p2), .val (.int p3), .val (.int p4), .val (.long d), .second, .val (.long k), .second, .val (.double (sav (p0.toInt64) d)), .second, .val (.double (sav (p1.toInt64) d)), .second, .val (.double (sav ((p0.toInt64) * k) (d * k))), .second, .val (.int (p4 &&& (3 : Int32))), .val (.double (sav d d)), .second, .val (.double (0 : UInt64)), .second, .val (.int (1 : Int32))] [(.int p0)])) _
        refine XS.iloadN Xw_59.here hx rfl (hb hby at_179) rfl ?_
        exact ktg)
      by_cases c_64 : p1 < p0
      · skip
        have pre_65 : Rch p.tables e below (s₁.setTop (entryFrame m #[(.int p0), (.int p1), (.int p2), (.int p3), (.int p4)] maxLocals)) (T_59.setTop (mkF m 206 #[.val (.int p0), .val (.int p1), .val (.int p2), .val (.int p3), .val (.int p4), .val (.long d), .second, .val (.long k), .second, .val (.double (sav (p0.toInt64) d)), .second, .val (.double (sav (p1.toInt64) d)), .second, .val (.double (sav ((p0.toInt64) * k) (d * k))), .second, .val (.int (p4 &&& (3 : Int32))), .val (.double (sav d d)), .second, .val (.double (0 : UInt64)), .second, .val (.int (1 : Int32))] [])) := fun tgt ktg => pre_63 tgt (by
          show Steps p.tables e below (T_59.setTop (mkF m 180 #[.val (.int p0), .val (.int p1), .val (.int p2), .val (.int p3), .val (.int p4), .val (.long d), .second, .val (.long k), .second, .val (.double (sav (p0.toInt64) d)), .second, .val (.double (sav (p1.toInt64) d)), .second, .val (.double (sav ((p0.toInt64) * k) (d * k))), .second, .val (.int (p4 &&& (3 : Int32))), .val (.double (sav d d)), .second, .val (.double (0 : UInt64)), .second, .val (.int (1 : Int32))] [(.int p1), (.int p0)])) _
          refine XS.icmpYes Xw_59.here hx rfl (pc0 := 180) (pc' := 206) rfl (hb hby at_180) rfl (tlt c_64).2.2.1 (by decide) (by decide) ?_
          exact ktg)
        have pre_66 : Rch p.tables e below (s₁.setTop (entryFrame m #[(.int p0), (.int p1), (.int p2), (.int p3), (.int p4)] maxLocals)) (T_59.setTop (mkF m 227 #[.val (.int p0), .val (.int p1), .val (.int p2), .val (.int p3), .val (.int p4), .val (.long d), .second, .val (.long k), .second, .val (.double (sav (p0.toInt64) d)), .second, .val (.double (sav (p1.toInt64) d)), .second, .val (.double (sav ((p0.toInt64) * k) (d * k))), .second, .val (.int (p4 &&& (3 : Int32))), .val (.double (sav d d)), .second, .val (.double (0 : UInt64)), .second, .val (.int (1 : Int32))] [(.int p0)])) := fun tgt ktg => pre_65 tgt (by
          show Steps p.tables e below (T_59.setTop (mkF m 206 #[.val (.int p0), .val (.int p1), .val (.int p2), .val (.int p3), .val (.int p4), .val (.long d), .second, .val (.long k), .second, .val (.double (sav (p0.toInt64) d)), .second, .val (.double (sav (p1.toInt64) d)), .second, .val (.double (sav ((p0.toInt64) * k) (d * k))), .second, .val (.int (p4 &&& (3 : Int32))), .val (.double (sav d d)), .second, .val (.double (0 : UInt64)), .second, .val (.int (1 : Int32))] [])) _
          refine XS.iload Xw_59.here hx rfl (hb hby at_206) rfl ?_
          show Steps p.tables e below (T_59.setTop (mkF m 208 #[.val (.int p0), .val (.int p1), .val (.int p2), .val (.int p3), .val (.int p4), .val (.long d), .second, .val (.long k), .second, .val (.double (sav (p0.toInt64) d)), .second, .val (.double (sav (p1.toInt64) d)), .second, .val (.double (sav ((p0.toInt64) * k) (d * k))), .second, .val (.int (p4 &&& (3 : Int32))), .val (.double (sav d d)), .second, .val (.double (0 : UInt64)), .second, .val (.int (1 : Int32))] [(.int (1 : Int32))])) _
          refine XS.ifNo Xw_59.here hx rfl (hb hby at_208) rfl ((if0 _ _).trans (feq (by decide : ¬ ((1 : Int32) = (0 : Int32)))).1) ?_
          show Steps p.tables e below (T_59.setTop (mkF m 211 #[.val (.int p0), .val (.int p1), .val (.int p2), .val (.int p3), .val (.int p4), .val (.long d), .second, .val (.long k), .second, .val (.double (sav (p0.toInt64) d)), .second, .val (.double (sav (p1.toInt64) d)), .second, .val (.double (sav ((p0.toInt64) * k) (d * k))), .second, .val (.int (p4 &&& (3 : Int32))), .val (.double (sav d d)), .second, .val (.double (0 : UInt64)), .second, .val (.int (1 : Int32))] [])) _
          refine XS.dload Xw_59.here hx rfl (hb hby at_211) rfl ?_
          show Steps p.tables e below (T_59.setTop (mkF m 213 #[.val (.int p0), .val (.int p1), .val (.int p2), .val (.int p3), .val (.int p4), .val (.long d), .second, .val (.long k), .second, .val (.double (sav (p0.toInt64) d)), .second, .val (.double (sav (p1.toInt64) d)), .second, .val (.double (sav ((p0.toInt64) * k) (d * k))), .second, .val (.int (p4 &&& (3 : Int32))), .val (.double (sav d d)), .second, .val (.double (0 : UInt64)), .second, .val (.int (1 : Int32))] [(.double (sav (p1.toInt64) d))])) _
          refine XS.dload Xw_59.here hx rfl (hb hby at_213) rfl ?_
          show Steps p.tables e below (T_59.setTop (mkF m 215 #[.val (.int p0), .val (.int p1), .val (.int p2), .val (.int p3), .val (.int p4), .val (.long d), .second, .val (.long k), .second, .val (.double (sav (p0.toInt64) d)), .second, .val (.double (sav (p1.toInt64) d)), .second, .val (.double (sav ((p0.toInt64) * k) (d * k))), .second, .val (.int (p4 &&& (3 : Int32))), .val (.double (sav d d)), .second, .val (.double (0 : UInt64)), .second, .val (.int (1 : Int32))] [(.double (sav (p0.toInt64) d)), (.double (sav (p1.toInt64) d))])) _
          refine XS.dcmpS Xw_59.here hx rfl (hb hby at_215) rfl rfl ?_
          show Steps p.tables e below (T_59.setTop (mkF m 216 #[.val (.int p0), .val (.int p1), .val (.int p2), .val (.int p3), .val (.int p4), .val (.long d), .second, .val (.long k), .second, .val (.double (sav (p0.toInt64) d)), .second, .val (.double (sav (p1.toInt64) d)), .second, .val (.double (sav ((p0.toInt64) * k) (d * k))), .second, .val (.int (p4 &&& (3 : Int32))), .val (.double (sav d d)), .second, .val (.double (0 : UInt64)), .second, .val (.int (1 : Int32))] [(.int (cmpValue (FP.dcmp (sav (p1.toInt64) d) (sav (p0.toInt64) d)) .l))])) _
          refine XS.ifNo Xw_59.here hx rfl (hb hby at_216) rfl ((if0 _ _).trans (flt (own_nl (own_mo (own_cn p1) (own_cn p0) Hd (by rw [own_b, own_b]; exact Int.le_of_lt (Int32.lt_iff_toInt_lt.mp c_64))))).1) ?_
          show Steps p.tables e below (T_59.setTop (mkF m 219 #[.val (.int p0), .val (.int p1), .val (.int p2), .val (.int p3), .val (.int p4), .val (.long d), .second, .val (.long k), .second, .val (.double (sav (p0.toInt64) d)), .second, .val (.double (sav (p1.toInt64) d)), .second, .val (.double (sav ((p0.toInt64) * k) (d * k))), .second, .val (.int (p4 &&& (3 : Int32))), .val (.double (sav d d)), .second, .val (.double (0 : UInt64)), .second, .val (.int (1 : Int32))] [])) _
          refine XS.iconst Xw_59.here hx rfl (hb hby at_219) ?_
          show Steps p.tables e below (T_59.setTop (mkF m 220 #[.val (.int p0), .val (.int p1), .val (.int p2), .val (.int p3), .val (.int p4), .val (.long d), .second, .val (.long k), .second, .val (.double (sav (p0.toInt64) d)), .second, .val (.double (sav (p1.toInt64) d)), .second, .val (.double (sav ((p0.toInt64) * k) (d * k))), .second, .val (.int (p4 &&& (3 : Int32))), .val (.double (sav d d)), .second, .val (.double (0 : UInt64)), .second, .val (.int (1 : Int32))] [(.int (1 : Int32))])) _
          refine XS.goto Xw_59.here hx rfl (pc0 := 220) (pc' := 224) rfl (hb hby at_220) (by decide) (by decide) ?_
          show Steps p.tables e below (T_59.setTop (mkF m 224 #[.val (.int p0), .val (.int p1), .val (.int p2), .val (.int p3), .val (.int p4), .val (.long d), .second, .val (.long k), .second, .val (.double (sav (p0.toInt64) d)), .second, .val (.double (sav (p1.toInt64) d)), .second, .val (.double (sav ((p0.toInt64) * k) (d * k))), .second, .val (.int (p4 &&& (3 : Int32))), .val (.double (sav d d)), .second, .val (.double (0 : UInt64)), .second, .val (.int (1 : Int32))] [(.int (1 : Int32))])) _
          refine XS.istore Xw_59.here hx rfl (hb hby at_224) rfl (l' := #[.val (.int p0), .val (.int p1), .val (.int p2), .val (.int p3), .val (.int p4), .val (.long d), .second, .val (.long k), .second, .val (.double (sav (p0.toInt64) d)), .second, .val (.double (sav (p1.toInt64) d)), .second, .val (.double (sav ((p0.toInt64) * k) (d * k))), .second, .val (.int (p4 &&& (3 : Int32))), .val (.double (sav d d)), .second, .val (.double (0 : UInt64)), .second, .val (.int (1 : Int32))]) rfl ?_
          show Steps p.tables e below (T_59.setTop (mkF m 226 #[.val (.int p0), .val (.int p1), .val (.int p2), .val (.int p3), .val (.int p4), .val (.long d), .second, .val (.long k), .second, .val (.double (sav (p0.toInt64) d)), .second, .val (.double (sav (p1.toInt64) d)), .second, .val (.double (sav ((p0.toInt64) * k) (d * k))), .second, .val (.int (p4 &&& (3 : Int32))), .val (.double (sav d d)), .second, .val (.double (0 : UInt64)), .second, .val (.int (1 : Int32))] [])) _
          refine XS.iloadN Xw_59.here hx rfl (hb hby at_226) rfl ?_
          exact ktg)
        by_cases c_67 : p0 < (0 : Int32)
        · skip
          have pre_68 : Rch p.tables e below (s₁.setTop (entryFrame m #[(.int p0), (.int p1), (.int p2), (.int p3), (.int p4)] maxLocals)) (T_59.setTop (mkF m 264 #[.val (.int p0), .val (.int p1), .val (.int p2), .val (.int p3), .val (.int p4), .val (.long d), .second, .val (.long k), .second, .val (.double (sav (p0.toInt64) d)), .second, .val (.double (sav (p1.toInt64) d)), .second, .val (.double (sav ((p0.toInt64) * k) (d * k))), .second, .val (.int (p4 &&& (3 : Int32))), .val (.double (sav d d)), .second, .val (.double (0 : UInt64)), .second, .val (.int (1 : Int32))] [])) := fun tgt ktg => pre_66 tgt (by
            show Steps p.tables e below (T_59.setTop (mkF m 227 #[.val (.int p0), .val (.int p1), .val (.int p2), .val (.int p3), .val (.int p4), .val (.long d), .second, .val (.long k), .second, .val (.double (sav (p0.toInt64) d)), .second, .val (.double (sav (p1.toInt64) d)), .second, .val (.double (sav ((p0.toInt64) * k) (d * k))), .second, .val (.int (p4 &&& (3 : Int32))), .val (.double (sav d d)), .second, .val (.double (0 : UInt64)), .second, .val (.int (1 : Int32))] [(.int p0)])) _
            refine XS.ifYes Xw_59.here hx rfl (pc0 := 227) (pc' := 264) rfl (hb hby at_227) rfl ((if0 _ _).trans (tlt c_67).1) (by decide) (by decide) ?_
            exact ktg)
          have pre_69 : Rch p.tables e below (s₁.setTop (entryFrame m #[(.int p0), (.int p1), (.int p2), (.int p3), (.int p4)] maxLocals)) (T_59.setTop (mkF m 266 #[.val (.int p0), .val (.int p1), .val (.int p2), .val (.int p3), .val (.int p4), .val (.long d), .second, .val (.long k), .second, .val (.double (sav (p0.toInt64) d)), .second, .val (.double (sav (p1.toInt64) d)), .second, .val (.double (sav ((p0.toInt64) * k) (d * k))), .second, .val (.int (p4 &&& (3 : Int32))), .val (.double (sav d d)), .second, .val (.double (0 : UInt64)), .second, .val (.int (1 : Int32))] [(.int (1 : Int32))])) := fun tgt ktg => pre_68 tgt (by
            show Steps p.tables e below (T_59.setTop (mkF m 264 #[.val (.int p0), .val (.int p1), .val (.int p2), .val (.int p3), .val (.int p4), .val (.long d), .second, .val (.long k), .second, .val (.double (sav (p0.toInt64) d)), .second, .val (.double (sav (p1.toInt64) d)), .second, .val (.double (sav ((p0.toInt64) * k) (d * k))), .second, .val (.int (p4 &&& (3 : Int32))), .val (.double (sav d d)), .second, .val (.double (0 : UInt64)), .second, .val (.int (1 : Int32))] [])) _
            refine XS.iload Xw_59.here hx rfl (hb hby at_264) rfl ?_
            exact ktg)
          obtain ⟨fs, hr, hrun, hended, hW⟩ := Xw_59.leaveW hS_59 hk_59 (v := some (.int (1 : Int32))) (fun h => by rw [Bd.returns] at h; cases h)
          refine ⟨_, _, pre_69 _ ?_, hrun, hended, _, _, rfl, ?_, ?_, hW.1, hW.2.1, hW.2.2.1, hW.2.2.2.mono (by decide) (by decide)⟩
          · show Steps p.tables e below (T_59.setTop (mkF m 266 #[.val (.int p0), .val (.int p1), .val (.int p2), .val (.int p3), .val (.int p4), .val (.long d), .second, .val (.long k), .second, .val (.double (sav (p0.toInt64) d)), .second, .val (.double (sav (p1.toInt64) d)), .second, .val (.double (sav ((p0.toInt64) * k) (d * k))), .second, .val (.int (p4 &&& (3 : Int32))), .val (.double (sav d d)), .second, .val (.double (0 : UInt64)), .second, .val (.int (1 : Int32))] [(.int (1 : Int32))])) _
            exact retN Xw_59 hx (t := .boolean) Bd.returns (by simp) (hb hby at_266) hr
          · show Q0 Z p0 p1 p2 p3 p4 h0 n0 _ T_59.heap _
            exact ⟨rfl, N_60⟩
          · show CHr Z consts_1 s.vm s.heap T_59.vm T_59.heap
            rw [hh]
            exact C_61.trans (CHv.at Xw_59 hZ hEL C_61.1)
        · skip
          have pre_70 : Rch p.tables e below (s₁.setTop (entryFrame m #[(.int p0), (.int p1), (.int p2), (.int p3), (.int p4)] maxLocals)) (T_59.setTop (mkF m 230 #[.val (.int p0), .val (.int p1), .val (.int p2), .val (.int p3), .val (.int p4), .val (.long d), .second, .val (.long k), .second, .val (.double (sav (p0.toInt64) d)), .second, .val (.double (sav (p1.toInt64) d)), .second, .val (.double (sav ((p0.toInt64) * k) (d * k))), .second, .val (.int (p4 &&& (3 : Int32))), .val (.double (sav d d)), .second, .val (.double (0 : UInt64)), .second, .val (.int (1 : Int32))] [])) := fun tgt ktg => pre_66 tgt (by
            show Steps p.tables e below (T_59.setTop (mkF m 227 #[.val (.int p0), .val (.int p1), .val (.int p2), .val (.int p3), .val (.int p4), .val (.long d), .second, .val (.long k), .second, .val (.double (sav (p0.toInt64) d)), .second, .val (.double (sav (p1.toInt64) d)), .second, .val (.double (sav ((p0.toInt64) * k) (d * k))), .second, .val (.int (p4 &&& (3 : Int32))), .val (.double (sav d d)), .second, .val (.double (0 : UInt64)), .second, .val (.int (1 : Int32))] [(.int p0)])) _
            refine XS.ifNo Xw_59.here hx rfl (hb hby at_227) rfl ((if0 _ _).trans (flt c_67).1) ?_
            exact ktg)
          have pre_71 : Rch p.tables e below (s₁.setTop (entryFrame m #[(.int p0), (.int p1), (.int p2), (.int p3), (.int p4)] maxLocals)) (T_59.setTop (mkF m 235 #[.val (.int p0), .val (.int p1), .val (.int p2), .val (.int p3), .val (.int p4), .val (.long d), .second, .val (.long k), .second, .val (.double (sav (p0.toInt64) d)), .second, .val (.double (sav (p1.toInt64) d)), .second, .val (.double (sav ((p0.toInt64) * k) (d * k))), .second, .val (.int (p4 &&& (3 : Int32))), .val (.double (sav d d)), .second, .val (.double (0 : UInt64)), .second, .val (.int (1 : Int32))] [(.int (XT.cmpL (p0.toInt64) d))])) := fun tgt ktg => pre_70 tgt (by
            show Steps p.tables e below (T_59.setTop (mkF m 230 #[.val (.int p0), .val (.int p1), .val (.int p2), .val (.int p3), .val (.int p4), .val (.long d), .second, .val (.long k), .second, .val (.double (sav (p0.toInt64) d)), .second, .val (.double (sav (p1.toInt64) d)), .second, .val (.double (sav ((p0.toInt64) * k) (d * k))), .second, .val (.int (p4 &&& (3 : Int32))), .val (.double (sav d d)), .second, .val (.double (0 : UInt64)), .second, .val (.int (1 : Int32))] [])) _
            refine XS.iloadN Xw_59.here hx rfl (hb hby at_230) rfl ?_
            show Steps p.tables e below (T_59.setTop (mkF m 231 #[.val (.int p0), .val (.int p1), .val (.int p2), .val (.int p3), .val (.int p4), .val (.long d), .second, .val (.long k), .second, .val (.double (sav (p0.toInt64) d)), .second, .val (.double (sav (p1.toInt64) d)), .second, .val (.double (sav ((p0.toInt64) * k) (d * k))), .second, .val (.int (p4 &&& (3 : Int32))), .val (.double (sav d d)), .second, .val (.double (0 : UInt64)), .second, .val (.int (1 : Int32))] [(.int p0)])) _
            refine XT.i2l Xw_59.here hx rfl (hb hby at_231) rfl ?_
            show Steps p.tables e below (T_59.setTop (mkF m 232 #[.val (.int p0), .val (.int p1), .val (.int p2), .val (.int p3), .val (.int p4), .val (.long d), .second, .val (.long k), .second, .val (.double (sav (p0.toInt64) d)), .second, .val (.double (sav (p1.toInt64) d)), .second, .val (.double (sav ((p0.toInt64) * k) (d * k))), .second, .val (.int (p4 &&& (3 : Int32))), .val (.double (sav d d)), .second, .val (.double (0 : UInt64)), .second, .val (.int (1 : Int32))] [(.long (p0.toInt64))])) _
            refine XT.lload Xw_59.here hx rfl (hb hby at_232) rfl ?_
            show Steps p.tables e below (T_59.setTop (mkF m 234 #[.val (.int p0), .val (.int p1), .val (.int p2), .val (.int p3), .val (.int p4), .val (.long d), .second, .val (.long k), .second, .val (.double (sav (p0.toInt64) d)), .second, .val (.double (sav (p1.toInt64) d)), .second, .val (.double (sav ((p0.toInt64) * k) (d * k))), .second, .val (.int (p4 &&& (3 : Int32))), .val (.double (sav d d)), .second, .val (.double (0 : UInt64)), .second, .val (.int (1 : Int32))] [(.long d), (.long (p0.toInt64))])) _
            refine XT.lcmp Xw_59.here hx rfl (hb hby at_234) rfl ?_
            exact ktg)
          by_cases c_72 : (0 : Int32) < (XT.cmpL (p0.toInt64) d)
          · skip
            have pre_73 : Rch p.tables e below (s₁.setTop (entryFrame m #[(.int p0), (.int p1), (.int p2), (.int p3), (.int p4)] maxLocals)) (T_59.setTop (mkF m 264 #[.val (.int p0), .val (.int p1), .val (.int p2), .val (.int p3), .val (.int p4), .val (.long d), .second, .val (.long k), .second, .val (.double (sav (p0.toInt64) d)), .second, .val (.double (sav (p1.toInt64) d)), .second, .val (.double (sav ((p0.toInt64) * k) (d * k))), .second, .val (.int (p4 &&& (3 : Int32))), .val (.double (sav d d)), .second, .val (.double (0 : UInt64)), .second, .val (.int (1 : Int32))] [])) := fun tgt ktg => pre_71 tgt (by
              show Steps p.tables e below (T_59.setTop (mkF m 235 #[.val (.int p0), .val (.int p1), .val (.int p2), .val (.int p3), .val (.int p4), .val (.long d), .second, .val (.long k), .second, .val (.double (sav (p0.toInt64) d)), .second, .val (.double (sav (p1.toInt64) d)), .second, .val (.double (sav ((p0.toInt64) * k) (d * k))), .second, .val (.int (p4 &&& (3 : Int32))), .val (.double (sav d d)), .second, .val (.double (0 : UInt64)), .second, .val (.int (1 : Int32))] [(.int (XT.cmpL (p0.toInt64) d))])) _
              refine XS.ifYes Xw_59.here hx rfl (pc0 := 235) (pc' := 264) rfl (hb hby at_235) rfl ((if0 _ _).trans (tlt c_72).2.2.1) (by decide) (by decide) ?_
              exact ktg)
            have pre_74 : Rch p.tables e below (s₁.setTop (entryFrame m #[(.int p0), (.int p1), (.int p2), (.int p3), (.int p4)] maxLocals)) (T_59.setTop (mkF m 266 #[.val (.int p0), .val (.int p1), .val (.int p2), .val (.int p3), .val (.int p4), .val (.long d), .second, .val (.long k), .second, .val (.double (sav (p0.toInt64) d)), .second, .val (.double (sav (p1.toInt64) d)), .second, .val (.double (sav ((p0.toInt64) * k) (d * k))), .second, .val (.int (p4 &&& (3 : Int32))), .val (.double (sav d d)), .second, .val (.double (0 : UInt64)), .second, .val (.int (1 : Int32))] [(.int (1 : Int32))])) := fun tgt ktg => pre_73 tgt (by
              show Steps p.tables e below (T_59.setTop (mkF m 264 #[.val (.int p0), .val (.int p1), .val (.int p2), .val (.int p3), .val (.int p4), .val (.long d), .second, .val (.long k), .second, .val (.double (sav (p0.toInt64) d)), .second, .val (.double (sav (p1.toInt64) d)), .second, .val (.double (sav ((p0.toInt64) * k) (d * k))), .second, .val (.int (p4 &&& (3 : Int32))), .val (.double (sav d d)), .second, .val (.double (0 : UInt64)), .second, .val (.int (1 : Int32))] [])) _
              refine XS.iload Xw_59.here hx rfl (hb hby at_264) rfl ?_
              exact ktg)
            obtain ⟨fs, hr, hrun, hended, hW⟩ := Xw_59.leaveW hS_59 hk_59 (v := some (.int (1 : Int32))) (fun h => by rw [Bd.returns] at h; cases h)
            refine ⟨_, _, pre_74 _ ?_, hrun, hended, _, _, rfl, ?_, ?_, hW.1, hW.2.1, hW.2.2.1, hW.2.2.2.mono (by decide) (by decide)⟩
            · show Steps p.tables e below (T_59.setTop (mkF m 266 #[.val (.int p0), .val (.int p1), .val (.int p2), .val (.int p3), .val (.int p4), .val (.long d), .second, .val (.long k), .second, .val (.double (sav (p0.toInt64) d)), .second, .val (.double (sav (p1.toInt64) d)), .second, .val (.double (sav ((p0.toInt64) * k) (d * k))), .second, .val (.int (p4 &&& (3 : Int32))), .val (.double (sav d d)), .second, .val (.double (0 : UInt64)), .second, .val (.int (1 : Int32))] [(.int (1 : Int32))])) _
              exact retN Xw_59 hx (t := .boolean) Bd.returns (by simp) (hb hby at_266) hr
            · show Q0 Z p0 p1 p2 p3 p4 h0 n0 _ T_59.heap _
              exact ⟨rfl, N_60⟩
            · show CHr Z consts_1 s.vm s.heap T_59.vm T_59.heap
              rw [hh]
              exact C_61.trans (CHv.at Xw_59 hZ hEL C_61.1)
          · skip
            have pre_75 : Rch p.tables e below (s₁.setTop (entryFrame m #[(.int p0), (.int p1), (.int p2), (.int p3), (.int p4)] maxLocals)) (T_59.setTop (mkF m 238 #[.val (.int p0), .val (.int p1), .val (.int p2), .val (.int p3), .val (.int p4), .val (.long d), .second, .val (.long k), .second, .val (.double (sav (p0.toInt64) d)), .second, .val (.double (sav (p1.toInt64) d)), .second, .val (.double (sav ((p0.toInt64) * k) (d * k))), .second, .val (.int (p4 &&& (3 : Int32))), .val (.double (sav d d)), .second, .val (.double (0 : UInt64)), .second, .val (.int (1 : Int32))] [])) := fun tgt ktg => pre_71 tgt (by
              show Steps p.tables e below (T_59.setTop (mkF m 235 #[.val (.int p0), .val (.int p1), .val (.int p2), .val (.int p3), .val (.int p4), .val (.long d), .second, .val (.long k), .second, .val (.double (sav (p0.toInt64) d)), .second, .val (.double (sav (p1.toInt64) d)), .second, .val (.double (sav ((p0.toInt64) * k) (d * k))), .second, .val (.int (p4 &&& (3 : Int32))), .val (.double (sav d d)), .second, .val (.double (0 : UInt64)), .second, .val (.int (1 : Int32))] [(.int (XT.cmpL (p0.toInt64) d))])) _
              refine XS.ifNo Xw_59.here hx rfl (hb hby at_235) rfl ((if0 _ _).trans (flt c_72).2.2.1) ?_
              exact ktg)
            have hr := own_r32 Hd c_67 c_72
            have pre_76 : Rch p.tables e below (s₁.setTop (entryFrame m #[(.int p0), (.int p1), (.int p2), (.int p3), (.int p4)] maxLocals)) (T_59.setTop (mkF m 266 #[.val (.int p0), .val (.int p1), .val (.int p2), .val (.int p3), .val (.int p4), .val (.long d), .second, .val (.long k), .second, .val (.double (sav (p0.toInt64) d)), .second, .val (.double (sav (p1.toInt64) d)), .second, .val (.double (sav ((p0.toInt64) * k) (d * k))), .second, .val (.int (p4 &&& (3 : Int32))), .val (.double (sav d d)), .second, .val (.double (0 : UInt64)), .second, .val (.int (1 : Int32))] [(.int (1 : Int32))])) := fun tgt ktg => pre_75 tgt (by
              show Steps p.tables e below (T_59.setTop (mkF m 238 #[.val (.int p0), .val (.int p1), .val (.int p2), .val (.int p3), .val (.int p4), .val (.long d), .second, .val (.long k), .second, .val (.double (sav (p0.toInt64) d)), .second, .val (.double (sav (p1.toInt64) d)), .second, .val (.double (sav ((p0.toInt64) * k) (d * k))), .second, .val (.int (p4 &&& (3 : Int32))), .val (.double (sav d d)), .second, .val (.double (0 : UInt64)), .second, .val (.int (1 : Int32))] [])) _
              refine XS.iload Xw_59.here hx rfl (hb hby at_238) rfl ?_
              show Steps p.tables e below (T_59.setTop (mkF m 240 #[.val (.int p0), .val (.int p1), .val (.int p2), .val (.int p3), .val (.int p4), .val (.long d), .second, .val (.long k), .second, .val (.double (sav (p0.toInt64) d)), .second, .val (.double (sav (p1.toInt64) d)), .second, .val (.double (sav ((p0.toInt64) * k) (d * k))), .second, .val (.int (p4 &&& (3 : Int32))), .val (.double (sav d d)), .second, .val (.double (0 : UInt64)), .second, .val (.int (1 : Int32))] [(.int (1 : Int32))])) _
              refine XS.ifNo Xw_59.here hx rfl (hb hby at_240) rfl ((if0 _ _).trans (feq (by decide : ¬ ((1 : Int32) = (0 : Int32)))).1) ?_
              show Steps p.tables e below (T_59.setTop (mkF m 243 #[.val (.int p0), .val (.int p1), .val (.int p2), .val (.int p3), .val (.int p4), .val (.long d), .second, .val (.long k), .second, .val (.double (sav (p0.toInt64) d)), .second, .val (.double (sav (p1.toInt64) d)), .second, .val (.double (sav ((p0.toInt64) * k) (d * k))), .second, .val (.int (p4 &&& (3 : Int32))), .val (.double (sav d d)), .second, .val (.double (0 : UInt64)), .second, .val (.int (1 : Int32))] [])) _
              refine XS.dload Xw_59.here hx rfl (hb hby at_243) rfl ?_
              show Steps p.tables e below (T_59.setTop (mkF m 245 #[.val (.int p0), .val (.int p1), .val (.int p2), .val (.int p3), .val (.int p4), .val (.long d), .second, .val (.long k), .second, .val (.double (sav (p0.toInt64) d)), .second, .val (.double (sav (p1.toInt64) d)), .second, .val (.double (sav ((p0.toInt64) * k) (d * k))), .second, .val (.int (p4 &&& (3 : Int32))), .val (.double (sav d d)), .second, .val (.double (0 : UInt64)), .second, .val (.int (1 : Int32))] [(.double (sav (p0.toInt64) d))])) _
              refine XS.dconst0 Xw_59.here hx rfl (hb hby at_245) (v := (0 : UInt64)) own_dc0 ?_
              show Steps p.tables e below (T_59.setTop (mkF m 246 #[.val (.int p0), .val (.int p1), .val (.int p2), .val (.int p3), .val (.int p4), .val (.long d), .second, .val (.long k), .second, .val (.double (sav (p0.toInt64) d)), .second, .val (.double (sav (p1.toInt64) d)), .second, .val (.double (sav ((p0.toInt64) * k) (d * k))), .second, .val (.int (p4 &&& (3 : Int32))), .val (.double (sav d d)), .second, .val (.double (0 : UInt64)), .second, .val (.int (1 : Int32))] [(.double (0 : UInt64)), (.double (sav (p0.toInt64) d))])) _
              refine XS.dcmpS Xw_59.here hx rfl (hb hby at_246) rfl rfl ?_
              show Steps p.tables e below (T_59.setTop (mkF m 247 #[.val (.int p0), .val (.int p1), .val (.int p2), .val (.int p3), .val (.int p4), .val (.long d), .second, .val (.long k), .second, .val (.double (sav (p0.toInt64) d)), .second, .val (.double (sav (p1.toInt64) d)), .second, .val (.double (sav ((p0.toInt64) * k) (d * k))), .second, .val (.int (p4 &&& (3 : Int32))), .val (.double (sav d d)), .second, .val (.double (0 : UInt64)), .second, .val (.int (1 : Int32))] [(.int (cmpValue (FP.dcmp (sav (p0.toInt64) d) (0 : UInt64)) .l))])) _
              refine XS.ifNo Xw_59.here hx rfl (hb hby at_247) rfl ((if0 _ _).trans (flt (own_nl hr.1)).1) ?_
              show Steps p.tables e below (T_59.setTop (mkF m 250 #[.val (.int p0), .val (.int p1), .val (.int p2), .val (.int p3), .val (.int p4), .val (.long d), .second, .val (.long k), .second, .val (.double (sav (p0.toInt64) d)), .second, .val (.double (sav (p1.toInt64) d)), .second, .val (.double (sav ((p0.toInt64) * k) (d * k))), .second, .val (.int (p4 &&& (3 : Int32))), .val (.double (sav d d)), .second, .val (.double (0 : UInt64)), .second, .val (.int (1 : Int32))] [])) _
              refine XS.dload Xw_59.here hx rfl (hb hby at_250) rfl ?_
              show Steps p.tables e below (T_59.setTop (mkF m 252 #[.val (.int p0), .val (.int p1), .val (.int p2), .val (.int p3), .val (.int p4), .val (.long d), .second, .val (.long k), .second, .val (.double (sav (p0.toInt64) d)), .second, .val (.double (sav (p1.toInt64) d)), .second, .val (.double (sav ((p0.toInt64) * k) (d * k))), .second, .val (.int (p4 &&& (3 : Int32))), .val (.double (sav d d)), .second, .val (.double (0 : UInt64)), .second, .val (.int (1 : Int32))] [(.double (sav (p0.toInt64) d))])) _
              refine XS.dconst1 Xw_59.here hx rfl (hb hby at_252) (v := (4607182418800017408 : UInt64)) own_dc1 ?_
              show Steps p.tables e below (T_59.setTop (mkF m 253 #[.val (.int p0), .val (.int p1), .val (.int p2), .val (.int p3), .val (.int p4), .val (.long d), .second, .val (.long k), .second, .val (.double (sav (p0.toInt64) d)), .second, .val (.double (sav (p1.toInt64) d)), .second, .val (.double (sav ((p0.toInt64) * k) (d * k))), .second, .val (.int (p4 &&& (3 : Int32))), .val (.double (sav d d)), .second, .val (.double (0 : UInt64)), .second, .val (.int (1 : Int32))] [(.double (4607182418800017408 : UInt64)), (.double (sav (p0.toInt64) d))])) _
              refine XS.dcmpS Xw_59.here hx rfl (hb hby at_253) rfl rfl ?_
              show Steps p.tables e below (T_59.setTop (mkF m 254 #[.val (.int p0), .val (.int p1), .val (.int p2), .val (.int p3), .val (.int p4), .val (.long d), .second, .val (.long k), .second, .val (.double (sav (p0.toInt64) d)), .second, .val (.double (sav (p1.toInt64) d)), .second, .val (.double (sav ((p0.toInt64) * k) (d * k))), .second, .val (.int (p4 &&& (3 : Int32))), .val (.double (sav d d)), .second, .val (.double (0 : UInt64)), .second, .val (.int (1 : Int32))] [(.int (cmpValue (FP.dcmp (sav (p0.toInt64) d) (4607182418800017408 : UInt64)) .g))])) _
              refine XS.ifNo Xw_59.here hx rfl (hb hby at_254) rfl ((if0 _ _).trans (flt (own_ng hr.2)).2.2.1) ?_
              show Steps p.tables e below (T_59.setTop (mkF m 257 #[.val (.int p0), .val (.int p1), .val (.int p2), .val (.int p3), .val (.int p4), .val (.long d), .second, .val (.long k), .second, .val (.double (sav (p0.toInt64) d)), .second, .val (.double (sav (p1.toInt64) d)), .second, .val (.double (sav ((p0.toInt64) * k) (d * k))), .second, .val (.int (p4 &&& (3 : Int32))), .val (.double (sav d d)), .second, .val (.double (0 : UInt64)), .second, .val (.int (1 : Int32))] [])) _
              refine XS.iconst Xw_59.here hx rfl (hb hby at_257) ?_
              show Steps p.tables e below (T_59.setTop (mkF m 258 #[.val (.int p0), .val (.int p1), .val (.int p2), .val (.int p3), .val (.int p4), .val (.long d), .second, .val (.long k), .second, .val (.double (sav (p0.toInt64) d)), .second, .val (.double (sav (p1.toInt64) d)), .second, .val (.double (sav ((p0.toInt64) * k) (d * k))), .second, .val (.int (p4 &&& (3 : Int32))), .val (.double (sav d d)), .second, .val (.double (0 : UInt64)), .second, .val (.int (1 : Int32))] [(.int (1 : Int32))])) _
              refine XS.goto Xw_59.here hx rfl (pc0 := 258) (pc' := 262) rfl (hb hby at_258) (by decide) (by decide) ?_
              show Steps p.tables e below (T_59.setTop (mkF m 262 #[.val (.int p0), .val (.int p1), .val (.int p2), .val (.int p3), .val (.int p4), .val (.long d), .second, .val (.long k), .second, .val (.double (sav (p0.toInt64) d)), .second, .val (.double (sav (p1.toInt64) d)), .second, .val (.double (sav ((p0.toInt64) * k) (d * k))), .second, .val (.int (p4 &&& (3 : Int32))), .val (.double (sav d d)), .second, .val (.double (0 : UInt64)), .second, .val (.int (1 : Int32))] [(.int (1 : Int32))])) _
              refine XS.istore Xw_59.here hx rfl (hb hby at_262) rfl (l' := #[.val (.int p0), .val (.int p1), .val (.int p2), .val (.int p3), .val (.int p4), .val (.long d), .second, .val (.long k), .second, .val (.double (sav (p0.toInt64) d)), .second, .val (.double (sav (p1.toInt64) d)), .second, .val (.double (sav ((p0.toInt64) * k) (d * k))), .second, .val (.int (p4 &&& (3 : Int32))), .val (.double (sav d d)), .second, .val (.double (0 : UInt64)), .second, .val (.int (1 : Int32))]) rfl ?_
              show Steps p.tables e below (T_59.setTop (mkF m 264 #[.val (.int p0), .val (.int p1), .val (.int p2), .val (.int p3), .val (.int p4), .val (.long d), .second, .val (.long k), .second, .val (.double (sav (p0.toInt64) d)), .second, .val (.double (sav (p1.toInt64) d)), .second, .val (.double (sav ((p0.toInt64) * k) (d * k))), .second, .val (.int (p4 &&& (3 : Int32))), .val (.double (sav d d)), .second, .val (.double (0 : UInt64)), .second, .val (.int (1 : Int32))] [])) _
              refine XS.iload Xw_59.here hx rfl (hb hby at_264) rfl ?_
              exact ktg)
            obtain ⟨fs, hr, hrun, hended, hW⟩ := Xw_59.leaveW hS_59 hk_59 (v := some (.int (1 : Int32))) (fun h => by rw [Bd.returns] at h; cases h)
            refine ⟨_, _, pre_76 _ ?_, hrun, hended, _, _, rfl, ?_, ?_, hW.1, hW.2.1, hW.2.2.1, hW.2.2.2.mono (by decide) (by decide)⟩
            · show Steps p.tables e below (T_59.setTop (mkF m 266 #[.val (.int p0), .val (.int p1), .val (.int p2), .val (.int p3), .val (.int p4), .val (.long d), .second, .val (.long k), .second, .val (.double (sav (p0.toInt64) d)), .second, .val (.double (sav (p1.toInt64) d)), .second, .val (.double (sav ((p0.toInt64) * k) (d * k))), .second, .val (.int (p4 &&& (3 : Int32))), .val (.double (sav d d)), .second, .val (.double (0 : UInt64)), .second, .val (.int (1 : Int32))] [(.int (1 : Int32))])) _
              exact retN Xw_59 hx (t := .boolean) Bd.returns (by simp) (hb hby at_266) hr
            · show Q0 Z p0 p1 p2 p3 p4 h0 n0 _ T_59.heap _
              exact ⟨rfl, N_60⟩
            · show CHr Z consts_1 s.vm s.heap T_59.vm T_59.heap
              rw [hh]
              exact C_61.trans (CHv.at Xw_59 hZ hEL C_61.1)
      · skip
        have pre_77 : Rch p.tables e below (s₁.setTop (entryFrame m #[(.int p0), (.int p1), (.int p2), (.int p3), (.int p4)] maxLocals)) (T_59.setTop (mkF m 183 #[.val (.int p0), .val (.int p1), .val (.int p2), .val (.int p3), .val (.int p4), .val (.long d), .second, .val (.long k), .second, .val (.double (sav (p0.toInt64) d)), .second, .val (.double (sav (p1.toInt64) d)), .second, .val (.double (sav ((p0.toInt64) * k) (d * k))), .second, .val (.int (p4 &&& (3 : Int32))), .val (.double (sav d d)), .second, .val (.double (0 : UInt64)), .second, .val (.int (1 : Int32))] [])) := fun tgt ktg => pre_63 tgt (by
          show Steps p.tables e below (T_59.setTop (mkF m 180 #[.val (.int p0), .val (.int p1), .val (.int p2), .val (.int p3), .val (.int p4), .val (.long d), .second, .val (.long k), .second, .val (.double (sav (p0.toInt64) d)), .second, .val (.double (sav (p1.toInt64) d)), .second, .val (.double (sav ((p0.toInt64) * k) (d * k))), .second, .val (.int (p4 &&& (3 : Int32))), .val (.double (sav d d)), .second, .val (.double (0 : UInt64)), .second, .val (.int (1 : Int32))] [(.int p1), (.int p0)])) _
          refine XS.icmpNo Xw_59.here hx rfl (hb hby at_180) rfl (flt c_64).2.2.1 ?_
          exact ktg)
        have pre_78 : Rch p.tables e below (s₁.setTop (entryFrame m #[(.int p0), (.int p1), (.int p2), (.int p3), (.int p4)] maxLocals)) (T_59.setTop (mkF m 227 #[.val (.int p0), .val (.int p1), .val (.int p2), .val (.int p3), .val (.int p4), .val (.long d), .second, .val (.long k), .second, .val (.double (sav (p0.toInt64) d)), .second, .val (.double (sav (p1.toInt64) d)), .second, .val (.double (sav ((p0.toInt64) * k) (d * k))), .second, .val (.int (p4 &&& (3 : Int32))), .val (.double (sav d d)), .second, .val (.double (0 : UInt64)), .second, .val (.int (1 : Int32))] [(.int p0)])) := fun tgt ktg => pre_77 tgt (by
          show Steps p.tables e below (T_59.setTop (mkF m 183 #[.val (.int p0), .val (.int p1), .val (.int p2), .val (.int p3), .val (.int p4), .val (.long d), .second, .val (.long k), .second, .val (.double (sav (p0.toInt64) d)), .second, .val (.double (sav (p1.toInt64) d)), .second, .val (.double (sav ((p0.toInt64) * k) (d * k))), .second, .val (.int (p4 &&& (3 : Int32))), .val (.double (sav d d)), .second, .val (.double (0 : UInt64)), .second, .val (.int (1 : Int32))] [])) _
          refine XS.iload Xw_59.here hx rfl (hb hby at_183) rfl ?_
          show Steps p.tables e below (T_59.setTop (mkF m 185 #[.val (.int p0), .val (.int p1), .val (.int p2), .val (.int p3), .val (.int p4), .val (.long d), .second, .val (.long k), .second, .val (.double (sav (p0.toInt64) d)), .second, .val (.double (sav (p1.toInt64) d)), .second, .val (.double (sav ((p0.toInt64) * k) (d * k))), .second, .val (.int (p4 &&& (3 : Int32))), .val (.double (sav d d)), .second, .val (.double (0 : UInt64)), .second, .val (.int (1 : Int32))] [(.int (1 : Int32))])) _
          refine XS.ifNo Xw_59.here hx rfl (hb hby at_185) rfl ((if0 _ _).trans (feq (by decide : ¬ ((1 : Int32) = (0 : Int32)))).1) ?_
          show Steps p.tables e below (T_59.setTop (mkF m 188 #[.val (.int p0), .val (.int p1), .val (.int p2), .val (.int p3), .val (.int p4), .val (.long d), .second, .val (.long k), .second, .val (.double (sav (p0.toInt64) d)), .second, .val (.double (sav (p1.toInt64) d)), .second, .val (.double (sav ((p0.toInt64) * k) (d * k))), .second, .val (.int (p4 &&& (3 : Int32))), .val (.double (sav d d)), .second, .val (.double (0 : UInt64)), .second, .val (.int (1 : Int32))] [])) _
          refine XS.dload Xw_59.here hx rfl (hb hby at_188) rfl ?_
          show Steps p.tables e below (T_59.setTop (mkF m 190 #[.val (.int p0), .val (.int p1), .val (.int p2), .val (.int p3), .val (.int p4), .val (.long d), .second, .val (.long k), .second, .val (.double (sav (p0.toInt64) d)), .second, .val (.double (sav (p1.toInt64) d)), .second, .val (.double (sav ((p0.toInt64) * k) (d * k))), .second, .val (.int (p4 &&& (3 : Int32))), .val (.double (sav d d)), .second, .val (.double (0 : UInt64)), .second, .val (.int (1 : Int32))] [(.double (sav (p0.toInt64) d))])) _
          refine XS.dload Xw_59.here hx rfl (hb hby at_190) rfl ?_
          show Steps p.tables e below (T_59.setTop (mkF m 192 #[.val (.int p0), .val (.int p1), .val (.int p2), .val (.int p3), .val (.int p4), .val (.long d), .second, .val (.long k), .second, .val (.double (sav (p0.toInt64) d)), .second, .val (.double (sav (p1.toInt64) d)), .second, .val (.double (sav ((p0.toInt64) * k) (d * k))), .second, .val (.int (p4 &&& (3 : Int32))), .val (.double (sav d d)), .second, .val (.double (0 : UInt64)), .second, .val (.int (1 : Int32))] [(.double (sav (p1.toInt64) d)), (.double (sav (p0.toInt64) d))])) _
          refine XS.dcmpS Xw_59.here hx rfl (hb hby at_192) rfl rfl ?_
          show Steps p.tables e below (T_59.setTop (mkF m 193 #[.val (.int p0), .val (.int p1), .val (.int p2), .val (.int p3), .val (.int p4), .val (.long d), .second, .val (.long k), .second, .val (.double (sav (p0.toInt64) d)), .second, .val (.double (sav (p1.toInt64) d)), .second, .val (.double (sav ((p0.toInt64) * k) (d * k))), .second, .val (.int (p4 &&& (3 : Int32))), .val (.double (sav d d)), .second, .val (.double (0 : UInt64)), .second, .val (.int (1 : Int32))] [(.int (cmpValue (FP.dcmp (sav (p0.toInt64) d) (sav (p1.toInt64) d)) .l))])) _
          refine XS.ifNo Xw_59.here hx rfl (hb hby at_193) rfl ((if0 _ _).trans (flt (own_nl (own_mo (own_cn p0) (own_cn p1) Hd (by rw [own_b, own_b]; exact Int.not_lt.mp (fun q => c_64 (Int32.lt_iff_toInt_lt.mpr q)))))).1) ?_
          show Steps p.tables e below (T_59.setTop (mkF m 196 #[.val (.int p0), .val (.int p1), .val (.int p2), .val (.int p3), .val (.int p4), .val (.long d), .second, .val (.long k), .second, .val (.double (sav (p0.toInt64) d)), .second, .val (.double (sav (p1.toInt64) d)), .second, .val (.double (sav ((p0.toInt64) * k) (d * k))), .second, .val (.int (p4 &&& (3 : Int32))), .val (.double (sav d d)), .second, .val (.double (0 : UInt64)), .second, .val (.int (1 : Int32))] [])) _
          refine XS.iconst Xw_59.here hx rfl (hb hby at_196) ?_
          show Steps p.tables e below (T_59.setTop (mkF m 197 #[.val (.int p0), .val (.int p1), .val (.int p2), .val (.int p3), .val (.int p4), .val (.long d), .second, .val (.long k), .second, .val (.double (sav (p0.toInt64) d)), .second, .val (.double (sav (p1.toInt64) d)), .second, .val (.double (sav ((p0.toInt64) * k) (d * k))), .second, .val (.int (p4 &&& (3 : Int32))), .val (.double (sav d d)), .second, .val (.double (0 : UInt64)), .second, .val (.int (1 : Int32))] [(.int (1 : Int32))])) _
          refine XS.goto Xw_59.here hx rfl (pc0 := 197) (pc' := 201) rfl (hb hby at_197) (by decide) (by decide) ?_
          show Steps p.tables e below (T_59.setTop (mkF m 201 #[.val (.int p0), .val (.int p1), .val (.int p2), .val (.int p3), .val (.int p4), .val (.long d), .second, .val (.long k), .second, .val (.double (sav (p0.toInt64) d)), .second, .val (.double (sav (p1.toInt64) d)), .second, .val (.double (sav ((p0.toInt64) * k) (d * k))), .second, .val (.int (p4 &&& (3 : Int32))), .val (.double (sav d d)), .second, .val (.double (0 : UInt64)), .second, .val (.int (1 : Int32))] [(.int (1 : Int32))])) _
          refine XS.istore Xw_59.here hx rfl (hb hby at_201) rfl (l' := #[.val (.int p0), .val (.int p1), .val (.int p2), .val (.int p3), .val (.int p4), .val (.long d), .second, .val (.long k), .second, .val (.double (sav (p0.toInt64) d)), .second, .val (.double (sav (p1.toInt64) d)), .second, .val (.double (sav ((p0.toInt64) * k) (d * k))), .second, .val (.int (p4 &&& (3 : Int32))), .val (.double (sav d d)), .second, .val (.double (0 : UInt64)), .second, .val (.int (1 : Int32))]) rfl ?_
          show Steps p.tables e below (T_59.setTop (mkF m 203 #[.val (.int p0), .val (.int p1), .val (.int p2), .val (.int p3), .val (.int p4), .val (.long d), .second, .val (.long k), .second, .val (.double (sav (p0.toInt64) d)), .second, .val (.double (sav (p1.toInt64) d)), .second, .val (.double (sav ((p0.toInt64) * k) (d * k))), .second, .val (.int (p4 &&& (3 : Int32))), .val (.double (sav d d)), .second, .val (.double (0 : UInt64)), .second, .val (.int (1 : Int32))] [])) _
          refine XS.goto Xw_59.here hx rfl (pc0 := 203) (pc' := 226) rfl (hb hby at_203) (by decide) (by decide) ?_
          show Steps p.tables e below (T_59.setTop (mkF m 226 #[.val (.int p0), .val (.int p1), .val (.int p2), .val (.int p3), .val (.int p4), .val (.long d), .second, .val (.long k), .second, .val (.double (sav (p0.toInt64) d)), .second, .val (.double (sav (p1.toInt64) d)), .second, .val (.double (sav ((p0.toInt64) * k) (d * k))), .second, .val (.int (p4 &&& (3 : Int32))), .val (.double (sav d d)), .second, .val (.double (0 : UInt64)), .second, .val (.int (1 : Int32))] [])) _
          refine XS.iloadN Xw_59.here hx rfl (hb hby at_226) rfl ?_
          exact ktg)
        by_cases c_79 : p0 < (0 : Int32)
        · skip
          have pre_80 : Rch p.tables e below (s₁.setTop (entryFrame m #[(.int p0), (.int p1), (.int p2), (.int p3), (.int p4)] maxLocals)) (T_59.setTop (mkF m 264 #[.val (.int p0), .val (.int p1), .val (.int p2), .val (.int p3), .val (.int p4), .val (.long d), .second, .val (.long k), .second, .val (.double (sav (p0.toInt64) d)), .second, .val (.double (sav (p1.toInt64) d)), .second, .val (.double (sav ((p0.toInt64) * k) (d * k))), .second, .val (.int (p4 &&& (3 : Int32))), .val (.double (sav d d)), .second, .val (.double (0 : UInt64)), .second, .val (.int (1 : Int32))] [])) := fun tgt ktg => pre_78 tgt (by
            show Steps p.tables e below (T_59.setTop (mkF m 227 #[.val (.int p0), .val (.int p1), .val (.int p2), .val (.int p3), .val (.int p4), .val (.long d), .second, .val (.long k), .second, .val (.double (sav (p0.toInt64) d)), .second, .val (.double (sav (p1.toInt64) d)), .second, .val (.double (sav ((p0.toInt64) * k) (d * k))), .second, .val (.int (p4 &&& (3 : Int32))), .val (.double (sav d d)), .second, .val (.double (0 : UInt64)), .second, .val (.int (1 : Int32))] [(.int p0)])) _
            refine XS.ifYes Xw_59.here hx rfl (pc0 := 227) (pc' := 264) rfl (hb hby at_227) rfl ((if0 _ _).trans (tlt c_79).1) (by decide) (by decide) ?_
            exact ktg)
          have pre_81 : Rch p.tables e below (s₁.setTop (entryFrame m #[(.int p0), (.int p1), (.int p2), (.int p3), (.int p4)] maxLocals)) (T_59.setTop (mkF m 266 #[.val (.int p0), .val (.int p1), .val (.int p2), .val (.int p3), .val (.int p4), .val (.long d), .second, .val (.long k), .second, .val (.double (sav (p0.toInt64) d)), .second, .val (.double (sav (p1.toInt64) d)), .second, .val (.double (sav ((p0.toInt64) * k) (d * k))), .second, .val (.int (p4 &&& (3 : Int32))), .val (.double (sav d d)), .second, .val (.double (0 : UInt64)), .second, .val (.int (1 : Int32))] [(.int (1 : Int32))])) := fun tgt ktg => pre_80 tgt (by
            show Steps p.tables e below (T_59.setTop (mkF m 264 #[.val (.int p0), .val (.int p1), .val (.int p2), .val (.int p3), .val (.int p4), .val (.long d), .second, .val (.long k), .second, .val (.double (sav (p0.toInt64) d)), .second, .val (.double (sav (p1.toInt64) d)), .second, .val (.double (sav ((p0.toInt64) * k) (d * k))), .second, .val (.int (p4 &&& (3 : Int32))), .val (.double (sav d d)), .second, .val (.double (0 : UInt64)), .second, .val (.int (1 : Int32))] [])) _
            refine XS.iload Xw_59.here hx rfl (hb hby at_264) rfl ?_
            exact ktg)
          obtain ⟨fs, hr, hrun, hended, hW⟩ := Xw_59.leaveW hS_59 hk_59 (v := some (.int (1 : Int32))) (fun h => by rw [Bd.returns] at h; cases h)
          refine ⟨_, _, pre_81 _ ?_, hrun, hended, _, _, rfl, ?_, ?_, hW.1, hW.2.1, hW.2.2.1, hW.2.2.2.mono (by decide) (by decide)⟩
          · show Steps p.tables e below (T_59.setTop (mkF m 266 #[.val (.int p0), .val (.int p1), .val (.int p2), .val (.int p3), .val (.int p4), .val (.long d), .second, .val (.long k), .second, .val (.double (sav (p0.toInt64) d)), .second, .val (.double (sav (p1.toInt64) d)), .second, .val (.double (sav ((p0.toInt64) * k) (d * k))), .second, .val (.int (p4 &&& (3 : Int32))), .val (.double (sav d d)), .second, .val (.double (0 : UInt64)), .second, .val (.int (1 : Int32))] [(.int (1 : Int32))])) _
            exact retN Xw_59 hx (t := .boolean) Bd.returns (by simp) (hb hby at_266) hr
          · show Q0 Z p0 p1 p2 p3 p4 h0 n0 _ T_59.heap _
            exact ⟨rfl, N_60⟩
          · show CHr Z consts_1 s.vm s.heap T_59.vm T_59.heap
            rw [hh]
            exact C_61.trans (CHv.at Xw_59 hZ hEL C_61.1)
        · skip
          have pre_82 : Rch p.tables e below (s₁.setTop (entryFrame m #[(.int p0), (.int p1), (.int p2), (.int p3), (.int p4)] maxLocals)) (T_59.setTop (mkF m 230 #[.val (.int p0), .val (.int p1), .val (.int p2), .val (.int p3), .val (.int p4), .val (.long d), .second, .val (.long k), .second, .val (.double (sav (p0.toInt64) d)), .second, .val (.double (sav (p1.toInt64) d)), .second, .val (.double (sav ((p0.toInt64) * k) (d * k))), .second, .val (.int (p4 &&& (3 : Int32))), .val (.double (sav d d)), .second, .val (.double (0 : UInt64)), .second, .val (.int (1 : Int32))] [])) := fun tgt ktg => pre_78 tgt (by
            show Steps p.tables e below (T_59.setTop (mkF m 227 #[.val (.int p0), .val (.int p1), .val (.int p2), .val (.int p3), .val (.int p4), .val (.long d), .second, .val (.long k), .second, .val (.double (sav (p0.toInt64) d)), .second, .val (.double (sav (p1.toInt64) d)), .second, .val (.double (sav ((p0.toInt64) * k) (d * k))), .second, .val (.int (p4 &&& (3 : Int32))), .val (.double (sav d d)), .second, .val (.double (0 : UInt64)), .second, .val (.int (1 : Int32))] [(.int p0)])) _
            refine XS.ifNo Xw_59.here hx rfl (hb hby at_227) rfl ((if0 _ _).trans (flt c_79).1) ?_
            exact ktg)
          have pre_83 : Rch p.tables e below (s₁.setTop (entryFrame m #[(.int p0), (.int p1), (.int p2), (.int p3), (.int p4)] maxLocals)) (T_59.setTop (mkF m 235 #[.val (.int p0), .val (.int p1), .val (.int p2), .val (.int p3), .val (.int p4), .val (.long d), .second, .val (.long k), .second, .val (.double (sav (p0.toInt64) d)), .second, .val (.double (sav (p1.toInt64) d)), .second, .val (.double (sav ((p0.toInt64) * k) (d * k))), .second, .val (.int (p4 &&& (3 : Int32))), .val (.double (sav d d)), .second, .val (.double (0 : UInt64)), .second, .val (.int (1 : Int32))] [(.int (XT.cmpL (p0.toInt64) d))])) := fun tgt ktg => pre_82 tgt (by
            show Steps p.tables e below (T_59.setTop (mkF m 230 #[.val (.int p0), .val (.int p1), .val (.int p2), .val (.int p3), .val (.int p4), .val (.long d), .second, .val (.long k), .second, .val (.double (sav (p0.toInt64) d)), .second, .val (.double (sav (p1.toInt64) d)), .second, .val (.double (sav ((p0.toInt64) * k) (d * k))), .second, .val (.int (p4 &&& (3 : Int32))), .val (.double (sav d d)), .second, .val (.double (0 : UInt64)), .second, .val (.int (1 : Int32))] [])) _
            refine XS.iloadN Xw_59.here hx rfl (hb hby at_230) rfl ?_
            show Steps p.tables e below (T_59.setTop (mkF m 231 #[.val (.int p0), .val (.int p1), .val (.int p2), .val (.int p3), .val (.int p4), .val (.long d), .second, .val (.long k), .second, .val (.double (sav (p0.toInt64) d)), .second, .val (.double (sav (p1.toInt64) d)), .second, .val (.double (sav ((p0.toInt64) * k) (d * k))), .second, .val (.int (p4 &&& (3 : Int32))), .val (.double (sav d d)), .second, .val (.double (0 : UInt64)), .second, .val (.int (1 : Int32))] [(.int p0)])) _
            refine XT.i2l Xw_59.here hx rfl (hb hby at_231) rfl ?_
            show Steps p.tables e below (T_59.setTop (mkF m 232 #[.val (.int p0), .val (.int p1), .val (.int p2), .val (.int p3), .val (.int p4), .val (.long d), .second, .val (.long k), .second, .val (.double (sav (p0.toInt64) d)), .second, .val (.double (sav (p1.toInt64) d)), .second, .val (.double (sav ((p0.toInt64) * k) (d * k))), .second, .val (.int (p4 &&& (3 : Int32))), .val (.double (sav d d)), .second, .val (.double (0 : UInt64)), .second, .val (.int (1 : Int32))] [(.long (p0.toInt64))])) _
            refine XT.lload Xw_59.here hx rfl (hb hby at_232) rfl ?_
            show Steps p.tables e below (T_59.setTop (mkF m 234 #[.val (.int p0), .val (.int p1), .val (.int p2), .val (.int p3), .val (.int p4), .val (.long d), .second, .val (.long k), .second, .val (.double (sav (p0.toInt64) d)), .second, .val (.double (sav (p1.toInt64) d)), .second, .val (.double (sav ((p0.toInt64) * k) (d * k))), .second, .val (.int (p4 &&& (3 : Int32))), .val (.double (sav d d)), .second, .val (.double (0 : UInt64)), .second, .val (.int (1 : Int32))] [(.long d), (.long (p0.toInt64))])) _
            refine XT.lcmp Xw_59.here hx rfl (hb hby at_234) rfl ?_
            exact ktg)
          by_cases c_84 : (0 : Int32) < (XT.cmpL (p0.toInt64) d)
          · skip
            have pre_85 : Rch p.tables e below (s₁.setTop (entryFrame m #[(.int p0), (.int p1), (.int p2), (.int p3), (.int p4)] maxLocals)) (T_59.setTop (mkF m 264 #[.val (.int p0), .val (.int p1), .val (.int p2), .val (.int p3), .val (.int p4), .val (.long d), .second, .val (.long k), .second, .val (.double (sav (p0.toInt64) d)), .second, .val (.double (sav (p1.toInt64) d)), .second, .val (.double (sav ((p0.toInt64) * k) (d * k))), .second, .val (.int (p4 &&& (3 : Int32))), .val (.double (sav d d)), .second, .val (.double (0 : UInt64)), .second, .val (.int (1 : Int32))] [])) := fun tgt ktg => pre_83 tgt (by
              show Steps p.tables e below (T_59.setTop (mkF m 235 #[.val (.int p0), .val (.int p1), .val (.int p2), .val (.int p3), .val (.int p4), .val (.long d), .second, .val (.long k), .second, .val (.double (sav (p0.toInt64) d)), .second, .val (.double (sav (p1.toInt64) d)), .second, .val (.double (sav ((p0.toInt64) * k) (d * k))), .second, .val (.int (p4 &&& (3 : Int32))), .val (.double (sav d d)), .second, .val (.double (0 : UInt64)), .second, .val (.int (1 : Int32))] [(.int (XT.cmpL (p0.toInt64) d))])) _
              refine XS.ifYes Xw_59.here hx rfl (pc0 := 235) (pc' := 264) rfl (hb hby at_235) rfl ((if0 _ _).trans (tlt c_84).2.2.1) (by decide) (by decide) ?_
              exact ktg)
            have pre_86 : Rch p.tables e below (s₁.setTop (entryFrame m #[(.int p0), (.int p1), (.int p2), (.int p3), (.int p4)] maxLocals)) (T_59.setTop (mkF m 266 #[.val (.int p0), .val (.int p1), .val (.int p2), .val (.int p3), .val (.int p4), .val (.long d), .second, .val (.long k), .second, .val (.double (sav (p0.toInt64) d)), .second, .val (.double (sav (p1.toInt64) d)), .second, .val (.double (sav ((p0.toInt64) * k) (d * k))), .second, .val (.int (p4 &&& (3 : Int32))), .val (.double (sav d d)), .second, .val (.double (0 : UInt64)), .second, .val (.int (1 : Int32))] [(.int (1 : Int32))])) := fun tgt ktg => pre_85 tgt (by
              show Steps p.tables e below (T_59.setTop (mkF m 264 #[.val (.int p0), .val (.int p1), .val (.int p2), .val (.int p3), .val (.int p4), .val (.long d), .second, .val (.long k), .second, .val (.double (sav (p0.toInt64) d)), .second, .val (.double (sav (p1.toInt64) d)), .second, .val (.double (sav ((p0.toInt64) * k) (d * k))), .second, .val (.int (p4 &&& (3 : Int32))), .val (.double (sav d d)), .second, .val (.double (0 : UInt64)), .second, .val (.int (1 : Int32))] [])) _
              refine XS.iload Xw_59.here hx rfl (hb hby at_264) rfl ?_
              exact ktg)
            obtain ⟨fs, hr, hrun, hended, hW⟩ := Xw_59.leaveW hS_59 hk_59 (v := some (.int (1 : Int32))) (fun h => by rw [Bd.returns] at h; cases h)
            refine ⟨_, _, pre_86 _ ?_, hrun, hended, _, _, rfl, ?_, ?_, hW.1, hW.2.1, hW.2.2.1, hW.2.2.2.mono (by decide) (by decide)⟩
            · show Steps p.tables e below (T_59.setTop (mkF m 266 #[.val (.int p0), .val (.int p1), .val (.int p2), .val (.int p3), .val (.int p4), .val (.long d), .second, .val (.long k), .second, .val (.double (sav (p0.toInt64) d)), .second, .val (.double (sav (p1.toInt64) d)), .second, .val (.double (sav ((p0.toInt64) * k) (d * k))), .second, .val (.int (p4 &&& (3 : Int32))), .val (.double (sav d d)), .second, .val (.double (0 : UInt64)), .second, .val (.int (1 : Int32))] [(.int (1 : Int32))])) _
              exact retN Xw_59 hx (t := .boolean) Bd.returns (by simp) (hb hby at_266) hr
            · show Q0 Z p0 p1 p2 p3 p4 h0 n0 _ T_59.heap _
              exact ⟨rfl, N_60⟩
            · show CHr Z consts_1 s.vm s.heap T_59.vm T_59.heap
              rw [hh]
              exact C_61.trans (CHv.at Xw_59 hZ hEL C_61.1)
          · skip
            have pre_87 : Rch p.tables e below (s₁.setTop (entryFrame m #[(.int p0), (.int p1), (.int p2), (.int p3), (.int p4)] maxLocals)) (T_59.setTop (mkF m 238 #[.val (.int p0), .val (.int p1), .val (.int p2), .val (.int p3), .val (.int p4), .val (.long d), .second, .val (.long k), .second, .val (.double (sav (p0.toInt64) d)), .second, .val (.double (sav (p1.toInt64) d)), .second, .val (.double (sav ((p0.toInt64) * k) (d * k))), .second, .val (.int (p4 &&& (3 : Int32))), .val (.double (sav d d)), .second, .val (.double (0 : UInt64)), .second, .val (.int (1 : Int32))] [])) := fun tgt ktg => pre_83 tgt (by
              show Steps p.tables e below (T_59.setTop (mkF m 235 #[.val (.int p0), .val (.int p1), .val (.int p2), .val (.int p3), .val (.int p4), .val (.long d), .second, .val (.long k), .second, .val (.double (sav (p0.toInt64) d)), .second, .val (.double (sav (p1.toInt64) d)), .second, .val (.double (sav ((p0.toInt64) * k) (d * k))), .second, .val (.int (p4 &&& (3 : Int32))), .val (.double (sav d d)), .second, .val (.double (0 : UInt64)), .second, .val (.int (1 : Int32))] [(.int (XT.cmpL (p0.toInt64) d))])) _
              refine XS.ifNo Xw_59.here hx rfl (hb hby at_235) rfl ((if0 _ _).trans (flt c_84).2.2.1) ?_
              exact ktg)
            have hr := own_r32 Hd c_79 c_84
            have pre_88 : Rch p.tables e below (s₁.setTop (entryFrame m #[(.int p0), (.int p1), (.int p2), (.int p3), (.int p4)] maxLocals)) (T_59.setTop (mkF m 266 #[.val (.int p0), .val (.int p1), .val (.int p2), .val (.int p3), .val (.int p4), .val (.long d), .second, .val (.long k), .second, .val (.double (sav (p0.toInt64) d)), .second, .val (.double (sav (p1.toInt64) d)), .second, .val (.double (sav ((p0.toInt64) * k) (d * k))), .second, .val (.int (p4 &&& (3 : Int32))), .val (.double (sav d d)), .second, .val (.double (0 : UInt64)), .second, .val (.int (1 : Int32))] [(.int (1 : Int32))])) := fun tgt ktg => pre_87 tgt (by
              show Steps p.tables e below (T_59.setTop (mkF m 238 #[.val (.int p0), .val (.int p1), .val (.int p2), .val (.int p3), .val (.int p4), .val (.long d), .second, .val (.long k), .second, .val (.double (sav (p0.toInt64) d)), .second, .val (.double (sav (p1.toInt64) d)), .second, .val (.double (sav ((p0.toInt64) * k) (d * k))), .second, .val (.int (p4 &&& (3 : Int32))), .val (.double (sav d d)), .second, .val (.double (0 : UInt64)), .second, .val (.int (1 : Int32))] [])) _
              refine XS.iload Xw_59.here hx rfl (hb hby at_238) rfl ?_
              show Steps p.tables e below (T_59.setTop (mkF m 240 #[.val (.int p0), .val (.int p1), .val (.int p2), .val (.int p3), .val (.int p4), .val (.long d), .second, .val (.long k), .second, .val (.double (sav (p0.toInt64) d)), .second, .val (.double (sav (p1.toInt64) d)), .second, .val (.double (sav ((p0.toInt64) * k) (d * k))), .second, .val (.int (p4 &&& (3 : Int32))), .val (.double (sav d d)), .second, .val (.double (0 : UInt64)), .second, .val (.int (1 : Int32))] [(.int (1 : Int32))])) _
              refine XS.ifNo Xw_59.here hx rfl (hb hby at_240) rfl ((if0 _ _).trans (feq (by decide : ¬ ((1 : Int32) = (0 : Int32)))).1) ?_
              show Steps p.tables e below (T_59.setTop (mkF m 243 #[.val (.int p0), .val (.int p1), .val (.int p2), .val (.int p3), .val (.int p4), .val (.long d), .second, .val (.long k), .second, .val (.double (sav (p0.toInt64) d)), .second, .val (.double (sav (p1.toInt64) d)), .second, .val (.double (sav ((p0.toInt64) * k) (d * k))), .second, .val (.int (p4 &&& (3 : Int32))), .val (.double (sav d d)), .second, .val (.double (0 : UInt64)), .second, .val (.int (1 : Int32))] [])) _
              refine XS.dload Xw_59.here hx rfl (hb hby at_243) rfl ?_
              show Steps p.tables e below (T_59.setTop (mkF m 245 #[.val (.int p0), .val (.int p1), .val (.int p2), .val (.int p3), .val (.int p4), .val (.long d), .second, .val (.long k), .second, .val (.double (sav (p0.toInt64) d)), .second, .val (.double (sav (p1.toInt64) d)), .second, .val (.double (sav ((p0.toInt64) * k) (d * k))), .second, .val (.int (p4 &&& (3 : Int32))), .val (.double (sav d d)), .second, .val (.double (0 : UInt64)), .second, .val (.int (1 : Int32))] [(.double (sav (p0.toInt64) d))])) _
              refine XS.dconst0 Xw_59.here hx rfl (hb hby at_245) (v := (0 : UInt64)) own_dc0 ?_
              show Steps p.tables e below (T_59.setTop (mkF m 246 #[.val (.int p0), .val (.int p1), .val (.int p2), .val (.int p3), .val (.int p4), .val (.long d), .second, .val (.long k), .second, .val (.double (sav (p0.toInt64) d)), .second, .val (.double (sav (p1.toInt64) d)), .second, .val (.double (sav ((p0.toInt64) * k) (d * k))), .second, .val (.int (p4 &&& (3 : Int32))), .val (.double (sav d d)), .second, .val (.double (0 : UInt64)), .second, .val (.int (1 : Int32))] [(.double (0 : UInt64)), (.double (sav (p0.toInt64) d))])) _
              refine XS.dcmpS Xw_59.here hx rfl (hb hby at_246) rfl rfl ?_
              show Steps p.tables e below (T_59.setTop (mkF m 247 #[.val (.int p0), .val (.int p1), .val (.int p2), .val (.int p3), .val (.int p4), .val (.long d), .second, .val (.long k), .second, .val (.double (sav (p0.toInt64) d)), .second, .val (.double (sav (p1.toInt64) d)), .second, .val (.double (sav ((p0.toInt64) * k) (d * k))), .second, .val (.int (p4 &&& (3 : Int32))), .val (.double (sav d d)), .second, .val (.double (0 : UInt64)), .second, .val (.int (1 : Int32))] [(.int (cmpValue (FP.dcmp (sav (p0.toInt64) d) (0 : UInt64)) .l))])) _
              refine XS.ifNo Xw_59.here hx rfl (hb hby at_247) rfl ((if0 _ _).trans (flt (own_nl hr.1)).1) ?_
              show Steps p.tables e below (T_59.setTop (mkF m 250 #[.val (.int p0), .val (.int p1), .val (.int p2), .val (.int p3), .val (.int p4), .val (.long d), .second, .val (.long k), .second, .val (.double (sav (p0.toInt64) d)), .second, .val (.double (sav (p1.toInt64) d)), .second, .val (.double (sav ((p0.toInt64) * k) (d * k))), .second, .val (.int (p4 &&& (3 : Int32))), .val (.double (sav d d)), .second, .val (.double (0 : UInt64)), .second, .val (.int (1 : Int32))] [])) _
              refine XS.dload Xw_59.here hx rfl (hb hby at_250) rfl ?_
              show Steps p.tables e below (T_59.setTop (mkF m 252 #[.val (.int p0), .val (.int p1), .val (.int p2), .val (.int p3), .val (.int p4), .val (.long d), .second, .val (.long k), .second, .val (.double (sav (p0.toInt64) d)), .second, .val (.double (sav (p1.toInt64) d)), .second, .val (.double (sav ((p0.toInt64) * k) (d * k))), .second, .val (.int (p4 &&& (3 : Int32))), .val (.double (sav d d)), .second, .val (.double (0 : UInt64)), .second, .val (.int (1 : Int32))] [(.double (sav (p0.toInt64) d))])) _
              refine XS.dconst1 Xw_59.here hx rfl (hb hby at_252) (v := (4607182418800017408 : UInt64)) own_dc1 ?_
              show Steps p.tables e below (T_59.setTop (mkF m 253 #[.val (.int p0), .val (.int p1), .val (.int p2), .val (.int p3), .val (.int p4), .val (.long d), .second, .val (.long k), .second, .val (.double (sav (p0.toInt64) d)), .second, .val (.double (sav (p1.toInt64) d)), .second, .val (.double (sav ((p0.toInt64) * k) (d * k))), .second, .val (.int (p4 &&& (3 : Int32))), .val (.double (sav d d)), .second, .val (.double (0 : UInt64)), .second, .val (.int (1 : Int32))] [(.double (4607182418800017408 : UInt64)), (.double (sav (p0.toInt64) d))])) _
              refine XS.dcmpS Xw_59.here hx rfl (hb hby at_253) rfl rfl ?_
              show Steps p.tables e below (T_59.setTop (mkF m 254 #[.val (.int p0), .val (.int p1), .val (.int p2), .val (.int p3), .val (.int p4), .val (.long d), .second, .val (.long k), .second, .val (.double (sav (p0.toInt64) d)), .second, .val (.double (sav (p1.toInt64) d)), .second, .val (.double (sav ((p0.toInt64) * k) (d * k))), .second, .val (.int (p4 &&& (3 : Int32))), .val (.double (sav d d)), .second, .val (.double (0 : UInt64)), .second, .val (.int (1 : Int32))] [(.int (cmpValue (FP.dcmp (sav (p0.toInt64) d) (4607182418800017408 : UInt64)) .g))])) _
              refine XS.ifNo Xw_59.here hx rfl (hb hby at_254) rfl ((if0 _ _).trans (flt (own_ng hr.2)).2.2.1) ?_
              show Steps p.tables e below (T_59.setTop (mkF m 257 #[.val (.int p0), .val (.int p1), .val (.int p2), .val (.int p3), .val (.int p4), .val (.long d), .second, .val (.long k), .second, .val (.double (sav (p0.toInt64) d)), .second, .val (.double (sav (p1.toInt64) d)), .second, .val (.double (sav ((p0.toInt64) * k) (d * k))), .second, .val (.int (p4 &&& (3 : Int32))), .val (.double (sav d d)), .second, .val (.double (0 : UInt64)), .second, .val (.int (1 : Int32))] [])) _
              refine XS.iconst Xw_59.here hx rfl (hb hby at_257) ?_
              show Steps p.tables e below (T_59.setTop (mkF m 258 #[.val (.int p0), .val (.int p1), .val (.int p2), .val (.int p3), .val (.int p4), .val (.long d), .second, .val (.long k), .second, .val (.double (sav (p0.toInt64) d)), .second, .val (.double (sav (p1.toInt64) d)), .second, .val (.double (sav ((p0.toInt64) * k) (d * k))), .second, .val (.int (p4 &&& (3 : Int32))), .val (.double (sav d d)), .second, .val (.double (0 : UInt64)), .second, .val (.int (1 : Int32))] [(.int (1 : Int32))])) _
              refine XS.goto Xw_59.here hx rfl (pc0 := 258) (pc' := 262) rfl (hb hby at_258) (by decide) (by decide) ?_
              show Steps p.tables e below (T_59.setTop (mkF m 262 #[.val (.int p0), .val (.int p1), .val (.int p2), .val (.int p3), .val (.int p4), .val (.long d), .second, .val (.long k), .second, .val (.double (sav (p0.toInt64) d)), .second, .val (.double (sav (p1.toInt64) d)), .second, .val (.double (sav ((p0.toInt64) * k) (d * k))), .second, .val (.int (p4 &&& (3 : Int32))), .val (.double (sav d d)), .second, .val (.double (0 : UInt64)), .second, .val (.int (1 : Int32))] [(.int (1 : Int32))])) _
              refine XS.istore Xw_59.here hx rfl (hb hby at_262) rfl (l' := #[.val (.int p0), .val (.int p1), .val (.int p2), .val (.int p3), .val (.int p4), .val (.long d), .second, .val (.long k), .second, .val (.double (sav (p0.toInt64) d)), .second, .val (.double (sav (p1.toInt64) d)), .second, .val (.double (sav ((p0.toInt64) * k) (d * k))), .second, .val (.int (p4 &&& (3 : Int32))), .val (.double (sav d d)), .second, .val (.double (0 : UInt64)), .second, .val (.int (1 : Int32))]) rfl ?_
              show Steps p.tables e below (T_59.setTop (mkF m 264 #[.val (.int p0), .val (.int p1), .val (.int p2), .val (.int p3), .val (.int p4), .val (.long d), .second, .val (.long k), .second, .val (.double (sav (p0.toInt64) d)), .second, .val (.double (sav (p1.toInt64) d)), .second, .val (.double (sav ((p0.toInt64) * k) (d * k))), .second, .val (.int (p4 &&& (3 : Int32))), .val (.double (sav d d)), .second, .val (.double (0 : UInt64)), .second, .val (.int (1 : Int32))] [])) _
              refine XS.iload Xw_59.here hx rfl (hb hby at_264) rfl ?_
              exact ktg)
            obtain ⟨fs, hr, hrun, hended, hW⟩ := Xw_59.leaveW hS_59 hk_59 (v := some (.int (1 : Int32))) (fun h => by rw [Bd.returns] at h; cases h)
            refine ⟨_, _, pre_88 _ ?_, hrun, hended, _, _, rfl, ?_, ?_, hW.1, hW.2.1, hW.2.2.1, hW.2.2.2.mono (by decide) (by decide)⟩
            · show Steps p.tables e below (T_59.setTop (mkF m 266 #[.val (.int p0), .val (.int p1), .val (.int p2), .val (.int p3), .val (.int p4), .val (.long d), .second, .val (.long k), .second, .val (.double (sav (p0.toInt64) d)), .second, .val (.double (sav (p1.toInt64) d)), .second, .val (.double (sav ((p0.toInt64) * k) (d * k))), .second, .val (.int (p4 &&& (3 : Int32))), .val (.double (sav d d)), .second, .val (.double (0 : UInt64)), .second, .val (.int (1 : Int32))] [(.int (1 : Int32))])) _
              exact retN Xw_59 hx (t := .boolean) Bd.returns (by simp) (hb hby at_266) hr
            · show Q0 Z p0 p1 p2 p3 p4 h0 n0 _ T_59.heap _
              exact ⟨rfl, N_60⟩
            · show CHr Z consts_1 s.vm s.heap T_59.vm T_59.heap
              rw [hh]
              exact C_61.trans (CHv.at Xw_59 hZ hEL C_61.1)
    · skip
      have pre_89 : Rch p.tables e below (s₁.setTop (entryFrame m #[(.int p0), (.int p1), (.int p2), (.int p3), (.int p4)] maxLocals)) (T_16.setTop (mkF m 98 #[.val (.int p0), .val (.int p1), .val (.int p2), .val (.int p3), .val (.int p4), .val (.long d), .second, .val (.long k), .second, .val (.double (sav (p0.toInt64) d)), .second, .val (.double (sav (p1.toInt64) d)), .second, .val (.double (sav ((p0.toInt64) * k) (d * k))), .second, .val (.int (p4 &&& (3 : Int32))), .unset, .unset, .unset, .unset, .unset] [])) := fun tgt ktg => pre_55 tgt (by
        show Steps p.tables e below (T_16.setTop (mkF m 80 #[.val (.int p0), .val (.int p1), .val (.int p2), .val (.int p3), .val (.int p4), .val (.long d), .second, .val (.long k), .second, .val (.double (sav (p0.toInt64) d)), .second, .val (.double (sav (p1.toInt64) d)), .second, .val (.double (sav ((p0.toInt64) * k) (d * k))), .second, .val (.int (p4 &&& (3 : Int32))), .unset, .unset, .unset, .unset, .unset] [(.int (1 : Int32)), (.int (p4 &&& (3 : Int32)))])) _
        refine XS.icmpYes Xw_16.here hx rfl (pc0 := 80) (pc' := 98) rfl (hb hby at_80) rfl (feq c_56).2 (by decide) (by decide) ?_
        exact ktg)
      have pre_90 : Rch p.tables e below (s₁.setTop (entryFrame m #[(.int p0), (.int p1), (.int p2), (.int p3), (.int p4)] maxLocals)) (T_16.setTop (mkF m 101 #[.val (.int p0), .val (.int p1), .val (.int p2), .val (.int p3), .val (.int p4), .val (.long d), .second, .val (.long k), .second, .val (.double (sav (p0.toInt64) d)), .second, .val (.double (sav (p1.toInt64) d)), .second, .val (.double (sav ((p0.toInt64) * k) (d * k))), .second, .val (.int (p4 &&& (3 : Int32))), .unset, .unset, .unset, .unset, .unset] [(.int (2 : Int32)), (.int (p4 &&& (3 : Int32)))])) := fun tgt ktg => pre_89 tgt (by
        show Steps p.tables e below (T_16.setTop (mkF m 98 #[.val (.int p0), .val (.int p1), .val (.int p2), .val (.int p3), .val (.int p4), .val (.long d), .second, .val (.long k), .second, .val (.double (sav (p0.toInt64) d)), .second, .val (.double (sav (p1.toInt64) d)), .second, .val (.double (sav ((p0.toInt64) * k) (d * k))), .second, .val (.int (p4 &&& (3 : Int32))), .unset, .unset, .unset, .unset, .unset] [])) _
        refine XS.iload Xw_16.here hx rfl (hb hby at_98) rfl ?_
        show Steps p.tables e below (T_16.setTop (mkF m 100 #[.val (.int p0), .val (.int p1), .val (.int p2), .val (.int p3), .val (.int p4), .val (.long d), .second, .val (.long k), .second, .val (.double (sav (p0.toInt64) d)), .second, .val (.double (sav (p1.toInt64) d)), .second, .val (.double (sav ((p0.toInt64) * k) (d * k))), .second, .val (.int (p4 &&& (3 : Int32))), .unset, .unset, .unset, .unset, .unset] [(.int (p4 &&& (3 : Int32)))])) _
        refine XS.iconst Xw_16.here hx rfl (hb hby at_100) ?_
        exact ktg)
      by_cases c_91 : (p4 &&& (3 : Int32)) = (2 : Int32)
      · skip
        have pre_92 : Rch p.tables e below (s₁.setTop (entryFrame m #[(.int p0), (.int p1), (.int p2), (.int p3), (.int p4)] maxLocals)) (T_16.setTop (mkF m 104 #[.val (.int p0), .val (.int p1), .val (.int p2), .val (.int p3), .val (.int p4), .val (.long d), .second, .val (.long k), .second, .val (.double (sav (p0.toInt64) d)), .second, .val (.double (sav (p1.toInt64) d)), .second, .val (.double (sav ((p0.toInt64) * k) (d * k))), .second, .val (.int (p4 &&& (3 : Int32))), .unset, .unset, .unset, .unset, .unset] [])) := fun tgt ktg => pre_90 tgt (by
          show Steps p.tables e below (T_16.setTop (mkF m 101 #[.val (.int p0), .val (.int p1), .val (.int p2), .val (.int p3), .val (.int p4), .val (.long d), .second, .val (.long k), .second, .val (.double (sav (p0.toInt64) d)), .second, .val (.double (sav (p1.toInt64) d)), .second, .val (.double (sav ((p0.toInt64) * k) (d * k))), .second, .val (.int (p4 &&& (3 : Int32))), .unset, .unset, .unset, .unset, .unset] [(.int (2 : Int32)), (.int (p4 &&& (3 : Int32)))])) _
          refine XS.icmpNo Xw_16.here hx rfl (hb hby at_101) rfl (teq c_91).2 ?_
          exact ktg)
        have pre_93 : Rch p.tables e below (s₁.setTop (entryFrame m #[(.int p0), (.int p1), (.int p2), (.int p3), (.int p4)] maxLocals)) (T_16.setTop (mkF m 112 #[.val (.int p0), .val (.int p1), .val (.int p2), .val (.int p3), .val (.int p4), .val (.long d), .second, .val (.long k), .second, .val (.double (sav (p0.toInt64) d)), .second, .val (.double (sav (p1.toInt64) d)), .second, .val (.double (sav ((p0.toInt64) * k) (d * k))), .second, .val (.int (p4 &&& (3 : Int32))), .unset, .unset, .unset, .unset, .unset] [(.long d), (.long ((2 : Int64) * d))])) := fun tgt ktg => pre_92 tgt (by
          show Steps p.tables e below (T_16.setTop (mkF m 104 #[.val (.int p0), .val (.int p1), .val (.int p2), .val (.int p3), .val (.int p4), .val (.long d), .second, .val (.long k), .second, .val (.double (sav (p0.toInt64) d)), .second, .val (.double (sav (p1.toInt64) d)), .second, .val (.double (sav ((p0.toInt64) * k) (d * k))), .second, .val (.int (p4 &&& (3 : Int32))), .unset, .unset, .unset, .unset, .unset] [])) _
          refine Xw_16.ldc2Long hx hown (mvT hZ (hw _ (List.mem_of_getElem? (i := 41) rfl))) (g := (mkF m 104 #[.val (.int p0), .val (.int p1), .val (.int p2), .val (.int p3), .val (.int p4), .val (.long d), .second, .val (.long k), .second, .val (.double (sav (p0.toInt64) d)), .second, .val (.double (sav (p1.toInt64) d)), .second, .val (.double (sav ((p0.toInt64) * k) (d * k))), .second, .val (.int (p4 &&& (3 : Int32))), .unset, .unset, .unset, .unset, .unset] [])) rfl (hb hby at_104) _ ?_
          show Steps p.tables e below (T_16.setTop (mkF m 107 #[.val (.int p0), .val (.int p1), .val (.int p2), .val (.int p3), .val (.int p4), .val (.long d), .second, .val (.long k), .second, .val (.double (sav (p0.toInt64) d)), .second, .val (.double (sav (p1.toInt64) d)), .second, .val (.double (sav ((p0.toInt64) * k) (d * k))), .second, .val (.int (p4 &&& (3 : Int32))), .unset, .unset, .unset, .unset, .unset] [(.long (2 : Int64))])) _
          refine XT.lload Xw_16.here hx rfl (hb hby at_107) rfl ?_
          show Steps p.tables e below (T_16.setTop (mkF m 109 #[.val (.int p0), .val (.int p1), .val (.int p2), .val (.int p3), .val (.int p4), .val (.long d), .second, .val (.long k), .second, .val (.double (sav (p0.toInt64) d)), .second, .val (.double (sav (p1.toInt64) d)), .second, .val (.double (sav ((p0.toInt64) * k) (d * k))), .second, .val (.int (p4 &&& (3 : Int32))), .unset, .unset, .unset, .unset, .unset] [(.long d), (.long (2 : Int64))])) _
          refine XT.lmul Xw_16.here hx rfl (hb hby at_109) rfl ?_
          show Steps p.tables e below (T_16.setTop (mkF m 110 #[.val (.int p0), .val (.int p1), .val (.int p2), .val (.int p3), .val (.int p4), .val (.long d), .second, .val (.long k), .second, .val (.double (sav (p0.toInt64) d)), .second, .val (.double (sav (p1.toInt64) d)), .second, .val (.double (sav ((p0.toInt64) * k) (d * k))), .second, .val (.int (p4 &&& (3 : Int32))), .unset, .unset, .unset, .unset, .unset] [(.long ((2 : Int64) * d))])) _
          refine XT.lload Xw_16.here hx rfl (hb hby at_110) rfl ?_
          exact ktg)
        obtain ⟨_, _, ⟨T_94, L_94, k_94, n_94⟩, -, X_94, hSn_94, hgr_94, ⟨Lc_94, hQ_94, l_94, y_94, z_94, hCn_94⟩, st_94⟩ := callSS Xw_16 hx (y := (⟨"com/example/prudent_spot/prudentspot/replay/OutcomeSavingPinLaw", "s", "(JJ)D"⟩ : MethodName)) hown (mvT hZ (hw _ (List.mem_of_getElem? (i := 1) rfl))) (mvT hZ (hw _ (List.mem_of_getElem? (i := 2) rfl))) (mvT hZ (hw _ (List.mem_of_getElem? (i := 3) rfl))) (mvT hZ (hw _ (List.mem_of_getElem? (i := 4) rfl))) (by decide) (backOfSH (W := 0) (rms l Z a0 hw [] ((2 : Int64) * d) d T_16.heap n0 z_19 Hd) hZ (hw _ (List.mem_of_getElem? (i := 4) rfl)) (hw _ (List.mem_of_getElem? (i := 3) rfl)) (by decide) (by decide) hEL C_18.1) (g := (mkF m 112 #[.val (.int p0), .val (.int p1), .val (.int p2), .val (.int p3), .val (.int p4), .val (.long d), .second, .val (.long k), .second, .val (.double (sav (p0.toInt64) d)), .second, .val (.double (sav (p1.toInt64) d)), .second, .val (.double (sav ((p0.toInt64) * k) (d * k))), .second, .val (.int (p4 &&& (3 : Int32))), .unset, .unset, .unset, .unset, .unset] [(.long d), (.long ((2 : Int64) * d))])) rfl (by rw [hml]; rfl) (argsL := [(.long ((2 : Int64) * d)), (.long d)]) (rest := []) (lenOf pd_2 rfl) rfl (by show 2 * 0 + _ ≤ _; exact Nat.le_of_eq rfl) (hb hby at_112) (fun _ _ => ⟨rfl, rfl, (by decide : 9 + 3 ≤ _), (by decide : 45 + 15 ≤ _)⟩)
        dsimp only [Pt.U, Pt.locs, Pt.cells, Pt.slots] at X_94 l_94 y_94 z_94 st_94 hQ_94 hSn_94 hgr_94 hCn_94
        subst l_94 y_94 z_94
        obtain ⟨rfl, Nq_94, Kq_94⟩ := hQ_94
        have N_95 := Fr.app N_17 Nq_94
        have pre_94 : Rch p.tables e below (s₁.setTop (entryFrame m #[(.int p0), (.int p1), (.int p2), (.int p3), (.int p4)] maxLocals)) (T_94.setTop (mkF m 115 #[.val (.int p0), .val (.int p1), .val (.int p2), .val (.int p3), .val (.int p4), .val (.long d), .second, .val (.long k), .second, .val (.double (sav (p0.toInt64) d)), .second, .val (.double (sav (p1.toInt64) d)), .second, .val (.double (sav ((p0.toInt64) * k) (d * k))), .second, .val (.int (p4 &&& (3 : Int32))), .unset, .unset, .unset, .unset, .unset] [(.double (sav ((2 : Int64) * d) d))])) := fun tgt ktg => pre_93 tgt (st_94.trans ktg)
        have hS_94 : s.Since T_94.vm T_94.heap.size := hS_16.trans hSn_94 (Nat.le_trans hk_16 hgr_94)
        have hk_94 := Nat.le_refl T_94.heap.size
        have hZn_94 : Z.Warmed39 T_94.vm := State.Warmed39.trans (t := s.setVm T_16.vm) hZ hSn_94.1
        have hownn_94 : T_94.vm.findClass "com/example/prudent_spot/prudentspot/replay/OutcomeSavingPinLaw" = some m.cls := by rw [hSn_94.1.alike.findClass]; exact hown
        have hZ := hZn_94
        have hown := hownn_94
        have Xw_94 : Stand p l e room_1 (s.setVm T_94.vm) m #[(.int p0), (.int p1), (.int p2), (.int p3), (.int p4)] below meth c T_94 _ _ _ := X_94
        have C_96 : CHr Z consts_1 s.vm h0 T_94.vm T_94.heap := C_18.trans hCn_94
        have z_97 : n0 ≤ T_94.heap.size := Nat.le_trans z_19 Kq_94.1
        have pre_98 : Rch p.tables e below (s₁.setTop (entryFrame m #[(.int p0), (.int p1), (.int p2), (.int p3), (.int p4)] maxLocals)) (T_94.setTop (mkF m 180 #[.val (.int p0), .val (.int p1), .val (.int p2), .val (.int p3), .val (.int p4), .val (.long d), .second, .val (.long k), .second, .val (.double (sav (p0.toInt64) d)), .second, .val (.double (sav (p1.toInt64) d)), .second, .val (.double (sav ((p0.toInt64) * k) (d * k))), .second, .val (.int (p4 &&& (3 : Int32))), .val (.double (sav ((2 : Int64) * d) d)), .second, .val (.double (13830554455654793216 : UInt64)), .second, .val (.int (1 : Int32))] [(.int p1), (.int p0)])) := fun tgt ktg => pre_94 tgt (by
          show Steps p.tables e below (T_94.setTop (mkF m 115 #[.val (.int p0), .val (.int p1), .val (.int p2), .val (.int p3), .val (.int p4), .val (.long d), .second, .val (.long k), .second, .val (.double (sav (p0.toInt64) d)), .second, .val (.double (sav (p1.toInt64) d)), .second, .val (.double (sav ((p0.toInt64) * k) (d * k))), .second, .val (.int (p4 &&& (3 : Int32))), .unset, .unset, .unset, .unset, .unset] [(.double (sav ((2 : Int64) * d) d))])) _
          refine XS.dstore Xw_94.here hx rfl (hb hby at_115) rfl (l' := #[.val (.int p0), .val (.int p1), .val (.int p2), .val (.int p3), .val (.int p4), .val (.long d), .second, .val (.long k), .second, .val (.double (sav (p0.toInt64) d)), .second, .val (.double (sav (p1.toInt64) d)), .second, .val (.double (sav ((p0.toInt64) * k) (d * k))), .second, .val (.int (p4 &&& (3 : Int32))), .val (.double (sav ((2 : Int64) * d) d)), .second, .unset, .unset, .unset]) rfl ?_
          show Steps p.tables e below (T_94.setTop (mkF m 117 #[.val (.int p0), .val (.int p1), .val (.int p2), .val (.int p3), .val (.int p4), .val (.long d), .second, .val (.long k), .second, .val (.double (sav (p0.toInt64) d)), .second, .val (.double (sav (p1.toInt64) d)), .second, .val (.double (sav ((p0.toInt64) * k) (d * k))), .second, .val (.int (p4 &&& (3 : Int32))), .val (.double (sav ((2 : Int64) * d) d)), .second, .unset, .unset, .unset] [])) _
          refine Xw_94.ldc2DoubleC hx hown (mvT hZ (hw _ (List.mem_of_getElem? (i := 43) rfl))) (g := (mkF m 117 #[.val (.int p0), .val (.int p1), .val (.int p2), .val (.int p3), .val (.int p4), .val (.long d), .second, .val (.long k), .second, .val (.double (sav (p0.toInt64) d)), .second, .val (.double (sav (p1.toInt64) d)), .second, .val (.double (sav ((p0.toInt64) * k) (d * k))), .second, .val (.int (p4 &&& (3 : Int32))), .val (.double (sav ((2 : Int64) * d) d)), .second, .unset, .unset, .unset] [])) rfl (hb hby at_117) _ ?_
          show Steps p.tables e below (T_94.setTop (mkF m 120 #[.val (.int p0), .val (.int p1), .val (.int p2), .val (.int p3), .val (.int p4), .val (.long d), .second, .val (.long k), .second, .val (.double (sav (p0.toInt64) d)), .second, .val (.double (sav (p1.toInt64) d)), .second, .val (.double (sav ((p0.toInt64) * k) (d * k))), .second, .val (.int (p4 &&& (3 : Int32))), .val (.double (sav ((2 : Int64) * d) d)), .second, .unset, .unset, .unset] [(.double (13830554455654793216 : UInt64))])) _
          refine XS.dstore Xw_94.here hx rfl (hb hby at_120) rfl (l' := #[.val (.int p0), .val (.int p1), .val (.int p2), .val (.int p3), .val (.int p4), .val (.long d), .second, .val (.long k), .second, .val (.double (sav (p0.toInt64) d)), .second, .val (.double (sav (p1.toInt64) d)), .second, .val (.double (sav ((p0.toInt64) * k) (d * k))), .second, .val (.int (p4 &&& (3 : Int32))), .val (.double (sav ((2 : Int64) * d) d)), .second, .val (.double (13830554455654793216 : UInt64)), .second, .unset]) rfl ?_
          show Steps p.tables e below (T_94.setTop (mkF m 122 #[.val (.int p0), .val (.int p1), .val (.int p2), .val (.int p3), .val (.int p4), .val (.long d), .second, .val (.long k), .second, .val (.double (sav (p0.toInt64) d)), .second, .val (.double (sav (p1.toInt64) d)), .second, .val (.double (sav ((p0.toInt64) * k) (d * k))), .second, .val (.int (p4 &&& (3 : Int32))), .val (.double (sav ((2 : Int64) * d) d)), .second, .val (.double (13830554455654793216 : UInt64)), .second, .unset] [])) _
          refine XS.goto Xw_94.here hx rfl (pc0 := 122) (pc' := 143) rfl (hb hby at_122) (by decide) (by decide) ?_
          show Steps p.tables e below (T_94.setTop (mkF m 143 #[.val (.int p0), .val (.int p1), .val (.int p2), .val (.int p3), .val (.int p4), .val (.long d), .second, .val (.long k), .second, .val (.double (sav (p0.toInt64) d)), .second, .val (.double (sav (p1.toInt64) d)), .second, .val (.double (sav ((p0.toInt64) * k) (d * k))), .second, .val (.int (p4 &&& (3 : Int32))), .val (.double (sav ((2 : Int64) * d) d)), .second, .val (.double (13830554455654793216 : UInt64)), .second, .unset] [])) _
          refine XS.dload Xw_94.here hx rfl (hb hby at_143) rfl ?_
          show Steps p.tables e below (T_94.setTop (mkF m 145 #[.val (.int p0), .val (.int p1), .val (.int p2), .val (.int p3), .val (.int p4), .val (.long d), .second, .val (.long k), .second, .val (.double (sav (p0.toInt64) d)), .second, .val (.double (sav (p1.toInt64) d)), .second, .val (.double (sav ((p0.toInt64) * k) (d * k))), .second, .val (.int (p4 &&& (3 : Int32))), .val (.double (sav ((2 : Int64) * d) d)), .second, .val (.double (13830554455654793216 : UInt64)), .second, .unset] [(.double (sav ((2 : Int64) * d) d))])) _
          refine XS.dload Xw_94.here hx rfl (hb hby at_145) rfl ?_
          show Steps p.tables e below (T_94.setTop (mkF m 147 #[.val (.int p0), .val (.int p1), .val (.int p2), .val (.int p3), .val (.int p4), .val (.long d), .second, .val (.long k), .second, .val (.double (sav (p0.toInt64) d)), .second, .val (.double (sav (p1.toInt64) d)), .second, .val (.double (sav ((p0.toInt64) * k) (d * k))), .second, .val (.int (p4 &&& (3 : Int32))), .val (.double (sav ((2 : Int64) * d) d)), .second, .val (.double (13830554455654793216 : UInt64)), .second, .unset] [(.double (13830554455654793216 : UInt64)), (.double (sav ((2 : Int64) * d) d))])) _
          refine XS.dcmpS Xw_94.here hx rfl (hb hby at_147) rfl rfl ?_
          show Steps p.tables e below (T_94.setTop (mkF m 148 #[.val (.int p0), .val (.int p1), .val (.int p2), .val (.int p3), .val (.int p4), .val (.long d), .second, .val (.long k), .second, .val (.double (sav (p0.toInt64) d)), .second, .val (.double (sav (p1.toInt64) d)), .second, .val (.double (sav ((p0.toInt64) * k) (d * k))), .second, .val (.int (p4 &&& (3 : Int32))), .val (.double (sav ((2 : Int64) * d) d)), .second, .val (.double (13830554455654793216 : UInt64)), .second, .unset] [(.int (cmpValue (FP.dcmp (sav ((2 : Int64) * d) d) (13830554455654793216 : UInt64)) .l))])) _
          refine XS.ifNo Xw_94.here hx rfl (hb hby at_148) rfl ((if0 _ _).trans (teq (own_k0 (own_sp2 Hd (own_dd hd)))).2) ?_
          show Steps p.tables e below (T_94.setTop (mkF m 151 #[.val (.int p0), .val (.int p1), .val (.int p2), .val (.int p3), .val (.int p4), .val (.long d), .second, .val (.long k), .second, .val (.double (sav (p0.toInt64) d)), .second, .val (.double (sav (p1.toInt64) d)), .second, .val (.double (sav ((p0.toInt64) * k) (d * k))), .second, .val (.int (p4 &&& (3 : Int32))), .val (.double (sav ((2 : Int64) * d) d)), .second, .val (.double (13830554455654793216 : UInt64)), .second, .unset] [])) _
          refine XS.iconst Xw_94.here hx rfl (hb hby at_151) ?_
          show Steps p.tables e below (T_94.setTop (mkF m 152 #[.val (.int p0), .val (.int p1), .val (.int p2), .val (.int p3), .val (.int p4), .val (.long d), .second, .val (.long k), .second, .val (.double (sav (p0.toInt64) d)), .second, .val (.double (sav (p1.toInt64) d)), .second, .val (.double (sav ((p0.toInt64) * k) (d * k))), .second, .val (.int (p4 &&& (3 : Int32))), .val (.double (sav ((2 : Int64) * d) d)), .second, .val (.double (13830554455654793216 : UInt64)), .second, .unset] [(.int (1 : Int32))])) _
          refine XS.goto Xw_94.here hx rfl (pc0 := 152) (pc' := 156) rfl (hb hby at_152) (by decide) (by decide) ?_
          show Steps p.tables e below (T_94.setTop (mkF m 156 #[.val (.int p0), .val (.int p1), .val (.int p2), .val (.int p3), .val (.int p4), .val (.long d), .second, .val (.long k), .second, .val (.double (sav (p0.toInt64) d)), .second, .val (.double (sav (p1.toInt64) d)), .second, .val (.double (sav ((p0.toInt64) * k) (d * k))), .second, .val (.int (p4 &&& (3 : Int32))), .val (.double (sav ((2 : Int64) * d) d)), .second, .val (.double (13830554455654793216 : UInt64)), .second, .unset] [(.int (1 : Int32))])) _
          refine XS.istore Xw_94.here hx rfl (hb hby at_156) rfl (l' := #[.val (.int p0), .val (.int p1), .val (.int p2), .val (.int p3), .val (.int p4), .val (.long d), .second, .val (.long k), .second, .val (.double (sav (p0.toInt64) d)), .second, .val (.double (sav (p1.toInt64) d)), .second, .val (.double (sav ((p0.toInt64) * k) (d * k))), .second, .val (.int (p4 &&& (3 : Int32))), .val (.double (sav ((2 : Int64) * d) d)), .second, .val (.double (13830554455654793216 : UInt64)), .second, .val (.int (1 : Int32))]) rfl ?_
          show Steps p.tables e below (T_94.setTop (mkF m 158 #[.val (.int p0), .val (.int p1), .val (.int p2), .val (.int p3), .val (.int p4), .val (.long d), .second, .val (.long k), .second, .val (.double (sav (p0.toInt64) d)), .second, .val (.double (sav (p1.toInt64) d)), .second, .val (.double (sav ((p0.toInt64) * k) (d * k))), .second, .val (.int (p4 &&& (3 : Int32))), .val (.double (sav ((2 : Int64) * d) d)), .second, .val (.double (13830554455654793216 : UInt64)), .second, .val (.int (1 : Int32))] [])) _
          refine XS.iload Xw_94.here hx rfl (hb hby at_158) rfl ?_
          show Steps p.tables e below (T_94.setTop (mkF m 160 #[.val (.int p0), .val (.int p1), .val (.int p2), .val (.int p3), .val (.int p4), .val (.long d), .second, .val (.long k), .second, .val (.double (sav (p0.toInt64) d)), .second, .val (.double (sav (p1.toInt64) d)), .second, .val (.double (sav ((p0.toInt64) * k) (d * k))), .second, .val (.int (p4 &&& (3 : Int32))), .val (.double (sav ((2 : Int64) * d) d)), .second, .val (.double (13830554455654793216 : UInt64)), .second, .val (.int (1 : Int32))] [(.int (1 : Int32))])) _
          refine XS.ifNo Xw_94.here hx rfl (hb hby at_160) rfl ((if0 _ _).trans (feq (by decide : ¬ ((1 : Int32) = (0 : Int32)))).1) ?_
          show Steps p.tables e below (T_94.setTop (mkF m 163 #[.val (.int p0), .val (.int p1), .val (.int p2), .val (.int p3), .val (.int p4), .val (.long d), .second, .val (.long k), .second, .val (.double (sav (p0.toInt64) d)), .second, .val (.double (sav (p1.toInt64) d)), .second, .val (.double (sav ((p0.toInt64) * k) (d * k))), .second, .val (.int (p4 &&& (3 : Int32))), .val (.double (sav ((2 : Int64) * d) d)), .second, .val (.double (13830554455654793216 : UInt64)), .second, .val (.int (1 : Int32))] [])) _
          refine XS.dload Xw_94.here hx rfl (hb hby at_163) rfl ?_
          show Steps p.tables e below (T_94.setTop (mkF m 165 #[.val (.int p0), .val (.int p1), .val (.int p2), .val (.int p3), .val (.int p4), .val (.long d), .second, .val (.long k), .second, .val (.double (sav (p0.toInt64) d)), .second, .val (.double (sav (p1.toInt64) d)), .second, .val (.double (sav ((p0.toInt64) * k) (d * k))), .second, .val (.int (p4 &&& (3 : Int32))), .val (.double (sav ((2 : Int64) * d) d)), .second, .val (.double (13830554455654793216 : UInt64)), .second, .val (.int (1 : Int32))] [(.double (sav ((p0.toInt64) * k) (d * k)))])) _
          refine XS.dload Xw_94.here hx rfl (hb hby at_165) rfl ?_
          show Steps p.tables e below (T_94.setTop (mkF m 167 #[.val (.int p0), .val (.int p1), .val (.int p2), .val (.int p3), .val (.int p4), .val (.long d), .second, .val (.long k), .second, .val (.double (sav (p0.toInt64) d)), .second, .val (.double (sav (p1.toInt64) d)), .second, .val (.double (sav ((p0.toInt64) * k) (d * k))), .second, .val (.int (p4 &&& (3 : Int32))), .val (.double (sav ((2 : Int64) * d) d)), .second, .val (.double (13830554455654793216 : UInt64)), .second, .val (.int (1 : Int32))] [(.double (sav (p0.toInt64) d)), (.double (sav ((p0.toInt64) * k) (d * k)))])) _
          refine XS.dcmpS Xw_94.here hx rfl (hb hby at_167) rfl rfl ?_
          show Steps p.tables e below (T_94.setTop (mkF m 168 #[.val (.int p0), .val (.int p1), .val (.int p2), .val (.int p3), .val (.int p4), .val (.long d), .second, .val (.long k), .second, .val (.double (sav (p0.toInt64) d)), .second, .val (.double (sav (p1.toInt64) d)), .second, .val (.double (sav ((p0.toInt64) * k) (d * k))), .second, .val (.int (p4 &&& (3 : Int32))), .val (.double (sav ((2 : Int64) * d) d)), .second, .val (.double (13830554455654793216 : UInt64)), .second, .val (.int (1 : Int32))] [(.int (cmpValue (FP.dcmp (sav ((p0.toInt64) * k) (d * k)) (sav (p0.toInt64) d)) .l))])) _
          refine XS.ifNo Xw_94.here hx rfl (hb hby at_168) rfl ((if0 _ _).trans (teq (own_scl (c := p0) hd hk)).2) ?_
          show Steps p.tables e below (T_94.setTop (mkF m 171 #[.val (.int p0), .val (.int p1), .val (.int p2), .val (.int p3), .val (.int p4), .val (.long d), .second, .val (.long k), .second, .val (.double (sav (p0.toInt64) d)), .second, .val (.double (sav (p1.toInt64) d)), .second, .val (.double (sav ((p0.toInt64) * k) (d * k))), .second, .val (.int (p4 &&& (3 : Int32))), .val (.double (sav ((2 : Int64) * d) d)), .second, .val (.double (13830554455654793216 : UInt64)), .second, .val (.int (1 : Int32))] [])) _
          refine XS.iconst Xw_94.here hx rfl (hb hby at_171) ?_
          show Steps p.tables e below (T_94.setTop (mkF m 172 #[.val (.int p0), .val (.int p1), .val (.int p2), .val (.int p3), .val (.int p4), .val (.long d), .second, .val (.long k), .second, .val (.double (sav (p0.toInt64) d)), .second, .val (.double (sav (p1.toInt64) d)), .second, .val (.double (sav ((p0.toInt64) * k) (d * k))), .second, .val (.int (p4 &&& (3 : Int32))), .val (.double (sav ((2 : Int64) * d) d)), .second, .val (.double (13830554455654793216 : UInt64)), .second, .val (.int (1 : Int32))] [(.int (1 : Int32))])) _
          refine XS.goto Xw_94.here hx rfl (pc0 := 172) (pc' := 176) rfl (hb hby at_172) (by decide) (by decide) ?_
          show Steps p.tables e below (T_94.setTop (mkF m 176 #[.val (.int p0), .val (.int p1), .val (.int p2), .val (.int p3), .val (.int p4), .val (.long d), .second, .val (.long k), .second, .val (.double (sav (p0.toInt64) d)), .second, .val (.double (sav (p1.toInt64) d)), .second, .val (.double (sav ((p0.toInt64) * k) (d * k))), .second, .val (.int (p4 &&& (3 : Int32))), .val (.double (sav ((2 : Int64) * d) d)), .second, .val (.double (13830554455654793216 : UInt64)), .second, .val (.int (1 : Int32))] [(.int (1 : Int32))])) _
          refine XS.istore Xw_94.here hx rfl (hb hby at_176) rfl (l' := #[.val (.int p0), .val (.int p1), .val (.int p2), .val (.int p3), .val (.int p4), .val (.long d), .second, .val (.long k), .second, .val (.double (sav (p0.toInt64) d)), .second, .val (.double (sav (p1.toInt64) d)), .second, .val (.double (sav ((p0.toInt64) * k) (d * k))), .second, .val (.int (p4 &&& (3 : Int32))), .val (.double (sav ((2 : Int64) * d) d)), .second, .val (.double (13830554455654793216 : UInt64)), .second, .val (.int (1 : Int32))]) rfl ?_
          show Steps p.tables e below (T_94.setTop (mkF m 178 #[.val (.int p0), .val (.int p1), .val (.int p2), .val (.int p3), .val (.int p4), .val (.long d), .second, .val (.long k), .second, .val (.double (sav (p0.toInt64) d)), .second, .val (.double (sav (p1.toInt64) d)), .second, .val (.double (sav ((p0.toInt64) * k) (d * k))), .second, .val (.int (p4 &&& (3 : Int32))), .val (.double (sav ((2 : Int64) * d) d)), .second, .val (.double (13830554455654793216 : UInt64)), .second, .val (.int (1 : Int32))] [])) _
          refine XS.iloadN Xw_94.here hx rfl (hb hby at_178) rfl ?_
          show Steps p.tables e below (T_94.setTop (mkF m 179 #[.val (.int p0), .val (.int p1), .val (.int p2), .val (.int p3), .val (.int p4), .val (.long d), .second, .val (.long k), .second, .val (.double (sav (p0.toInt64) d)), .second, .val (.double (sav (p1.toInt64) d)), .second, .val (.double (sav ((p0.toInt64) * k) (d * k))), .second, .val (.int (p4 &&& (3 : Int32))), .val (.double (sav ((2 : Int64) * d) d)), .second, .val (.double (13830554455654793216 : UInt64)), .second, .val (.int (1 : Int32))] [(.int p0)])) _
          refine XS.iloadN Xw_94.here hx rfl (hb hby at_179) rfl ?_
          exact ktg)
        by_cases c_99 : p1 < p0
        · skip
          have pre_100 : Rch p.tables e below (s₁.setTop (entryFrame m #[(.int p0), (.int p1), (.int p2), (.int p3), (.int p4)] maxLocals)) (T_94.setTop (mkF m 206 #[.val (.int p0), .val (.int p1), .val (.int p2), .val (.int p3), .val (.int p4), .val (.long d), .second, .val (.long k), .second, .val (.double (sav (p0.toInt64) d)), .second, .val (.double (sav (p1.toInt64) d)), .second, .val (.double (sav ((p0.toInt64) * k) (d * k))), .second, .val (.int (p4 &&& (3 : Int32))), .val (.double (sav ((2 : Int64) * d) d)), .second, .val (.double (13830554455654793216 : UInt64)), .second, .val (.int (1 : Int32))] [])) := fun tgt ktg => pre_98 tgt (by
            show Steps p.tables e below (T_94.setTop (mkF m 180 #[.val (.int p0), .val (.int p1), .val (.int p2), .val (.int p3), .val (.int p4), .val (.long d), .second, .val (.long k), .second, .val (.double (sav (p0.toInt64) d)), .second, .val (.double (sav (p1.toInt64) d)), .second, .val (.double (sav ((p0.toInt64) * k) (d * k))), .second, .val (.int (p4 &&& (3 : Int32))), .val (.double (sav ((2 : Int64) * d) d)), .second, .val (.double (13830554455654793216 : UInt64)), .second, .val (.int (1 : Int32))] [(.int p1), (.int p0)])) _
            refine XS.icmpYes Xw_94.here hx rfl (pc0 := 180) (pc' := 206) rfl (hb hby at_180) rfl (tlt c_99).2.2.1 (by decide) (by decide) ?_
            exact ktg)
          have pre_101 : Rch p.tables e below (s₁.setTop (entryFrame m #[(.int p0), (.int p1), (.int p2), (.int p3), (.int p4)] maxLocals)) (T_94.setTop (mkF m 227 #[.val (.int p0), .val (.int p1), .val (.int p2), .val (.int p3), .val (.int p4), .val (.long d), .second, .val (.long k), .second, .val (.double (sav (p0.toInt64) d)), .second, .val (.double (sav (p1.toInt64) d)), .second, .val (.double (sav ((p0.toInt64) * k) (d * k))), .second, .val (.int (p4 &&& (3 : Int32))), .val (.double (sav ((2 : Int64) * d) d)), .second, .val (.double (13830554455654793216 : UInt64)), .second, .val (.int (1 : Int32))] [(.int p0)])) := fun tgt ktg => pre_100 tgt (by
            show Steps p.tables e below (T_94.setTop (mkF m 206 #[.val (.int p0), .val (.int p1), .val (.int p2), .val (.int p3), .val (.int p4), .val (.long d), .second, .val (.long k), .second, .val (.double (sav (p0.toInt64) d)), .second, .val (.double (sav (p1.toInt64) d)), .second, .val (.double (sav ((p0.toInt64) * k) (d * k))), .second, .val (.int (p4 &&& (3 : Int32))), .val (.double (sav ((2 : Int64) * d) d)), .second, .val (.double (13830554455654793216 : UInt64)), .second, .val (.int (1 : Int32))] [])) _
            refine XS.iload Xw_94.here hx rfl (hb hby at_206) rfl ?_
            show Steps p.tables e below (T_94.setTop (mkF m 208 #[.val (.int p0), .val (.int p1), .val (.int p2), .val (.int p3), .val (.int p4), .val (.long d), .second, .val (.long k), .second, .val (.double (sav (p0.toInt64) d)), .second, .val (.double (sav (p1.toInt64) d)), .second, .val (.double (sav ((p0.toInt64) * k) (d * k))), .second, .val (.int (p4 &&& (3 : Int32))), .val (.double (sav ((2 : Int64) * d) d)), .second, .val (.double (13830554455654793216 : UInt64)), .second, .val (.int (1 : Int32))] [(.int (1 : Int32))])) _
            refine XS.ifNo Xw_94.here hx rfl (hb hby at_208) rfl ((if0 _ _).trans (feq (by decide : ¬ ((1 : Int32) = (0 : Int32)))).1) ?_
            show Steps p.tables e below (T_94.setTop (mkF m 211 #[.val (.int p0), .val (.int p1), .val (.int p2), .val (.int p3), .val (.int p4), .val (.long d), .second, .val (.long k), .second, .val (.double (sav (p0.toInt64) d)), .second, .val (.double (sav (p1.toInt64) d)), .second, .val (.double (sav ((p0.toInt64) * k) (d * k))), .second, .val (.int (p4 &&& (3 : Int32))), .val (.double (sav ((2 : Int64) * d) d)), .second, .val (.double (13830554455654793216 : UInt64)), .second, .val (.int (1 : Int32))] [])) _
            refine XS.dload Xw_94.here hx rfl (hb hby at_211) rfl ?_
            show Steps p.tables e below (T_94.setTop (mkF m 213 #[.val (.int p0), .val (.int p1), .val (.int p2), .val (.int p3), .val (.int p4), .val (.long d), .second, .val (.long k), .second, .val (.double (sav (p0.toInt64) d)), .second, .val (.double (sav (p1.toInt64) d)), .second, .val (.double (sav ((p0.toInt64) * k) (d * k))), .second, .val (.int (p4 &&& (3 : Int32))), .val (.double (sav ((2 : Int64) * d) d)), .second, .val (.double (13830554455654793216 : UInt64)), .second, .val (.int (1 : Int32))] [(.double (sav (p1.toInt64) d))])) _
            refine XS.dload Xw_94.here hx rfl (hb hby at_213) rfl ?_
            show Steps p.tables e below (T_94.setTop (mkF m 215 #[.val (.int p0), .val (.int p1), .val (.int p2), .val (.int p3), .val (.int p4), .val (.long d), .second, .val (.long k), .second, .val (.double (sav (p0.toInt64) d)), .second, .val (.double (sav (p1.toInt64) d)), .second, .val (.double (sav ((p0.toInt64) * k) (d * k))), .second, .val (.int (p4 &&& (3 : Int32))), .val (.double (sav ((2 : Int64) * d) d)), .second, .val (.double (13830554455654793216 : UInt64)), .second, .val (.int (1 : Int32))] [(.double (sav (p0.toInt64) d)), (.double (sav (p1.toInt64) d))])) _
            refine XS.dcmpS Xw_94.here hx rfl (hb hby at_215) rfl rfl ?_
            show Steps p.tables e below (T_94.setTop (mkF m 216 #[.val (.int p0), .val (.int p1), .val (.int p2), .val (.int p3), .val (.int p4), .val (.long d), .second, .val (.long k), .second, .val (.double (sav (p0.toInt64) d)), .second, .val (.double (sav (p1.toInt64) d)), .second, .val (.double (sav ((p0.toInt64) * k) (d * k))), .second, .val (.int (p4 &&& (3 : Int32))), .val (.double (sav ((2 : Int64) * d) d)), .second, .val (.double (13830554455654793216 : UInt64)), .second, .val (.int (1 : Int32))] [(.int (cmpValue (FP.dcmp (sav (p1.toInt64) d) (sav (p0.toInt64) d)) .l))])) _
            refine XS.ifNo Xw_94.here hx rfl (hb hby at_216) rfl ((if0 _ _).trans (flt (own_nl (own_mo (own_cn p1) (own_cn p0) Hd (by rw [own_b, own_b]; exact Int.le_of_lt (Int32.lt_iff_toInt_lt.mp c_99))))).1) ?_
            show Steps p.tables e below (T_94.setTop (mkF m 219 #[.val (.int p0), .val (.int p1), .val (.int p2), .val (.int p3), .val (.int p4), .val (.long d), .second, .val (.long k), .second, .val (.double (sav (p0.toInt64) d)), .second, .val (.double (sav (p1.toInt64) d)), .second, .val (.double (sav ((p0.toInt64) * k) (d * k))), .second, .val (.int (p4 &&& (3 : Int32))), .val (.double (sav ((2 : Int64) * d) d)), .second, .val (.double (13830554455654793216 : UInt64)), .second, .val (.int (1 : Int32))] [])) _
            refine XS.iconst Xw_94.here hx rfl (hb hby at_219) ?_
            show Steps p.tables e below (T_94.setTop (mkF m 220 #[.val (.int p0), .val (.int p1), .val (.int p2), .val (.int p3), .val (.int p4), .val (.long d), .second, .val (.long k), .second, .val (.double (sav (p0.toInt64) d)), .second, .val (.double (sav (p1.toInt64) d)), .second, .val (.double (sav ((p0.toInt64) * k) (d * k))), .second, .val (.int (p4 &&& (3 : Int32))), .val (.double (sav ((2 : Int64) * d) d)), .second, .val (.double (13830554455654793216 : UInt64)), .second, .val (.int (1 : Int32))] [(.int (1 : Int32))])) _
            refine XS.goto Xw_94.here hx rfl (pc0 := 220) (pc' := 224) rfl (hb hby at_220) (by decide) (by decide) ?_
            show Steps p.tables e below (T_94.setTop (mkF m 224 #[.val (.int p0), .val (.int p1), .val (.int p2), .val (.int p3), .val (.int p4), .val (.long d), .second, .val (.long k), .second, .val (.double (sav (p0.toInt64) d)), .second, .val (.double (sav (p1.toInt64) d)), .second, .val (.double (sav ((p0.toInt64) * k) (d * k))), .second, .val (.int (p4 &&& (3 : Int32))), .val (.double (sav ((2 : Int64) * d) d)), .second, .val (.double (13830554455654793216 : UInt64)), .second, .val (.int (1 : Int32))] [(.int (1 : Int32))])) _
            refine XS.istore Xw_94.here hx rfl (hb hby at_224) rfl (l' := #[.val (.int p0), .val (.int p1), .val (.int p2), .val (.int p3), .val (.int p4), .val (.long d), .second, .val (.long k), .second, .val (.double (sav (p0.toInt64) d)), .second, .val (.double (sav (p1.toInt64) d)), .second, .val (.double (sav ((p0.toInt64) * k) (d * k))), .second, .val (.int (p4 &&& (3 : Int32))), .val (.double (sav ((2 : Int64) * d) d)), .second, .val (.double (13830554455654793216 : UInt64)), .second, .val (.int (1 : Int32))]) rfl ?_
            show Steps p.tables e below (T_94.setTop (mkF m 226 #[.val (.int p0), .val (.int p1), .val (.int p2), .val (.int p3), .val (.int p4), .val (.long d), .second, .val (.long k), .second, .val (.double (sav (p0.toInt64) d)), .second, .val (.double (sav (p1.toInt64) d)), .second, .val (.double (sav ((p0.toInt64) * k) (d * k))), .second, .val (.int (p4 &&& (3 : Int32))), .val (.double (sav ((2 : Int64) * d) d)), .second, .val (.double (13830554455654793216 : UInt64)), .second, .val (.int (1 : Int32))] [])) _
            refine XS.iloadN Xw_94.here hx rfl (hb hby at_226) rfl ?_
            exact ktg)
          by_cases c_102 : p0 < (0 : Int32)
          · skip
            have pre_103 : Rch p.tables e below (s₁.setTop (entryFrame m #[(.int p0), (.int p1), (.int p2), (.int p3), (.int p4)] maxLocals)) (T_94.setTop (mkF m 264 #[.val (.int p0), .val (.int p1), .val (.int p2), .val (.int p3), .val (.int p4), .val (.long d), .second, .val (.long k), .second, .val (.double (sav (p0.toInt64) d)), .second, .val (.double (sav (p1.toInt64) d)), .second, .val (.double (sav ((p0.toInt64) * k) (d * k))), .second, .val (.int (p4 &&& (3 : Int32))), .val (.double (sav ((2 : Int64) * d) d)), .second, .val (.double (13830554455654793216 : UInt64)), .second, .val (.int (1 : Int32))] [])) := fun tgt ktg => pre_101 tgt (by
              show Steps p.tables e below (T_94.setTop (mkF m 227 #[.val (.int p0), .val (.int p1), .val (.int p2), .val (.int p3), .val (.int p4), .val (.long d), .second, .val (.long k), .second, .val (.double (sav (p0.toInt64) d)), .second, .val (.double (sav (p1.toInt64) d)), .second, .val (.double (sav ((p0.toInt64) * k) (d * k))), .second, .val (.int (p4 &&& (3 : Int32))), .val (.double (sav ((2 : Int64) * d) d)), .second, .val (.double (13830554455654793216 : UInt64)), .second, .val (.int (1 : Int32))] [(.int p0)])) _
              refine XS.ifYes Xw_94.here hx rfl (pc0 := 227) (pc' := 264) rfl (hb hby at_227) rfl ((if0 _ _).trans (tlt c_102).1) (by decide) (by decide) ?_
              exact ktg)
            have pre_104 : Rch p.tables e below (s₁.setTop (entryFrame m #[(.int p0), (.int p1), (.int p2), (.int p3), (.int p4)] maxLocals)) (T_94.setTop (mkF m 266 #[.val (.int p0), .val (.int p1), .val (.int p2), .val (.int p3), .val (.int p4), .val (.long d), .second, .val (.long k), .second, .val (.double (sav (p0.toInt64) d)), .second, .val (.double (sav (p1.toInt64) d)), .second, .val (.double (sav ((p0.toInt64) * k) (d * k))), .second, .val (.int (p4 &&& (3 : Int32))), .val (.double (sav ((2 : Int64) * d) d)), .second, .val (.double (13830554455654793216 : UInt64)), .second, .val (.int (1 : Int32))] [(.int (1 : Int32))])) := fun tgt ktg => pre_103 tgt (by
              show Steps p.tables e below (T_94.setTop (mkF m 264 #[.val (.int p0), .val (.int p1), .val (.int p2), .val (.int p3), .val (.int p4), .val (.long d), .second, .val (.long k), .second, .val (.double (sav (p0.toInt64) d)), .second, .val (.double (sav (p1.toInt64) d)), .second, .val (.double (sav ((p0.toInt64) * k) (d * k))), .second, .val (.int (p4 &&& (3 : Int32))), .val (.double (sav ((2 : Int64) * d) d)), .second, .val (.double (13830554455654793216 : UInt64)), .second, .val (.int (1 : Int32))] [])) _
              refine XS.iload Xw_94.here hx rfl (hb hby at_264) rfl ?_
              exact ktg)
            obtain ⟨fs, hr, hrun, hended, hW⟩ := Xw_94.leaveW hS_94 hk_94 (v := some (.int (1 : Int32))) (fun h => by rw [Bd.returns] at h; cases h)
            refine ⟨_, _, pre_104 _ ?_, hrun, hended, _, _, rfl, ?_, ?_, hW.1, hW.2.1, hW.2.2.1, hW.2.2.2.mono (by decide) (by decide)⟩
            · show Steps p.tables e below (T_94.setTop (mkF m 266 #[.val (.int p0), .val (.int p1), .val (.int p2), .val (.int p3), .val (.int p4), .val (.long d), .second, .val (.long k), .second, .val (.double (sav (p0.toInt64) d)), .second, .val (.double (sav (p1.toInt64) d)), .second, .val (.double (sav ((p0.toInt64) * k) (d * k))), .second, .val (.int (p4 &&& (3 : Int32))), .val (.double (sav ((2 : Int64) * d) d)), .second, .val (.double (13830554455654793216 : UInt64)), .second, .val (.int (1 : Int32))] [(.int (1 : Int32))])) _
              exact retN Xw_94 hx (t := .boolean) Bd.returns (by simp) (hb hby at_266) hr
            · show Q0 Z p0 p1 p2 p3 p4 h0 n0 _ T_94.heap _
              exact ⟨rfl, N_95⟩
            · show CHr Z consts_1 s.vm s.heap T_94.vm T_94.heap
              rw [hh]
              exact C_96.trans (CHv.at Xw_94 hZ hEL C_96.1)
          · skip
            have pre_105 : Rch p.tables e below (s₁.setTop (entryFrame m #[(.int p0), (.int p1), (.int p2), (.int p3), (.int p4)] maxLocals)) (T_94.setTop (mkF m 230 #[.val (.int p0), .val (.int p1), .val (.int p2), .val (.int p3), .val (.int p4), .val (.long d), .second, .val (.long k), .second, .val (.double (sav (p0.toInt64) d)), .second, .val (.double (sav (p1.toInt64) d)), .second, .val (.double (sav ((p0.toInt64) * k) (d * k))), .second, .val (.int (p4 &&& (3 : Int32))), .val (.double (sav ((2 : Int64) * d) d)), .second, .val (.double (13830554455654793216 : UInt64)), .second, .val (.int (1 : Int32))] [])) := fun tgt ktg => pre_101 tgt (by
              show Steps p.tables e below (T_94.setTop (mkF m 227 #[.val (.int p0), .val (.int p1), .val (.int p2), .val (.int p3), .val (.int p4), .val (.long d), .second, .val (.long k), .second, .val (.double (sav (p0.toInt64) d)), .second, .val (.double (sav (p1.toInt64) d)), .second, .val (.double (sav ((p0.toInt64) * k) (d * k))), .second, .val (.int (p4 &&& (3 : Int32))), .val (.double (sav ((2 : Int64) * d) d)), .second, .val (.double (13830554455654793216 : UInt64)), .second, .val (.int (1 : Int32))] [(.int p0)])) _
              refine XS.ifNo Xw_94.here hx rfl (hb hby at_227) rfl ((if0 _ _).trans (flt c_102).1) ?_
              exact ktg)
            have pre_106 : Rch p.tables e below (s₁.setTop (entryFrame m #[(.int p0), (.int p1), (.int p2), (.int p3), (.int p4)] maxLocals)) (T_94.setTop (mkF m 235 #[.val (.int p0), .val (.int p1), .val (.int p2), .val (.int p3), .val (.int p4), .val (.long d), .second, .val (.long k), .second, .val (.double (sav (p0.toInt64) d)), .second, .val (.double (sav (p1.toInt64) d)), .second, .val (.double (sav ((p0.toInt64) * k) (d * k))), .second, .val (.int (p4 &&& (3 : Int32))), .val (.double (sav ((2 : Int64) * d) d)), .second, .val (.double (13830554455654793216 : UInt64)), .second, .val (.int (1 : Int32))] [(.int (XT.cmpL (p0.toInt64) d))])) := fun tgt ktg => pre_105 tgt (by
              show Steps p.tables e below (T_94.setTop (mkF m 230 #[.val (.int p0), .val (.int p1), .val (.int p2), .val (.int p3), .val (.int p4), .val (.long d), .second, .val (.long k), .second, .val (.double (sav (p0.toInt64) d)), .second, .val (.double (sav (p1.toInt64) d)), .second, .val (.double (sav ((p0.toInt64) * k) (d * k))), .second, .val (.int (p4 &&& (3 : Int32))), .val (.double (sav ((2 : Int64) * d) d)), .second, .val (.double (13830554455654793216 : UInt64)), .second, .val (.int (1 : Int32))] [])) _
              refine XS.iloadN Xw_94.here hx rfl (hb hby at_230) rfl ?_
              show Steps p.tables e below (T_94.setTop (mkF m 231 #[.val (.int p0), .val (.int p1), .val (.int p2), .val (.int p3), .val (.int p4), .val (.long d), .second, .val (.long k), .second, .val (.double (sav (p0.toInt64) d)), .second, .val (.double (sav (p1.toInt64) d)), .second, .val (.double (sav ((p0.toInt64) * k) (d * k))), .second, .val (.int (p4 &&& (3 : Int32))), .val (.double (sav ((2 : Int64) * d) d)), .second, .val (.double (13830554455654793216 : UInt64)), .second, .val (.int (1 : Int32))] [(.int p0)])) _
              refine XT.i2l Xw_94.here hx rfl (hb hby at_231) rfl ?_
              show Steps p.tables e below (T_94.setTop (mkF m 232 #[.val (.int p0), .val (.int p1), .val (.int p2), .val (.int p3), .val (.int p4), .val (.long d), .second, .val (.long k), .second, .val (.double (sav (p0.toInt64) d)), .second, .val (.double (sav (p1.toInt64) d)), .second, .val (.double (sav ((p0.toInt64) * k) (d * k))), .second, .val (.int (p4 &&& (3 : Int32))), .val (.double (sav ((2 : Int64) * d) d)), .second, .val (.double (13830554455654793216 : UInt64)), .second, .val (.int (1 : Int32))] [(.long (p0.toInt64))])) _
              refine XT.lload Xw_94.here hx rfl (hb hby at_232) rfl ?_
              show Steps p.tables e below (T_94.setTop (mkF m 234 #[.val (.int p0), .val (.int p1), .val (.int p2), .val (.int p3), .val (.int p4), .val (.long d), .second, .val (.long k), .second, .val (.double (sav (p0.toInt64) d)), .second, .val (.double (sav (p1.toInt64) d)), .second, .val (.double (sav ((p0.toInt64) * k) (d * k))), .second, .val (.int (p4 &&& (3 : Int32))), .val (.double (sav ((2 : Int64) * d) d)), .second, .val (.double (13830554455654793216 : UInt64)), .second, .val (.int (1 : Int32))] [(.long d), (.long (p0.toInt64))])) _
              refine XT.lcmp Xw_94.here hx rfl (hb hby at_234) rfl ?_
              exact ktg)
            by_cases c_107 : (0 : Int32) < (XT.cmpL (p0.toInt64) d)
            · skip
              have pre_108 : Rch p.tables e below (s₁.setTop (entryFrame m #[(.int p0), (.int p1), (.int p2), (.int p3), (.int p4)] maxLocals)) (T_94.setTop (mkF m 264 #[.val (.int p0), .val (.int p1), .val (.int p2), .val (.int p3), .val (.int p4), .val (.long d), .second, .val (.long k), .second, .val (.double (sav (p0.toInt64) d)), .second, .val (.double (sav (p1.toInt64) d)), .second, .val (.double (sav ((p0.toInt64) * k) (d * k))), .second, .val (.int (p4 &&& (3 : Int32))), .val (.double (sav ((2 : Int64) * d) d)), .second, .val (.double (13830554455654793216 : UInt64)), .second, .val (.int (1 : Int32))] [])) := fun tgt ktg => pre_106 tgt (by
                show Steps p.tables e below (T_94.setTop (mkF m 235 #[.val (.int p0), .val (.int p1), .val (.int p2), .val (.int p3), .val (.int p4), .val (.long d), .second, .val (.long k), .second, .val (.double (sav (p0.toInt64) d)), .second, .val (.double (sav (p1.toInt64) d)), .second, .val (.double (sav ((p0.toInt64) * k) (d * k))), .second, .val (.int (p4 &&& (3 : Int32))), .val (.double (sav ((2 : Int64) * d) d)), .second, .val (.double (13830554455654793216 : UInt64)), .second, .val (.int (1 : Int32))] [(.int (XT.cmpL (p0.toInt64) d))])) _
                refine XS.ifYes Xw_94.here hx rfl (pc0 := 235) (pc' := 264) rfl (hb hby at_235) rfl ((if0 _ _).trans (tlt c_107).2.2.1) (by decide) (by decide) ?_
                exact ktg)
              have pre_109 : Rch p.tables e below (s₁.setTop (entryFrame m #[(.int p0), (.int p1), (.int p2), (.int p3), (.int p4)] maxLocals)) (T_94.setTop (mkF m 266 #[.val (.int p0), .val (.int p1), .val (.int p2), .val (.int p3), .val (.int p4), .val (.long d), .second, .val (.long k), .second, .val (.double (sav (p0.toInt64) d)), .second, .val (.double (sav (p1.toInt64) d)), .second, .val (.double (sav ((p0.toInt64) * k) (d * k))), .second, .val (.int (p4 &&& (3 : Int32))), .val (.double (sav ((2 : Int64) * d) d)), .second, .val (.double (13830554455654793216 : UInt64)), .second, .val (.int (1 : Int32))] [(.int (1 : Int32))])) := fun tgt ktg => pre_108 tgt (by
                show Steps p.tables e below (T_94.setTop (mkF m 264 #[.val (.int p0), .val (.int p1), .val (.int p2), .val (.int p3), .val (.int p4), .val (.long d), .second, .val (.long k), .second, .val (.double (sav (p0.toInt64) d)), .second, .val (.double (sav (p1.toInt64) d)), .second, .val (.double (sav ((p0.toInt64) * k) (d * k))), .second, .val (.int (p4 &&& (3 : Int32))), .val (.double (sav ((2 : Int64) * d) d)), .second, .val (.double (13830554455654793216 : UInt64)), .second, .val (.int (1 : Int32))] [])) _
                refine XS.iload Xw_94.here hx rfl (hb hby at_264) rfl ?_
                exact ktg)
              obtain ⟨fs, hr, hrun, hended, hW⟩ := Xw_94.leaveW hS_94 hk_94 (v := some (.int (1 : Int32))) (fun h => by rw [Bd.returns] at h; cases h)
              refine ⟨_, _, pre_109 _ ?_, hrun, hended, _, _, rfl, ?_, ?_, hW.1, hW.2.1, hW.2.2.1, hW.2.2.2.mono (by decide) (by decide)⟩
              · show Steps p.tables e below (T_94.setTop (mkF m 266 #[.val (.int p0), .val (.int p1), .val (.int p2), .val (.int p3), .val (.int p4), .val (.long d), .second, .val (.long k), .second, .val (.double (sav (p0.toInt64) d)), .second, .val (.double (sav (p1.toInt64) d)), .second, .val (.double (sav ((p0.toInt64) * k) (d * k))), .second, .val (.int (p4 &&& (3 : Int32))), .val (.double (sav ((2 : Int64) * d) d)), .second, .val (.double (13830554455654793216 : UInt64)), .second, .val (.int (1 : Int32))] [(.int (1 : Int32))])) _
                exact retN Xw_94 hx (t := .boolean) Bd.returns (by simp) (hb hby at_266) hr
              · show Q0 Z p0 p1 p2 p3 p4 h0 n0 _ T_94.heap _
                exact ⟨rfl, N_95⟩
              · show CHr Z consts_1 s.vm s.heap T_94.vm T_94.heap
                rw [hh]
                exact C_96.trans (CHv.at Xw_94 hZ hEL C_96.1)
            · skip
              have pre_110 : Rch p.tables e below (s₁.setTop (entryFrame m #[(.int p0), (.int p1), (.int p2), (.int p3), (.int p4)] maxLocals)) (T_94.setTop (mkF m 238 #[.val (.int p0), .val (.int p1), .val (.int p2), .val (.int p3), .val (.int p4), .val (.long d), .second, .val (.long k), .second, .val (.double (sav (p0.toInt64) d)), .second, .val (.double (sav (p1.toInt64) d)), .second, .val (.double (sav ((p0.toInt64) * k) (d * k))), .second, .val (.int (p4 &&& (3 : Int32))), .val (.double (sav ((2 : Int64) * d) d)), .second, .val (.double (13830554455654793216 : UInt64)), .second, .val (.int (1 : Int32))] [])) := fun tgt ktg => pre_106 tgt (by
                show Steps p.tables e below (T_94.setTop (mkF m 235 #[.val (.int p0), .val (.int p1), .val (.int p2), .val (.int p3), .val (.int p4), .val (.long d), .second, .val (.long k), .second, .val (.double (sav (p0.toInt64) d)), .second, .val (.double (sav (p1.toInt64) d)), .second, .val (.double (sav ((p0.toInt64) * k) (d * k))), .second, .val (.int (p4 &&& (3 : Int32))), .val (.double (sav ((2 : Int64) * d) d)), .second, .val (.double (13830554455654793216 : UInt64)), .second, .val (.int (1 : Int32))] [(.int (XT.cmpL (p0.toInt64) d))])) _
                refine XS.ifNo Xw_94.here hx rfl (hb hby at_235) rfl ((if0 _ _).trans (flt c_107).2.2.1) ?_
                exact ktg)
              have hr := own_r32 Hd c_102 c_107
              have pre_111 : Rch p.tables e below (s₁.setTop (entryFrame m #[(.int p0), (.int p1), (.int p2), (.int p3), (.int p4)] maxLocals)) (T_94.setTop (mkF m 266 #[.val (.int p0), .val (.int p1), .val (.int p2), .val (.int p3), .val (.int p4), .val (.long d), .second, .val (.long k), .second, .val (.double (sav (p0.toInt64) d)), .second, .val (.double (sav (p1.toInt64) d)), .second, .val (.double (sav ((p0.toInt64) * k) (d * k))), .second, .val (.int (p4 &&& (3 : Int32))), .val (.double (sav ((2 : Int64) * d) d)), .second, .val (.double (13830554455654793216 : UInt64)), .second, .val (.int (1 : Int32))] [(.int (1 : Int32))])) := fun tgt ktg => pre_110 tgt (by
                show Steps p.tables e below (T_94.setTop (mkF m 238 #[.val (.int p0), .val (.int p1), .val (.int p2), .val (.int p3), .val (.int p4), .val (.long d), .second, .val (.long k), .second, .val (.double (sav (p0.toInt64) d)), .second, .val (.double (sav (p1.toInt64) d)), .second, .val (.double (sav ((p0.toInt64) * k) (d * k))), .second, .val (.int (p4 &&& (3 : Int32))), .val (.double (sav ((2 : Int64) * d) d)), .second, .val (.double (13830554455654793216 : UInt64)), .second, .val (.int (1 : Int32))] [])) _
                refine XS.iload Xw_94.here hx rfl (hb hby at_238) rfl ?_
                show Steps p.tables e below (T_94.setTop (mkF m 240 #[.val (.int p0), .val (.int p1), .val (.int p2), .val (.int p3), .val (.int p4), .val (.long d), .second, .val (.long k), .second, .val (.double (sav (p0.toInt64) d)), .second, .val (.double (sav (p1.toInt64) d)), .second, .val (.double (sav ((p0.toInt64) * k) (d * k))), .second, .val (.int (p4 &&& (3 : Int32))), .val (.double (sav ((2 : Int64) * d) d)), .second, .val (.double (13830554455654793216 : UInt64)), .second, .val (.int (1 : Int32))] [(.int (1 : Int32))])) _
                refine XS.ifNo Xw_94.here hx rfl (hb hby at_240) rfl ((if0 _ _).trans (feq (by decide : ¬ ((1 : Int32) = (0 : Int32)))).1) ?_
                show Steps p.tables e below (T_94.setTop (mkF m 243 #[.val (.int p0), .val (.int p1), .val (.int p2), .val (.int p3), .val (.int p4), .val (.long d), .second, .val (.long k), .second, .val (.double (sav (p0.toInt64) d)), .second, .val (.double (sav (p1.toInt64) d)), .second, .val (.double (sav ((p0.toInt64) * k) (d * k))), .second, .val (.int (p4 &&& (3 : Int32))), .val (.double (sav ((2 : Int64) * d) d)), .second, .val (.double (13830554455654793216 : UInt64)), .second, .val (.int (1 : Int32))] [])) _
                refine XS.dload Xw_94.here hx rfl (hb hby at_243) rfl ?_
                show Steps p.tables e below (T_94.setTop (mkF m 245 #[.val (.int p0), .val (.int p1), .val (.int p2), .val (.int p3), .val (.int p4), .val (.long d), .second, .val (.long k), .second, .val (.double (sav (p0.toInt64) d)), .second, .val (.double (sav (p1.toInt64) d)), .second, .val (.double (sav ((p0.toInt64) * k) (d * k))), .second, .val (.int (p4 &&& (3 : Int32))), .val (.double (sav ((2 : Int64) * d) d)), .second, .val (.double (13830554455654793216 : UInt64)), .second, .val (.int (1 : Int32))] [(.double (sav (p0.toInt64) d))])) _
                refine XS.dconst0 Xw_94.here hx rfl (hb hby at_245) (v := (0 : UInt64)) own_dc0 ?_
                show Steps p.tables e below (T_94.setTop (mkF m 246 #[.val (.int p0), .val (.int p1), .val (.int p2), .val (.int p3), .val (.int p4), .val (.long d), .second, .val (.long k), .second, .val (.double (sav (p0.toInt64) d)), .second, .val (.double (sav (p1.toInt64) d)), .second, .val (.double (sav ((p0.toInt64) * k) (d * k))), .second, .val (.int (p4 &&& (3 : Int32))), .val (.double (sav ((2 : Int64) * d) d)), .second, .val (.double (13830554455654793216 : UInt64)), .second, .val (.int (1 : Int32))] [(.double (0 : UInt64)), (.double (sav (p0.toInt64) d))])) _
                refine XS.dcmpS Xw_94.here hx rfl (hb hby at_246) rfl rfl ?_
                show Steps p.tables e below (T_94.setTop (mkF m 247 #[.val (.int p0), .val (.int p1), .val (.int p2), .val (.int p3), .val (.int p4), .val (.long d), .second, .val (.long k), .second, .val (.double (sav (p0.toInt64) d)), .second, .val (.double (sav (p1.toInt64) d)), .second, .val (.double (sav ((p0.toInt64) * k) (d * k))), .second, .val (.int (p4 &&& (3 : Int32))), .val (.double (sav ((2 : Int64) * d) d)), .second, .val (.double (13830554455654793216 : UInt64)), .second, .val (.int (1 : Int32))] [(.int (cmpValue (FP.dcmp (sav (p0.toInt64) d) (0 : UInt64)) .l))])) _
                refine XS.ifNo Xw_94.here hx rfl (hb hby at_247) rfl ((if0 _ _).trans (flt (own_nl hr.1)).1) ?_
                show Steps p.tables e below (T_94.setTop (mkF m 250 #[.val (.int p0), .val (.int p1), .val (.int p2), .val (.int p3), .val (.int p4), .val (.long d), .second, .val (.long k), .second, .val (.double (sav (p0.toInt64) d)), .second, .val (.double (sav (p1.toInt64) d)), .second, .val (.double (sav ((p0.toInt64) * k) (d * k))), .second, .val (.int (p4 &&& (3 : Int32))), .val (.double (sav ((2 : Int64) * d) d)), .second, .val (.double (13830554455654793216 : UInt64)), .second, .val (.int (1 : Int32))] [])) _
                refine XS.dload Xw_94.here hx rfl (hb hby at_250) rfl ?_
                show Steps p.tables e below (T_94.setTop (mkF m 252 #[.val (.int p0), .val (.int p1), .val (.int p2), .val (.int p3), .val (.int p4), .val (.long d), .second, .val (.long k), .second, .val (.double (sav (p0.toInt64) d)), .second, .val (.double (sav (p1.toInt64) d)), .second, .val (.double (sav ((p0.toInt64) * k) (d * k))), .second, .val (.int (p4 &&& (3 : Int32))), .val (.double (sav ((2 : Int64) * d) d)), .second, .val (.double (13830554455654793216 : UInt64)), .second, .val (.int (1 : Int32))] [(.double (sav (p0.toInt64) d))])) _
                refine XS.dconst1 Xw_94.here hx rfl (hb hby at_252) (v := (4607182418800017408 : UInt64)) own_dc1 ?_
                show Steps p.tables e below (T_94.setTop (mkF m 253 #[.val (.int p0), .val (.int p1), .val (.int p2), .val (.int p3), .val (.int p4), .val (.long d), .second, .val (.long k), .second, .val (.double (sav (p0.toInt64) d)), .second, .val (.double (sav (p1.toInt64) d)), .second, .val (.double (sav ((p0.toInt64) * k) (d * k))), .second, .val (.int (p4 &&& (3 : Int32))), .val (.double (sav ((2 : Int64) * d) d)), .second, .val (.double (13830554455654793216 : UInt64)), .second, .val (.int (1 : Int32))] [(.double (4607182418800017408 : UInt64)), (.double (sav (p0.toInt64) d))])) _
                refine XS.dcmpS Xw_94.here hx rfl (hb hby at_253) rfl rfl ?_
                show Steps p.tables e below (T_94.setTop (mkF m 254 #[.val (.int p0), .val (.int p1), .val (.int p2), .val (.int p3), .val (.int p4), .val (.long d), .second, .val (.long k), .second, .val (.double (sav (p0.toInt64) d)), .second, .val (.double (sav (p1.toInt64) d)), .second, .val (.double (sav ((p0.toInt64) * k) (d * k))), .second, .val (.int (p4 &&& (3 : Int32))), .val (.double (sav ((2 : Int64) * d) d)), .second, .val (.double (13830554455654793216 : UInt64)), .second, .val (.int (1 : Int32))] [(.int (cmpValue (FP.dcmp (sav (p0.toInt64) d) (4607182418800017408 : UInt64)) .g))])) _
                refine XS.ifNo Xw_94.here hx rfl (hb hby at_254) rfl ((if0 _ _).trans (flt (own_ng hr.2)).2.2.1) ?_
                show Steps p.tables e below (T_94.setTop (mkF m 257 #[.val (.int p0), .val (.int p1), .val (.int p2), .val (.int p3), .val (.int p4), .val (.long d), .second, .val (.long k), .second, .val (.double (sav (p0.toInt64) d)), .second, .val (.double (sav (p1.toInt64) d)), .second, .val (.double (sav ((p0.toInt64) * k) (d * k))), .second, .val (.int (p4 &&& (3 : Int32))), .val (.double (sav ((2 : Int64) * d) d)), .second, .val (.double (13830554455654793216 : UInt64)), .second, .val (.int (1 : Int32))] [])) _
                refine XS.iconst Xw_94.here hx rfl (hb hby at_257) ?_
                show Steps p.tables e below (T_94.setTop (mkF m 258 #[.val (.int p0), .val (.int p1), .val (.int p2), .val (.int p3), .val (.int p4), .val (.long d), .second, .val (.long k), .second, .val (.double (sav (p0.toInt64) d)), .second, .val (.double (sav (p1.toInt64) d)), .second, .val (.double (sav ((p0.toInt64) * k) (d * k))), .second, .val (.int (p4 &&& (3 : Int32))), .val (.double (sav ((2 : Int64) * d) d)), .second, .val (.double (13830554455654793216 : UInt64)), .second, .val (.int (1 : Int32))] [(.int (1 : Int32))])) _
                refine XS.goto Xw_94.here hx rfl (pc0 := 258) (pc' := 262) rfl (hb hby at_258) (by decide) (by decide) ?_
                show Steps p.tables e below (T_94.setTop (mkF m 262 #[.val (.int p0), .val (.int p1), .val (.int p2), .val (.int p3), .val (.int p4), .val (.long d), .second, .val (.long k), .second, .val (.double (sav (p0.toInt64) d)), .second, .val (.double (sav (p1.toInt64) d)), .second, .val (.double (sav ((p0.toInt64) * k) (d * k))), .second, .val (.int (p4 &&& (3 : Int32))), .val (.double (sav ((2 : Int64) * d) d)), .second, .val (.double (13830554455654793216 : UInt64)), .second, .val (.int (1 : Int32))] [(.int (1 : Int32))])) _
                refine XS.istore Xw_94.here hx rfl (hb hby at_262) rfl (l' := #[.val (.int p0), .val (.int p1), .val (.int p2), .val (.int p3), .val (.int p4), .val (.long d), .second, .val (.long k), .second, .val (.double (sav (p0.toInt64) d)), .second, .val (.double (sav (p1.toInt64) d)), .second, .val (.double (sav ((p0.toInt64) * k) (d * k))), .second, .val (.int (p4 &&& (3 : Int32))), .val (.double (sav ((2 : Int64) * d) d)), .second, .val (.double (13830554455654793216 : UInt64)), .second, .val (.int (1 : Int32))]) rfl ?_
                show Steps p.tables e below (T_94.setTop (mkF m 264 #[.val (.int p0), .val (.int p1), .val (.int p2), .val (.int p3), .val (.int p4), .val (.long d), .second, .val (.long k), .second, .val (.double (sav (p0.toInt64) d)), .second, .val (.double (sav (p1.toInt64) d)), .second, .val (.double (sav ((p0.toInt64) * k) (d * k))), .second, .val (.int (p4 &&& (3 : Int32))), .val (.double (sav ((2 : Int64) * d) d)), .second, .val (.double (13830554455654793216 : UInt64)), .second, .val (.int (1 : Int32))] [])) _
                refine XS.iload Xw_94.here hx rfl (hb hby at_264) rfl ?_
                exact ktg)
              obtain ⟨fs, hr, hrun, hended, hW⟩ := Xw_94.leaveW hS_94 hk_94 (v := some (.int (1 : Int32))) (fun h => by rw [Bd.returns] at h; cases h)
              refine ⟨_, _, pre_111 _ ?_, hrun, hended, _, _, rfl, ?_, ?_, hW.1, hW.2.1, hW.2.2.1, hW.2.2.2.mono (by decide) (by decide)⟩
              · show Steps p.tables e below (T_94.setTop (mkF m 266 #[.val (.int p0), .val (.int p1), .val (.int p2), .val (.int p3), .val (.int p4), .val (.long d), .second, .val (.long k), .second, .val (.double (sav (p0.toInt64) d)), .second, .val (.double (sav (p1.toInt64) d)), .second, .val (.double (sav ((p0.toInt64) * k) (d * k))), .second, .val (.int (p4 &&& (3 : Int32))), .val (.double (sav ((2 : Int64) * d) d)), .second, .val (.double (13830554455654793216 : UInt64)), .second, .val (.int (1 : Int32))] [(.int (1 : Int32))])) _
                exact retN Xw_94 hx (t := .boolean) Bd.returns (by simp) (hb hby at_266) hr
              · show Q0 Z p0 p1 p2 p3 p4 h0 n0 _ T_94.heap _
                exact ⟨rfl, N_95⟩
              · show CHr Z consts_1 s.vm s.heap T_94.vm T_94.heap
                rw [hh]
                exact C_96.trans (CHv.at Xw_94 hZ hEL C_96.1)
        · skip
          have pre_112 : Rch p.tables e below (s₁.setTop (entryFrame m #[(.int p0), (.int p1), (.int p2), (.int p3), (.int p4)] maxLocals)) (T_94.setTop (mkF m 183 #[.val (.int p0), .val (.int p1), .val (.int p2), .val (.int p3), .val (.int p4), .val (.long d), .second, .val (.long k), .second, .val (.double (sav (p0.toInt64) d)), .second, .val (.double (sav (p1.toInt64) d)), .second, .val (.double (sav ((p0.toInt64) * k) (d * k))), .second, .val (.int (p4 &&& (3 : Int32))), .val (.double (sav ((2 : Int64) * d) d)), .second, .val (.double (13830554455654793216 : UInt64)), .second, .val (.int (1 : Int32))] [])) := fun tgt ktg => pre_98 tgt (by
            show Steps p.tables e below (T_94.setTop (mkF m 180 #[.val (.int p0), .val (.int p1), .val (.int p2), .val (.int p3), .val (.int p4), .val (.long d), .second, .val (.long k), .second, .val (.double (sav (p0.toInt64) d)), .second, .val (.double (sav (p1.toInt64) d)), .second, .val (.double (sav ((p0.toInt64) * k) (d * k))), .second, .val (.int (p4 &&& (3 : Int32))), .val (.double (sav ((2 : Int64) * d) d)), .second, .val (.double (13830554455654793216 : UInt64)), .second, .val (.int (1 : Int32))] [(.int p1), (.int p0)])) _
            refine XS.icmpNo Xw_94.here hx rfl (hb hby at_180) rfl (flt c_99).2.2.1 ?_
            exact ktg)
          have pre_113 : Rch p.tables e below (s₁.setTop (entryFrame m #[(.int p0), (.int p1), (.int p2), (.int p3), (.int p4)] maxLocals)) (T_94.setTop (mkF m 227 #[.val (.int p0), .val (.int p1), .val (.int p2), .val (.int p3), .val (.int p4), .val (.long d), .second, .val (.long k), .second, .val (.double (sav (p0.toInt64) d)), .second, .val (.double (sav (p1.toInt64) d)), .second, .val (.double (sav ((p0.toInt64) * k) (d * k))), .second, .val (.int (p4 &&& (3 : Int32))), .val (.double (sav ((2 : Int64) * d) d)), .second, .val (.double (13830554455654793216 : UInt64)), .second, .val (.int (1 : Int32))] [(.int p0)])) := fun tgt ktg => pre_112 tgt (by
            show Steps p.tables e below (T_94.setTop (mkF m 183 #[.val (.int p0), .val (.int p1), .val (.int p2), .val (.int p3), .val (.int p4), .val (.long d), .second, .val (.long k), .second, .val (.double (sav (p0.toInt64) d)), .second, .val (.double (sav (p1.toInt64) d)), .second, .val (.double (sav ((p0.toInt64) * k) (d * k))), .second, .val (.int (p4 &&& (3 : Int32))), .val (.double (sav ((2 : Int64) * d) d)), .second, .val (.double (13830554455654793216 : UInt64)), .second, .val (.int (1 : Int32))] [])) _
            refine XS.iload Xw_94.here hx rfl (hb hby at_183) rfl ?_
            show Steps p.tables e below (T_94.setTop (mkF m 185 #[.val (.int p0), .val (.int p1), .val (.int p2), .val (.int p3), .val (.int p4), .val (.long d), .second, .val (.long k), .second, .val (.double (sav (p0.toInt64) d)), .second, .val (.double (sav (p1.toInt64) d)), .second, .val (.double (sav ((p0.toInt64) * k) (d * k))), .second, .val (.int (p4 &&& (3 : Int32))), .val (.double (sav ((2 : Int64) * d) d)), .second, .val (.double (13830554455654793216 : UInt64)), .second, .val (.int (1 : Int32))] [(.int (1 : Int32))])) _
            refine XS.ifNo Xw_94.here hx rfl (hb hby at_185) rfl ((if0 _ _).trans (feq (by decide : ¬ ((1 : Int32) = (0 : Int32)))).1) ?_
            show Steps p.tables e below (T_94.setTop (mkF m 188 #[.val (.int p0), .val (.int p1), .val (.int p2), .val (.int p3), .val (.int p4), .val (.long d), .second, .val (.long k), .second, .val (.double (sav (p0.toInt64) d)), .second, .val (.double (sav (p1.toInt64) d)), .second, .val (.double (sav ((p0.toInt64) * k) (d * k))), .second, .val (.int (p4 &&& (3 : Int32))), .val (.double (sav ((2 : Int64) * d) d)), .second, .val (.double (13830554455654793216 : UInt64)), .second, .val (.int (1 : Int32))] [])) _
            refine XS.dload Xw_94.here hx rfl (hb hby at_188) rfl ?_
            show Steps p.tables e below (T_94.setTop (mkF m 190 #[.val (.int p0), .val (.int p1), .val (.int p2), .val (.int p3), .val (.int p4), .val (.long d), .second, .val (.long k), .second, .val (.double (sav (p0.toInt64) d)), .second, .val (.double (sav (p1.toInt64) d)), .second, .val (.double (sav ((p0.toInt64) * k) (d * k))), .second, .val (.int (p4 &&& (3 : Int32))), .val (.double (sav ((2 : Int64) * d) d)), .second, .val (.double (13830554455654793216 : UInt64)), .second, .val (.int (1 : Int32))] [(.double (sav (p0.toInt64) d))])) _
            refine XS.dload Xw_94.here hx rfl (hb hby at_190) rfl ?_
            show Steps p.tables e below (T_94.setTop (mkF m 192 #[.val (.int p0), .val (.int p1), .val (.int p2), .val (.int p3), .val (.int p4), .val (.long d), .second, .val (.long k), .second, .val (.double (sav (p0.toInt64) d)), .second, .val (.double (sav (p1.toInt64) d)), .second, .val (.double (sav ((p0.toInt64) * k) (d * k))), .second, .val (.int (p4 &&& (3 : Int32))), .val (.double (sav ((2 : Int64) * d) d)), .second, .val (.double (13830554455654793216 : UInt64)), .second, .val (.int (1 : Int32))] [(.double (sav (p1.toInt64) d)), (.double (sav (p0.toInt64) d))])) _
            refine XS.dcmpS Xw_94.here hx rfl (hb hby at_192) rfl rfl ?_
            show Steps p.tables e below (T_94.setTop (mkF m 193 #[.val (.int p0), .val (.int p1), .val (.int p2), .val (.int p3), .val (.int p4), .val (.long d), .second, .val (.long k), .second, .val (.double (sav (p0.toInt64) d)), .second, .val (.double (sav (p1.toInt64) d)), .second, .val (.double (sav ((p0.toInt64) * k) (d * k))), .second, .val (.int (p4 &&& (3 : Int32))), .val (.double (sav ((2 : Int64) * d) d)), .second, .val (.double (13830554455654793216 : UInt64)), .second, .val (.int (1 : Int32))] [(.int (cmpValue (FP.dcmp (sav (p0.toInt64) d) (sav (p1.toInt64) d)) .l))])) _
            refine XS.ifNo Xw_94.here hx rfl (hb hby at_193) rfl ((if0 _ _).trans (flt (own_nl (own_mo (own_cn p0) (own_cn p1) Hd (by rw [own_b, own_b]; exact Int.not_lt.mp (fun q => c_99 (Int32.lt_iff_toInt_lt.mpr q)))))).1) ?_
            show Steps p.tables e below (T_94.setTop (mkF m 196 #[.val (.int p0), .val (.int p1), .val (.int p2), .val (.int p3), .val (.int p4), .val (.long d), .second, .val (.long k), .second, .val (.double (sav (p0.toInt64) d)), .second, .val (.double (sav (p1.toInt64) d)), .second, .val (.double (sav ((p0.toInt64) * k) (d * k))), .second, .val (.int (p4 &&& (3 : Int32))), .val (.double (sav ((2 : Int64) * d) d)), .second, .val (.double (13830554455654793216 : UInt64)), .second, .val (.int (1 : Int32))] [])) _
            refine XS.iconst Xw_94.here hx rfl (hb hby at_196) ?_
            show Steps p.tables e below (T_94.setTop (mkF m 197 #[.val (.int p0), .val (.int p1), .val (.int p2), .val (.int p3), .val (.int p4), .val (.long d), .second, .val (.long k), .second, .val (.double (sav (p0.toInt64) d)), .second, .val (.double (sav (p1.toInt64) d)), .second, .val (.double (sav ((p0.toInt64) * k) (d * k))), .second, .val (.int (p4 &&& (3 : Int32))), .val (.double (sav ((2 : Int64) * d) d)), .second, .val (.double (13830554455654793216 : UInt64)), .second, .val (.int (1 : Int32))] [(.int (1 : Int32))])) _
            refine XS.goto Xw_94.here hx rfl (pc0 := 197) (pc' := 201) rfl (hb hby at_197) (by decide) (by decide) ?_
            show Steps p.tables e below (T_94.setTop (mkF m 201 #[.val (.int p0), .val (.int p1), .val (.int p2), .val (.int p3), .val (.int p4), .val (.long d), .second, .val (.long k), .second, .val (.double (sav (p0.toInt64) d)), .second, .val (.double (sav (p1.toInt64) d)), .second, .val (.double (sav ((p0.toInt64) * k) (d * k))), .second, .val (.int (p4 &&& (3 : Int32))), .val (.double (sav ((2 : Int64) * d) d)), .second, .val (.double (13830554455654793216 : UInt64)), .second, .val (.int (1 : Int32))] [(.int (1 : Int32))])) _
            refine XS.istore Xw_94.here hx rfl (hb hby at_201) rfl (l' := #[.val (.int p0), .val (.int p1), .val (.int p2), .val (.int p3), .val (.int p4), .val (.long d), .second, .val (.long k), .second, .val (.double (sav (p0.toInt64) d)), .second, .val (.double (sav (p1.toInt64) d)), .second, .val (.double (sav ((p0.toInt64) * k) (d * k))), .second, .val (.int (p4 &&& (3 : Int32))), .val (.double (sav ((2 : Int64) * d) d)), .second, .val (.double (13830554455654793216 : UInt64)), .second, .val (.int (1 : Int32))]) rfl ?_
            show Steps p.tables e below (T_94.setTop (mkF m 203 #[.val (.int p0), .val (.int p1), .val (.int p2), .val (.int p3), .val (.int p4), .val (.long d), .second, .val (.long k), .second, .val (.double (sav (p0.toInt64) d)), .second, .val (.double (sav (p1.toInt64) d)), .second, .val (.double (sav ((p0.toInt64) * k) (d * k))), .second, .val (.int (p4 &&& (3 : Int32))), .val (.double (sav ((2 : Int64) * d) d)), .second, .val (.double (13830554455654793216 : UInt64)), .second, .val (.int (1 : Int32))] [])) _
            refine XS.goto Xw_94.here hx rfl (pc0 := 203) (pc' := 226) rfl (hb hby at_203) (by decide) (by decide) ?_
            show Steps p.tables e below (T_94.setTop (mkF m 226 #[.val (.int p0), .val (.int p1), .val (.int p2), .val (.int p3), .val (.int p4), .val (.long d), .second, .val (.long k), .second, .val (.double (sav (p0.toInt64) d)), .second, .val (.double (sav (p1.toInt64) d)), .second, .val (.double (sav ((p0.toInt64) * k) (d * k))), .second, .val (.int (p4 &&& (3 : Int32))), .val (.double (sav ((2 : Int64) * d) d)), .second, .val (.double (13830554455654793216 : UInt64)), .second, .val (.int (1 : Int32))] [])) _
            refine XS.iloadN Xw_94.here hx rfl (hb hby at_226) rfl ?_
            exact ktg)
          by_cases c_114 : p0 < (0 : Int32)
          · skip
            have pre_115 : Rch p.tables e below (s₁.setTop (entryFrame m #[(.int p0), (.int p1), (.int p2), (.int p3), (.int p4)] maxLocals)) (T_94.setTop (mkF m 264 #[.val (.int p0), .val (.int p1), .val (.int p2), .val (.int p3), .val (.int p4), .val (.long d), .second, .val (.long k), .second, .val (.double (sav (p0.toInt64) d)), .second, .val (.double (sav (p1.toInt64) d)), .second, .val (.double (sav ((p0.toInt64) * k) (d * k))), .second, .val (.int (p4 &&& (3 : Int32))), .val (.double (sav ((2 : Int64) * d) d)), .second, .val (.double (13830554455654793216 : UInt64)), .second, .val (.int (1 : Int32))] [])) := fun tgt ktg => pre_113 tgt (by
              show Steps p.tables e below (T_94.setTop (mkF m 227 #[.val (.int p0), .val (.int p1), .val (.int p2), .val (.int p3), .val (.int p4), .val (.long d), .second, .val (.long k), .second, .val (.double (sav (p0.toInt64) d)), .second, .val (.double (sav (p1.toInt64) d)), .second, .val (.double (sav ((p0.toInt64) * k) (d * k))), .second, .val (.int (p4 &&& (3 : Int32))), .val (.double (sav ((2 : Int64) * d) d)), .second, .val (.double (13830554455654793216 : UInt64)), .second, .val (.int (1 : Int32))] [(.int p0)])) _
              refine XS.ifYes Xw_94.here hx rfl (pc0 := 227) (pc' := 264) rfl (hb hby at_227) rfl ((if0 _ _).trans (tlt c_114).1) (by decide) (by decide) ?_
              exact ktg)
            have pre_116 : Rch p.tables e below (s₁.setTop (entryFrame m #[(.int p0), (.int p1), (.int p2), (.int p3), (.int p4)] maxLocals)) (T_94.setTop (mkF m 266 #[.val (.int p0), .val (.int p1), .val (.int p2), .val (.int p3), .val (.int p4), .val (.long d), .second, .val (.long k), .second, .val (.double (sav (p0.toInt64) d)), .second, .val (.double (sav (p1.toInt64) d)), .second, .val (.double (sav ((p0.toInt64) * k) (d * k))), .second, .val (.int (p4 &&& (3 : Int32))), .val (.double (sav ((2 : Int64) * d) d)), .second, .val (.double (13830554455654793216 : UInt64)), .second, .val (.int (1 : Int32))] [(.int (1 : Int32))])) := fun tgt ktg => pre_115 tgt (by
              show Steps p.tables e below (T_94.setTop (mkF m 264 #[.val (.int p0), .val (.int p1), .val (.int p2), .val (.int p3), .val (.int p4), .val (.long d), .second, .val (.long k), .second, .val (.double (sav (p0.toInt64) d)), .second, .val (.double (sav (p1.toInt64) d)), .second, .val (.double (sav ((p0.toInt64) * k) (d * k))), .second, .val (.int (p4 &&& (3 : Int32))), .val (.double (sav ((2 : Int64) * d) d)), .second, .val (.double (13830554455654793216 : UInt64)), .second, .val (.int (1 : Int32))] [])) _
              refine XS.iload Xw_94.here hx rfl (hb hby at_264) rfl ?_
              exact ktg)
            obtain ⟨fs, hr, hrun, hended, hW⟩ := Xw_94.leaveW hS_94 hk_94 (v := some (.int (1 : Int32))) (fun h => by rw [Bd.returns] at h; cases h)
            refine ⟨_, _, pre_116 _ ?_, hrun, hended, _, _, rfl, ?_, ?_, hW.1, hW.2.1, hW.2.2.1, hW.2.2.2.mono (by decide) (by decide)⟩
            · show Steps p.tables e below (T_94.setTop (mkF m 266 #[.val (.int p0), .val (.int p1), .val (.int p2), .val (.int p3), .val (.int p4), .val (.long d), .second, .val (.long k), .second, .val (.double (sav (p0.toInt64) d)), .second, .val (.double (sav (p1.toInt64) d)), .second, .val (.double (sav ((p0.toInt64) * k) (d * k))), .second, .val (.int (p4 &&& (3 : Int32))), .val (.double (sav ((2 : Int64) * d) d)), .second, .val (.double (13830554455654793216 : UInt64)), .second, .val (.int (1 : Int32))] [(.int (1 : Int32))])) _
              exact retN Xw_94 hx (t := .boolean) Bd.returns (by simp) (hb hby at_266) hr
            · show Q0 Z p0 p1 p2 p3 p4 h0 n0 _ T_94.heap _
              exact ⟨rfl, N_95⟩
            · show CHr Z consts_1 s.vm s.heap T_94.vm T_94.heap
              rw [hh]
              exact C_96.trans (CHv.at Xw_94 hZ hEL C_96.1)
          · skip
            have pre_117 : Rch p.tables e below (s₁.setTop (entryFrame m #[(.int p0), (.int p1), (.int p2), (.int p3), (.int p4)] maxLocals)) (T_94.setTop (mkF m 230 #[.val (.int p0), .val (.int p1), .val (.int p2), .val (.int p3), .val (.int p4), .val (.long d), .second, .val (.long k), .second, .val (.double (sav (p0.toInt64) d)), .second, .val (.double (sav (p1.toInt64) d)), .second, .val (.double (sav ((p0.toInt64) * k) (d * k))), .second, .val (.int (p4 &&& (3 : Int32))), .val (.double (sav ((2 : Int64) * d) d)), .second, .val (.double (13830554455654793216 : UInt64)), .second, .val (.int (1 : Int32))] [])) := fun tgt ktg => pre_113 tgt (by
              show Steps p.tables e below (T_94.setTop (mkF m 227 #[.val (.int p0), .val (.int p1), .val (.int p2), .val (.int p3), .val (.int p4), .val (.long d), .second, .val (.long k), .second, .val (.double (sav (p0.toInt64) d)), .second, .val (.double (sav (p1.toInt64) d)), .second, .val (.double (sav ((p0.toInt64) * k) (d * k))), .second, .val (.int (p4 &&& (3 : Int32))), .val (.double (sav ((2 : Int64) * d) d)), .second, .val (.double (13830554455654793216 : UInt64)), .second, .val (.int (1 : Int32))] [(.int p0)])) _
              refine XS.ifNo Xw_94.here hx rfl (hb hby at_227) rfl ((if0 _ _).trans (flt c_114).1) ?_
              exact ktg)
            have pre_118 : Rch p.tables e below (s₁.setTop (entryFrame m #[(.int p0), (.int p1), (.int p2), (.int p3), (.int p4)] maxLocals)) (T_94.setTop (mkF m 235 #[.val (.int p0), .val (.int p1), .val (.int p2), .val (.int p3), .val (.int p4), .val (.long d), .second, .val (.long k), .second, .val (.double (sav (p0.toInt64) d)), .second, .val (.double (sav (p1.toInt64) d)), .second, .val (.double (sav ((p0.toInt64) * k) (d * k))), .second, .val (.int (p4 &&& (3 : Int32))), .val (.double (sav ((2 : Int64) * d) d)), .second, .val (.double (13830554455654793216 : UInt64)), .second, .val (.int (1 : Int32))] [(.int (XT.cmpL (p0.toInt64) d))])) := fun tgt ktg => pre_117 tgt (by
              show Steps p.tables e below (T_94.setTop (mkF m 230 #[.val (.int p0), .val (.int p1), .val (.int p2), .val (.int p3), .val (.int p4), .val (.long d), .second, .val (.long k), .second, .val (.double (sav (p0.toInt64) d)), .second, .val (.double (sav (p1.toInt64) d)), .second, .val (.double (sav ((p0.toInt64) * k) (d * k))), .second, .val (.int (p4 &&& (3 : Int32))), .val (.double (sav ((2 : Int64) * d) d)), .second, .val (.double (13830554455654793216 : UInt64)), .second, .val (.int (1 : Int32))] [])) _
              refine XS.iloadN Xw_94.here hx rfl (hb hby at_230) rfl ?_
              show Steps p.tables e below (T_94.setTop (mkF m 231 #[.val (.int p0), .val (.int p1), .val (.int p2), .val (.int p3), .val (.int p4), .val (.long d), .second, .val (.long k), .second, .val (.double (sav (p0.toInt64) d)), .second, .val (.double (sav (p1.toInt64) d)), .second, .val (.double (sav ((p0.toInt64) * k) (d * k))), .second, .val (.int (p4 &&& (3 : Int32))), .val (.double (sav ((2 : Int64) * d) d)), .second, .val (.double (13830554455654793216 : UInt64)), .second, .val (.int (1 : Int32))] [(.int p0)])) _
              refine XT.i2l Xw_94.here hx rfl (hb hby at_231) rfl ?_
              show Steps p.tables e below (T_94.setTop (mkF m 232 #[.val (.int p0), .val (.int p1), .val (.int p2), .val (.int p3), .val (.int p4), .val (.long d), .second, .val (.long k), .second, .val (.double (sav (p0.toInt64) d)), .second, .val (.double (sav (p1.toInt64) d)), .second, .val (.double (sav ((p0.toInt64) * k) (d * k))), .second, .val (.int (p4 &&& (3 : Int32))), .val (.double (sav ((2 : Int64) * d) d)), .second, .val (.double (13830554455654793216 : UInt64)), .second, .val (.int (1 : Int32))] [(.long (p0.toInt64))])) _
              refine XT.lload Xw_94.here hx rfl (hb hby at_232) rfl ?_
              show Steps p.tables e below (T_94.setTop (mkF m 234 #[.val (.int p0), .val (.int p1), .val (.int p2), .val (.int p3), .val (.int p4), .val (.long d), .second, .val (.long k), .second, .val (.double (sav (p0.toInt64) d)), .second, .val (.double (sav (p1.toInt64) d)), .second, .val (.double (sav ((p0.toInt64) * k) (d * k))), .second, .val (.int (p4 &&& (3 : Int32))), .val (.double (sav ((2 : Int64) * d) d)), .second, .val (.double (13830554455654793216 : UInt64)), .second, .val (.int (1 : Int32))] [(.long d), (.long (p0.toInt64))])) _
              refine XT.lcmp Xw_94.here hx rfl (hb hby at_234) rfl ?_
              exact ktg)
            by_cases c_119 : (0 : Int32) < (XT.cmpL (p0.toInt64) d)
            · skip
              have pre_120 : Rch p.tables e below (s₁.setTop (entryFrame m #[(.int p0), (.int p1), (.int p2), (.int p3), (.int p4)] maxLocals)) (T_94.setTop (mkF m 264 #[.val (.int p0), .val (.int p1), .val (.int p2), .val (.int p3), .val (.int p4), .val (.long d), .second, .val (.long k), .second, .val (.double (sav (p0.toInt64) d)), .second, .val (.double (sav (p1.toInt64) d)), .second, .val (.double (sav ((p0.toInt64) * k) (d * k))), .second, .val (.int (p4 &&& (3 : Int32))), .val (.double (sav ((2 : Int64) * d) d)), .second, .val (.double (13830554455654793216 : UInt64)), .second, .val (.int (1 : Int32))] [])) := fun tgt ktg => pre_118 tgt (by
                show Steps p.tables e below (T_94.setTop (mkF m 235 #[.val (.int p0), .val (.int p1), .val (.int p2), .val (.int p3), .val (.int p4), .val (.long d), .second, .val (.long k), .second, .val (.double (sav (p0.toInt64) d)), .second, .val (.double (sav (p1.toInt64) d)), .second, .val (.double (sav ((p0.toInt64) * k) (d * k))), .second, .val (.int (p4 &&& (3 : Int32))), .val (.double (sav ((2 : Int64) * d) d)), .second, .val (.double (13830554455654793216 : UInt64)), .second, .val (.int (1 : Int32))] [(.int (XT.cmpL (p0.toInt64) d))])) _
                refine XS.ifYes Xw_94.here hx rfl (pc0 := 235) (pc' := 264) rfl (hb hby at_235) rfl ((if0 _ _).trans (tlt c_119).2.2.1) (by decide) (by decide) ?_
                exact ktg)
              have pre_121 : Rch p.tables e below (s₁.setTop (entryFrame m #[(.int p0), (.int p1), (.int p2), (.int p3), (.int p4)] maxLocals)) (T_94.setTop (mkF m 266 #[.val (.int p0), .val (.int p1), .val (.int p2), .val (.int p3), .val (.int p4), .val (.long d), .second, .val (.long k), .second, .val (.double (sav (p0.toInt64) d)), .second, .val (.double (sav (p1.toInt64) d)), .second, .val (.double (sav ((p0.toInt64) * k) (d * k))), .second, .val (.int (p4 &&& (3 : Int32))), .val (.double (sav ((2 : Int64) * d) d)), .second, .val (.double (13830554455654793216 : UInt64)), .second, .val (.int (1 : Int32))] [(.int (1 : Int32))])) := fun tgt ktg => pre_120 tgt (by
                show Steps p.tables e below (T_94.setTop (mkF m 264 #[.val (.int p0), .val (.int p1), .val (.int p2), .val (.int p3), .val (.int p4), .val (.long d), .second, .val (.long k), .second, .val (.double (sav (p0.toInt64) d)), .second, .val (.double (sav (p1.toInt64) d)), .second, .val (.double (sav ((p0.toInt64) * k) (d * k))), .second, .val (.int (p4 &&& (3 : Int32))), .val (.double (sav ((2 : Int64) * d) d)), .second, .val (.double (13830554455654793216 : UInt64)), .second, .val (.int (1 : Int32))] [])) _
                refine XS.iload Xw_94.here hx rfl (hb hby at_264) rfl ?_
                exact ktg)
              obtain ⟨fs, hr, hrun, hended, hW⟩ := Xw_94.leaveW hS_94 hk_94 (v := some (.int (1 : Int32))) (fun h => by rw [Bd.returns] at h; cases h)
              refine ⟨_, _, pre_121 _ ?_, hrun, hended, _, _, rfl, ?_, ?_, hW.1, hW.2.1, hW.2.2.1, hW.2.2.2.mono (by decide) (by decide)⟩
              · show Steps p.tables e below (T_94.setTop (mkF m 266 #[.val (.int p0), .val (.int p1), .val (.int p2), .val (.int p3), .val (.int p4), .val (.long d), .second, .val (.long k), .second, .val (.double (sav (p0.toInt64) d)), .second, .val (.double (sav (p1.toInt64) d)), .second, .val (.double (sav ((p0.toInt64) * k) (d * k))), .second, .val (.int (p4 &&& (3 : Int32))), .val (.double (sav ((2 : Int64) * d) d)), .second, .val (.double (13830554455654793216 : UInt64)), .second, .val (.int (1 : Int32))] [(.int (1 : Int32))])) _
                exact retN Xw_94 hx (t := .boolean) Bd.returns (by simp) (hb hby at_266) hr
              · show Q0 Z p0 p1 p2 p3 p4 h0 n0 _ T_94.heap _
                exact ⟨rfl, N_95⟩
              · show CHr Z consts_1 s.vm s.heap T_94.vm T_94.heap
                rw [hh]
                exact C_96.trans (CHv.at Xw_94 hZ hEL C_96.1)
            · skip
              have pre_122 : Rch p.tables e below (s₁.setTop (entryFrame m #[(.int p0), (.int p1), (.int p2), (.int p3), (.int p4)] maxLocals)) (T_94.setTop (mkF m 238 #[.val (.int p0), .val (.int p1), .val (.int p2), .val (.int p3), .val (.int p4), .val (.long d), .second, .val (.long k), .second, .val (.double (sav (p0.toInt64) d)), .second, .val (.double (sav (p1.toInt64) d)), .second, .val (.double (sav ((p0.toInt64) * k) (d * k))), .second, .val (.int (p4 &&& (3 : Int32))), .val (.double (sav ((2 : Int64) * d) d)), .second, .val (.double (13830554455654793216 : UInt64)), .second, .val (.int (1 : Int32))] [])) := fun tgt ktg => pre_118 tgt (by
                show Steps p.tables e below (T_94.setTop (mkF m 235 #[.val (.int p0), .val (.int p1), .val (.int p2), .val (.int p3), .val (.int p4), .val (.long d), .second, .val (.long k), .second, .val (.double (sav (p0.toInt64) d)), .second, .val (.double (sav (p1.toInt64) d)), .second, .val (.double (sav ((p0.toInt64) * k) (d * k))), .second, .val (.int (p4 &&& (3 : Int32))), .val (.double (sav ((2 : Int64) * d) d)), .second, .val (.double (13830554455654793216 : UInt64)), .second, .val (.int (1 : Int32))] [(.int (XT.cmpL (p0.toInt64) d))])) _
                refine XS.ifNo Xw_94.here hx rfl (hb hby at_235) rfl ((if0 _ _).trans (flt c_119).2.2.1) ?_
                exact ktg)
              have hr := own_r32 Hd c_114 c_119
              have pre_123 : Rch p.tables e below (s₁.setTop (entryFrame m #[(.int p0), (.int p1), (.int p2), (.int p3), (.int p4)] maxLocals)) (T_94.setTop (mkF m 266 #[.val (.int p0), .val (.int p1), .val (.int p2), .val (.int p3), .val (.int p4), .val (.long d), .second, .val (.long k), .second, .val (.double (sav (p0.toInt64) d)), .second, .val (.double (sav (p1.toInt64) d)), .second, .val (.double (sav ((p0.toInt64) * k) (d * k))), .second, .val (.int (p4 &&& (3 : Int32))), .val (.double (sav ((2 : Int64) * d) d)), .second, .val (.double (13830554455654793216 : UInt64)), .second, .val (.int (1 : Int32))] [(.int (1 : Int32))])) := fun tgt ktg => pre_122 tgt (by
                show Steps p.tables e below (T_94.setTop (mkF m 238 #[.val (.int p0), .val (.int p1), .val (.int p2), .val (.int p3), .val (.int p4), .val (.long d), .second, .val (.long k), .second, .val (.double (sav (p0.toInt64) d)), .second, .val (.double (sav (p1.toInt64) d)), .second, .val (.double (sav ((p0.toInt64) * k) (d * k))), .second, .val (.int (p4 &&& (3 : Int32))), .val (.double (sav ((2 : Int64) * d) d)), .second, .val (.double (13830554455654793216 : UInt64)), .second, .val (.int (1 : Int32))] [])) _
                refine XS.iload Xw_94.here hx rfl (hb hby at_238) rfl ?_
                show Steps p.tables e below (T_94.setTop (mkF m 240 #[.val (.int p0), .val (.int p1), .val (.int p2), .val (.int p3), .val (.int p4), .val (.long d), .second, .val (.long k), .second, .val (.double (sav (p0.toInt64) d)), .second, .val (.double (sav (p1.toInt64) d)), .second, .val (.double (sav ((p0.toInt64) * k) (d * k))), .second, .val (.int (p4 &&& (3 : Int32))), .val (.double (sav ((2 : Int64) * d) d)), .second, .val (.double (13830554455654793216 : UInt64)), .second, .val (.int (1 : Int32))] [(.int (1 : Int32))])) _
                refine XS.ifNo Xw_94.here hx rfl (hb hby at_240) rfl ((if0 _ _).trans (feq (by decide : ¬ ((1 : Int32) = (0 : Int32)))).1) ?_
                show Steps p.tables e below (T_94.setTop (mkF m 243 #[.val (.int p0), .val (.int p1), .val (.int p2), .val (.int p3), .val (.int p4), .val (.long d), .second, .val (.long k), .second, .val (.double (sav (p0.toInt64) d)), .second, .val (.double (sav (p1.toInt64) d)), .second, .val (.double (sav ((p0.toInt64) * k) (d * k))), .second, .val (.int (p4 &&& (3 : Int32))), .val (.double (sav ((2 : Int64) * d) d)), .second, .val (.double (13830554455654793216 : UInt64)), .second, .val (.int (1 : Int32))] [])) _
                refine XS.dload Xw_94.here hx rfl (hb hby at_243) rfl ?_
                show Steps p.tables e below (T_94.setTop (mkF m 245 #[.val (.int p0), .val (.int p1), .val (.int p2), .val (.int p3), .val (.int p4), .val (.long d), .second, .val (.long k), .second, .val (.double (sav (p0.toInt64) d)), .second, .val (.double (sav (p1.toInt64) d)), .second, .val (.double (sav ((p0.toInt64) * k) (d * k))), .second, .val (.int (p4 &&& (3 : Int32))), .val (.double (sav ((2 : Int64) * d) d)), .second, .val (.double (13830554455654793216 : UInt64)), .second, .val (.int (1 : Int32))] [(.double (sav (p0.toInt64) d))])) _
                refine XS.dconst0 Xw_94.here hx rfl (hb hby at_245) (v := (0 : UInt64)) own_dc0 ?_
                show Steps p.tables e below (T_94.setTop (mkF m 246 #[.val (.int p0), .val (.int p1), .val (.int p2), .val (.int p3), .val (.int p4), .val (.long d), .second, .val (.long k), .second, .val (.double (sav (p0.toInt64) d)), .second, .val (.double (sav (p1.toInt64) d)), .second, .val (.double (sav ((p0.toInt64) * k) (d * k))), .second, .val (.int (p4 &&& (3 : Int32))), .val (.double (sav ((2 : Int64) * d) d)), .second, .val (.double (13830554455654793216 : UInt64)), .second, .val (.int (1 : Int32))] [(.double (0 : UInt64)), (.double (sav (p0.toInt64) d))])) _
                refine XS.dcmpS Xw_94.here hx rfl (hb hby at_246) rfl rfl ?_
                show Steps p.tables e below (T_94.setTop (mkF m 247 #[.val (.int p0), .val (.int p1), .val (.int p2), .val (.int p3), .val (.int p4), .val (.long d), .second, .val (.long k), .second, .val (.double (sav (p0.toInt64) d)), .second, .val (.double (sav (p1.toInt64) d)), .second, .val (.double (sav ((p0.toInt64) * k) (d * k))), .second, .val (.int (p4 &&& (3 : Int32))), .val (.double (sav ((2 : Int64) * d) d)), .second, .val (.double (13830554455654793216 : UInt64)), .second, .val (.int (1 : Int32))] [(.int (cmpValue (FP.dcmp (sav (p0.toInt64) d) (0 : UInt64)) .l))])) _
                refine XS.ifNo Xw_94.here hx rfl (hb hby at_247) rfl ((if0 _ _).trans (flt (own_nl hr.1)).1) ?_
                show Steps p.tables e below (T_94.setTop (mkF m 250 #[.val (.int p0), .val (.int p1), .val (.int p2), .val (.int p3), .val (.int p4), .val (.long d), .second, .val (.long k), .second, .val (.double (sav (p0.toInt64) d)), .second, .val (.double (sav (p1.toInt64) d)), .second, .val (.double (sav ((p0.toInt64) * k) (d * k))), .second, .val (.int (p4 &&& (3 : Int32))), .val (.double (sav ((2 : Int64) * d) d)), .second, .val (.double (13830554455654793216 : UInt64)), .second, .val (.int (1 : Int32))] [])) _
                refine XS.dload Xw_94.here hx rfl (hb hby at_250) rfl ?_
                show Steps p.tables e below (T_94.setTop (mkF m 252 #[.val (.int p0), .val (.int p1), .val (.int p2), .val (.int p3), .val (.int p4), .val (.long d), .second, .val (.long k), .second, .val (.double (sav (p0.toInt64) d)), .second, .val (.double (sav (p1.toInt64) d)), .second, .val (.double (sav ((p0.toInt64) * k) (d * k))), .second, .val (.int (p4 &&& (3 : Int32))), .val (.double (sav ((2 : Int64) * d) d)), .second, .val (.double (13830554455654793216 : UInt64)), .second, .val (.int (1 : Int32))] [(.double (sav (p0.toInt64) d))])) _
                refine XS.dconst1 Xw_94.here hx rfl (hb hby at_252) (v := (4607182418800017408 : UInt64)) own_dc1 ?_
                show Steps p.tables e below (T_94.setTop (mkF m 253 #[.val (.int p0), .val (.int p1), .val (.int p2), .val (.int p3), .val (.int p4), .val (.long d), .second, .val (.long k), .second, .val (.double (sav (p0.toInt64) d)), .second, .val (.double (sav (p1.toInt64) d)), .second, .val (.double (sav ((p0.toInt64) * k) (d * k))), .second, .val (.int (p4 &&& (3 : Int32))), .val (.double (sav ((2 : Int64) * d) d)), .second, .val (.double (13830554455654793216 : UInt64)), .second, .val (.int (1 : Int32))] [(.double (4607182418800017408 : UInt64)), (.double (sav (p0.toInt64) d))])) _
                refine XS.dcmpS Xw_94.here hx rfl (hb hby at_253) rfl rfl ?_
                show Steps p.tables e below (T_94.setTop (mkF m 254 #[.val (.int p0), .val (.int p1), .val (.int p2), .val (.int p3), .val (.int p4), .val (.long d), .second, .val (.long k), .second, .val (.double (sav (p0.toInt64) d)), .second, .val (.double (sav (p1.toInt64) d)), .second, .val (.double (sav ((p0.toInt64) * k) (d * k))), .second, .val (.int (p4 &&& (3 : Int32))), .val (.double (sav ((2 : Int64) * d) d)), .second, .val (.double (13830554455654793216 : UInt64)), .second, .val (.int (1 : Int32))] [(.int (cmpValue (FP.dcmp (sav (p0.toInt64) d) (4607182418800017408 : UInt64)) .g))])) _
                refine XS.ifNo Xw_94.here hx rfl (hb hby at_254) rfl ((if0 _ _).trans (flt (own_ng hr.2)).2.2.1) ?_
                show Steps p.tables e below (T_94.setTop (mkF m 257 #[.val (.int p0), .val (.int p1), .val (.int p2), .val (.int p3), .val (.int p4), .val (.long d), .second, .val (.long k), .second, .val (.double (sav (p0.toInt64) d)), .second, .val (.double (sav (p1.toInt64) d)), .second, .val (.double (sav ((p0.toInt64) * k) (d * k))), .second, .val (.int (p4 &&& (3 : Int32))), .val (.double (sav ((2 : Int64) * d) d)), .second, .val (.double (13830554455654793216 : UInt64)), .second, .val (.int (1 : Int32))] [])) _
                refine XS.iconst Xw_94.here hx rfl (hb hby at_257) ?_
                show Steps p.tables e below (T_94.setTop (mkF m 258 #[.val (.int p0), .val (.int p1), .val (.int p2), .val (.int p3), .val (.int p4), .val (.long d), .second, .val (.long k), .second, .val (.double (sav (p0.toInt64) d)), .second, .val (.double (sav (p1.toInt64) d)), .second, .val (.double (sav ((p0.toInt64) * k) (d * k))), .second, .val (.int (p4 &&& (3 : Int32))), .val (.double (sav ((2 : Int64) * d) d)), .second, .val (.double (13830554455654793216 : UInt64)), .second, .val (.int (1 : Int32))] [(.int (1 : Int32))])) _
                refine XS.goto Xw_94.here hx rfl (pc0 := 258) (pc' := 262) rfl (hb hby at_258) (by decide) (by decide) ?_
                show Steps p.tables e below (T_94.setTop (mkF m 262 #[.val (.int p0), .val (.int p1), .val (.int p2), .val (.int p3), .val (.int p4), .val (.long d), .second, .val (.long k), .second, .val (.double (sav (p0.toInt64) d)), .second, .val (.double (sav (p1.toInt64) d)), .second, .val (.double (sav ((p0.toInt64) * k) (d * k))), .second, .val (.int (p4 &&& (3 : Int32))), .val (.double (sav ((2 : Int64) * d) d)), .second, .val (.double (13830554455654793216 : UInt64)), .second, .val (.int (1 : Int32))] [(.int (1 : Int32))])) _
                refine XS.istore Xw_94.here hx rfl (hb hby at_262) rfl (l' := #[.val (.int p0), .val (.int p1), .val (.int p2), .val (.int p3), .val (.int p4), .val (.long d), .second, .val (.long k), .second, .val (.double (sav (p0.toInt64) d)), .second, .val (.double (sav (p1.toInt64) d)), .second, .val (.double (sav ((p0.toInt64) * k) (d * k))), .second, .val (.int (p4 &&& (3 : Int32))), .val (.double (sav ((2 : Int64) * d) d)), .second, .val (.double (13830554455654793216 : UInt64)), .second, .val (.int (1 : Int32))]) rfl ?_
                show Steps p.tables e below (T_94.setTop (mkF m 264 #[.val (.int p0), .val (.int p1), .val (.int p2), .val (.int p3), .val (.int p4), .val (.long d), .second, .val (.long k), .second, .val (.double (sav (p0.toInt64) d)), .second, .val (.double (sav (p1.toInt64) d)), .second, .val (.double (sav ((p0.toInt64) * k) (d * k))), .second, .val (.int (p4 &&& (3 : Int32))), .val (.double (sav ((2 : Int64) * d) d)), .second, .val (.double (13830554455654793216 : UInt64)), .second, .val (.int (1 : Int32))] [])) _
                refine XS.iload Xw_94.here hx rfl (hb hby at_264) rfl ?_
                exact ktg)
              obtain ⟨fs, hr, hrun, hended, hW⟩ := Xw_94.leaveW hS_94 hk_94 (v := some (.int (1 : Int32))) (fun h => by rw [Bd.returns] at h; cases h)
              refine ⟨_, _, pre_123 _ ?_, hrun, hended, _, _, rfl, ?_, ?_, hW.1, hW.2.1, hW.2.2.1, hW.2.2.2.mono (by decide) (by decide)⟩
              · show Steps p.tables e below (T_94.setTop (mkF m 266 #[.val (.int p0), .val (.int p1), .val (.int p2), .val (.int p3), .val (.int p4), .val (.long d), .second, .val (.long k), .second, .val (.double (sav (p0.toInt64) d)), .second, .val (.double (sav (p1.toInt64) d)), .second, .val (.double (sav ((p0.toInt64) * k) (d * k))), .second, .val (.int (p4 &&& (3 : Int32))), .val (.double (sav ((2 : Int64) * d) d)), .second, .val (.double (13830554455654793216 : UInt64)), .second, .val (.int (1 : Int32))] [(.int (1 : Int32))])) _
                exact retN Xw_94 hx (t := .boolean) Bd.returns (by simp) (hb hby at_266) hr
              · show Q0 Z p0 p1 p2 p3 p4 h0 n0 _ T_94.heap _
                exact ⟨rfl, N_95⟩
              · show CHr Z consts_1 s.vm s.heap T_94.vm T_94.heap
                rw [hh]
                exact C_96.trans (CHv.at Xw_94 hZ hEL C_96.1)
      · skip
        have pre_124 : Rch p.tables e below (s₁.setTop (entryFrame m #[(.int p0), (.int p1), (.int p2), (.int p3), (.int p4)] maxLocals)) (T_16.setTop (mkF m 125 #[.val (.int p0), .val (.int p1), .val (.int p2), .val (.int p3), .val (.int p4), .val (.long d), .second, .val (.long k), .second, .val (.double (sav (p0.toInt64) d)), .second, .val (.double (sav (p1.toInt64) d)), .second, .val (.double (sav ((p0.toInt64) * k) (d * k))), .second, .val (.int (p4 &&& (3 : Int32))), .unset, .unset, .unset, .unset, .unset] [])) := fun tgt ktg => pre_90 tgt (by
          show Steps p.tables e below (T_16.setTop (mkF m 101 #[.val (.int p0), .val (.int p1), .val (.int p2), .val (.int p3), .val (.int p4), .val (.long d), .second, .val (.long k), .second, .val (.double (sav (p0.toInt64) d)), .second, .val (.double (sav (p1.toInt64) d)), .second, .val (.double (sav ((p0.toInt64) * k) (d * k))), .second, .val (.int (p4 &&& (3 : Int32))), .unset, .unset, .unset, .unset, .unset] [(.int (2 : Int32)), (.int (p4 &&& (3 : Int32)))])) _
          refine XS.icmpYes Xw_16.here hx rfl (pc0 := 101) (pc' := 125) rfl (hb hby at_101) rfl (feq c_91).2 (by decide) (by decide) ?_
          exact ktg)
        have pre_125 : Rch p.tables e below (s₁.setTop (entryFrame m #[(.int p0), (.int p1), (.int p2), (.int p3), (.int p4)] maxLocals)) (T_16.setTop (mkF m 133 #[.val (.int p0), .val (.int p1), .val (.int p2), .val (.int p3), .val (.int p4), .val (.long d), .second, .val (.long k), .second, .val (.double (sav (p0.toInt64) d)), .second, .val (.double (sav (p1.toInt64) d)), .second, .val (.double (sav ((p0.toInt64) * k) (d * k))), .second, .val (.int (p4 &&& (3 : Int32))), .unset, .unset, .unset, .unset, .unset] [(.long ((2 : Int64) * d)), (.long d)])) := fun tgt ktg => pre_124 tgt (by
          show Steps p.tables e below (T_16.setTop (mkF m 125 #[.val (.int p0), .val (.int p1), .val (.int p2), .val (.int p3), .val (.int p4), .val (.long d), .second, .val (.long k), .second, .val (.double (sav (p0.toInt64) d)), .second, .val (.double (sav (p1.toInt64) d)), .second, .val (.double (sav ((p0.toInt64) * k) (d * k))), .second, .val (.int (p4 &&& (3 : Int32))), .unset, .unset, .unset, .unset, .unset] [])) _
          refine XT.lload Xw_16.here hx rfl (hb hby at_125) rfl ?_
          show Steps p.tables e below (T_16.setTop (mkF m 127 #[.val (.int p0), .val (.int p1), .val (.int p2), .val (.int p3), .val (.int p4), .val (.long d), .second, .val (.long k), .second, .val (.double (sav (p0.toInt64) d)), .second, .val (.double (sav (p1.toInt64) d)), .second, .val (.double (sav ((p0.toInt64) * k) (d * k))), .second, .val (.int (p4 &&& (3 : Int32))), .unset, .unset, .unset, .unset, .unset] [(.long d)])) _
          refine Xw_16.ldc2Long hx hown (mvT hZ (hw _ (List.mem_of_getElem? (i := 41) rfl))) (g := (mkF m 127 #[.val (.int p0), .val (.int p1), .val (.int p2), .val (.int p3), .val (.int p4), .val (.long d), .second, .val (.long k), .second, .val (.double (sav (p0.toInt64) d)), .second, .val (.double (sav (p1.toInt64) d)), .second, .val (.double (sav ((p0.toInt64) * k) (d * k))), .second, .val (.int (p4 &&& (3 : Int32))), .unset, .unset, .unset, .unset, .unset] [(.long d)])) rfl (hb hby at_127) _ ?_
          show Steps p.tables e below (T_16.setTop (mkF m 130 #[.val (.int p0), .val (.int p1), .val (.int p2), .val (.int p3), .val (.int p4), .val (.long d), .second, .val (.long k), .second, .val (.double (sav (p0.toInt64) d)), .second, .val (.double (sav (p1.toInt64) d)), .second, .val (.double (sav ((p0.toInt64) * k) (d * k))), .second, .val (.int (p4 &&& (3 : Int32))), .unset, .unset, .unset, .unset, .unset] [(.long (2 : Int64)), (.long d)])) _
          refine XT.lload Xw_16.here hx rfl (hb hby at_130) rfl ?_
          show Steps p.tables e below (T_16.setTop (mkF m 132 #[.val (.int p0), .val (.int p1), .val (.int p2), .val (.int p3), .val (.int p4), .val (.long d), .second, .val (.long k), .second, .val (.double (sav (p0.toInt64) d)), .second, .val (.double (sav (p1.toInt64) d)), .second, .val (.double (sav ((p0.toInt64) * k) (d * k))), .second, .val (.int (p4 &&& (3 : Int32))), .unset, .unset, .unset, .unset, .unset] [(.long d), (.long (2 : Int64)), (.long d)])) _
          refine XT.lmul Xw_16.here hx rfl (hb hby at_132) rfl ?_
          exact ktg)
        obtain ⟨_, _, ⟨T_126, L_126, k_126, n_126⟩, -, X_126, hSn_126, hgr_126, ⟨Lc_126, hQ_126, l_126, y_126, z_126, hCn_126⟩, st_126⟩ := callSS Xw_16 hx (y := (⟨"com/example/prudent_spot/prudentspot/replay/OutcomeSavingPinLaw", "s", "(JJ)D"⟩ : MethodName)) hown (mvT hZ (hw _ (List.mem_of_getElem? (i := 1) rfl))) (mvT hZ (hw _ (List.mem_of_getElem? (i := 2) rfl))) (mvT hZ (hw _ (List.mem_of_getElem? (i := 3) rfl))) (mvT hZ (hw _ (List.mem_of_getElem? (i := 4) rfl))) (by decide) (backOfSH (W := 0) (rms l Z a0 hw [] d ((2 : Int64) * d) T_16.heap n0 z_19 Hdd) hZ (hw _ (List.mem_of_getElem? (i := 4) rfl)) (hw _ (List.mem_of_getElem? (i := 3) rfl)) (by decide) (by decide) hEL C_18.1) (g := (mkF m 133 #[.val (.int p0), .val (.int p1), .val (.int p2), .val (.int p3), .val (.int p4), .val (.long d), .second, .val (.long k), .second, .val (.double (sav (p0.toInt64) d)), .second, .val (.double (sav (p1.toInt64) d)), .second, .val (.double (sav ((p0.toInt64) * k) (d * k))), .second, .val (.int (p4 &&& (3 : Int32))), .unset, .unset, .unset, .unset, .unset] [(.long ((2 : Int64) * d)), (.long d)])) rfl (by rw [hml]; rfl) (argsL := [(.long d), (.long ((2 : Int64) * d))]) (rest := []) (lenOf pd_2 rfl) rfl (by show 2 * 0 + _ ≤ _; exact Nat.le_of_eq rfl) (hb hby at_133) (fun _ _ => ⟨rfl, rfl, (by decide : 9 + 3 ≤ _), (by decide : 45 + 15 ≤ _)⟩)
        dsimp only [Pt.U, Pt.locs, Pt.cells, Pt.slots] at X_126 l_126 y_126 z_126 st_126 hQ_126 hSn_126 hgr_126 hCn_126
        subst l_126 y_126 z_126
        obtain ⟨rfl, Nq_126, Kq_126⟩ := hQ_126
        have N_127 := Fr.app N_17 Nq_126
        have pre_126 : Rch p.tables e below (s₁.setTop (entryFrame m #[(.int p0), (.int p1), (.int p2), (.int p3), (.int p4)] maxLocals)) (T_126.setTop (mkF m 136 #[.val (.int p0), .val (.int p1), .val (.int p2), .val (.int p3), .val (.int p4), .val (.long d), .second, .val (.long k), .second, .val (.double (sav (p0.toInt64) d)), .second, .val (.double (sav (p1.toInt64) d)), .second, .val (.double (sav ((p0.toInt64) * k) (d * k))), .second, .val (.int (p4 &&& (3 : Int32))), .unset, .unset, .unset, .unset, .unset] [(.double (sav d ((2 : Int64) * d)))])) := fun tgt ktg => pre_125 tgt (st_126.trans ktg)
        have hS_126 : s.Since T_126.vm T_126.heap.size := hS_16.trans hSn_126 (Nat.le_trans hk_16 hgr_126)
        have hk_126 := Nat.le_refl T_126.heap.size
        have hZn_126 : Z.Warmed39 T_126.vm := State.Warmed39.trans (t := s.setVm T_16.vm) hZ hSn_126.1
        have hownn_126 : T_126.vm.findClass "com/example/prudent_spot/prudentspot/replay/OutcomeSavingPinLaw" = some m.cls := by rw [hSn_126.1.alike.findClass]; exact hown
        have hZ := hZn_126
        have hown := hownn_126
        have Xw_126 : Stand p l e room_1 (s.setVm T_126.vm) m #[(.int p0), (.int p1), (.int p2), (.int p3), (.int p4)] below meth c T_126 _ _ _ := X_126
        have C_128 : CHr Z consts_1 s.vm h0 T_126.vm T_126.heap := C_18.trans hCn_126
        have z_129 : n0 ≤ T_126.heap.size := Nat.le_trans z_19 Kq_126.1
        have pre_130 : Rch p.tables e below (s₁.setTop (entryFrame m #[(.int p0), (.int p1), (.int p2), (.int p3), (.int p4)] maxLocals)) (T_126.setTop (mkF m 180 #[.val (.int p0), .val (.int p1), .val (.int p2), .val (.int p3), .val (.int p4), .val (.long d), .second, .val (.long k), .second, .val (.double (sav (p0.toInt64) d)), .second, .val (.double (sav (p1.toInt64) d)), .second, .val (.double (sav ((p0.toInt64) * k) (d * k))), .second, .val (.int (p4 &&& (3 : Int32))), .val (.double (sav d ((2 : Int64) * d))), .second, .val (.double (4602678819172646912 : UInt64)), .second, .val (.int (1 : Int32))] [(.int p1), (.int p0)])) := fun tgt ktg => pre_126 tgt (by
          show Steps p.tables e below (T_126.setTop (mkF m 136 #[.val (.int p0), .val (.int p1), .val (.int p2), .val (.int p3), .val (.int p4), .val (.long d), .second, .val (.long k), .second, .val (.double (sav (p0.toInt64) d)), .second, .val (.double (sav (p1.toInt64) d)), .second, .val (.double (sav ((p0.toInt64) * k) (d * k))), .second, .val (.int (p4 &&& (3 : Int32))), .unset, .unset, .unset, .unset, .unset] [(.double (sav d ((2 : Int64) * d)))])) _
          refine XS.dstore Xw_126.here hx rfl (hb hby at_136) rfl (l' := #[.val (.int p0), .val (.int p1), .val (.int p2), .val (.int p3), .val (.int p4), .val (.long d), .second, .val (.long k), .second, .val (.double (sav (p0.toInt64) d)), .second, .val (.double (sav (p1.toInt64) d)), .second, .val (.double (sav ((p0.toInt64) * k) (d * k))), .second, .val (.int (p4 &&& (3 : Int32))), .val (.double (sav d ((2 : Int64) * d))), .second, .unset, .unset, .unset]) rfl ?_
          show Steps p.tables e below (T_126.setTop (mkF m 138 #[.val (.int p0), .val (.int p1), .val (.int p2), .val (.int p3), .val (.int p4), .val (.long d), .second, .val (.long k), .second, .val (.double (sav (p0.toInt64) d)), .second, .val (.double (sav (p1.toInt64) d)), .second, .val (.double (sav ((p0.toInt64) * k) (d * k))), .second, .val (.int (p4 &&& (3 : Int32))), .val (.double (sav d ((2 : Int64) * d))), .second, .unset, .unset, .unset] [])) _
          refine Xw_126.ldc2DoubleC hx hown (mvT hZ (hw _ (List.mem_of_getElem? (i := 42) rfl))) (g := (mkF m 138 #[.val (.int p0), .val (.int p1), .val (.int p2), .val (.int p3), .val (.int p4), .val (.long d), .second, .val (.long k), .second, .val (.double (sav (p0.toInt64) d)), .second, .val (.double (sav (p1.toInt64) d)), .second, .val (.double (sav ((p0.toInt64) * k) (d * k))), .second, .val (.int (p4 &&& (3 : Int32))), .val (.double (sav d ((2 : Int64) * d))), .second, .unset, .unset, .unset] [])) rfl (hb hby at_138) _ ?_
          show Steps p.tables e below (T_126.setTop (mkF m 141 #[.val (.int p0), .val (.int p1), .val (.int p2), .val (.int p3), .val (.int p4), .val (.long d), .second, .val (.long k), .second, .val (.double (sav (p0.toInt64) d)), .second, .val (.double (sav (p1.toInt64) d)), .second, .val (.double (sav ((p0.toInt64) * k) (d * k))), .second, .val (.int (p4 &&& (3 : Int32))), .val (.double (sav d ((2 : Int64) * d))), .second, .unset, .unset, .unset] [(.double (4602678819172646912 : UInt64))])) _
          refine XS.dstore Xw_126.here hx rfl (hb hby at_141) rfl (l' := #[.val (.int p0), .val (.int p1), .val (.int p2), .val (.int p3), .val (.int p4), .val (.long d), .second, .val (.long k), .second, .val (.double (sav (p0.toInt64) d)), .second, .val (.double (sav (p1.toInt64) d)), .second, .val (.double (sav ((p0.toInt64) * k) (d * k))), .second, .val (.int (p4 &&& (3 : Int32))), .val (.double (sav d ((2 : Int64) * d))), .second, .val (.double (4602678819172646912 : UInt64)), .second, .unset]) rfl ?_
          show Steps p.tables e below (T_126.setTop (mkF m 143 #[.val (.int p0), .val (.int p1), .val (.int p2), .val (.int p3), .val (.int p4), .val (.long d), .second, .val (.long k), .second, .val (.double (sav (p0.toInt64) d)), .second, .val (.double (sav (p1.toInt64) d)), .second, .val (.double (sav ((p0.toInt64) * k) (d * k))), .second, .val (.int (p4 &&& (3 : Int32))), .val (.double (sav d ((2 : Int64) * d))), .second, .val (.double (4602678819172646912 : UInt64)), .second, .unset] [])) _
          refine XS.dload Xw_126.here hx rfl (hb hby at_143) rfl ?_
          show Steps p.tables e below (T_126.setTop (mkF m 145 #[.val (.int p0), .val (.int p1), .val (.int p2), .val (.int p3), .val (.int p4), .val (.long d), .second, .val (.long k), .second, .val (.double (sav (p0.toInt64) d)), .second, .val (.double (sav (p1.toInt64) d)), .second, .val (.double (sav ((p0.toInt64) * k) (d * k))), .second, .val (.int (p4 &&& (3 : Int32))), .val (.double (sav d ((2 : Int64) * d))), .second, .val (.double (4602678819172646912 : UInt64)), .second, .unset] [(.double (sav d ((2 : Int64) * d)))])) _
          refine XS.dload Xw_126.here hx rfl (hb hby at_145) rfl ?_
          show Steps p.tables e below (T_126.setTop (mkF m 147 #[.val (.int p0), .val (.int p1), .val (.int p2), .val (.int p3), .val (.int p4), .val (.long d), .second, .val (.long k), .second, .val (.double (sav (p0.toInt64) d)), .second, .val (.double (sav (p1.toInt64) d)), .second, .val (.double (sav ((p0.toInt64) * k) (d * k))), .second, .val (.int (p4 &&& (3 : Int32))), .val (.double (sav d ((2 : Int64) * d))), .second, .val (.double (4602678819172646912 : UInt64)), .second, .unset] [(.double (4602678819172646912 : UInt64)), (.double (sav d ((2 : Int64) * d)))])) _
          refine XS.dcmpS Xw_126.here hx rfl (hb hby at_147) rfl rfl ?_
          show Steps p.tables e below (T_126.setTop (mkF m 148 #[.val (.int p0), .val (.int p1), .val (.int p2), .val (.int p3), .val (.int p4), .val (.long d), .second, .val (.long k), .second, .val (.double (sav (p0.toInt64) d)), .second, .val (.double (sav (p1.toInt64) d)), .second, .val (.double (sav ((p0.toInt64) * k) (d * k))), .second, .val (.int (p4 &&& (3 : Int32))), .val (.double (sav d ((2 : Int64) * d))), .second, .val (.double (4602678819172646912 : UInt64)), .second, .unset] [(.int (cmpValue (FP.dcmp (sav d ((2 : Int64) * d)) (4602678819172646912 : UInt64)) .l))])) _
          refine XS.ifNo Xw_126.here hx rfl (hb hby at_148) rfl ((if0 _ _).trans (teq (own_k0 (own_sp3 Hd (own_dd hd) Hdd))).2) ?_
          show Steps p.tables e below (T_126.setTop (mkF m 151 #[.val (.int p0), .val (.int p1), .val (.int p2), .val (.int p3), .val (.int p4), .val (.long d), .second, .val (.long k), .second, .val (.double (sav (p0.toInt64) d)), .second, .val (.double (sav (p1.toInt64) d)), .second, .val (.double (sav ((p0.toInt64) * k) (d * k))), .second, .val (.int (p4 &&& (3 : Int32))), .val (.double (sav d ((2 : Int64) * d))), .second, .val (.double (4602678819172646912 : UInt64)), .second, .unset] [])) _
          refine XS.iconst Xw_126.here hx rfl (hb hby at_151) ?_
          show Steps p.tables e below (T_126.setTop (mkF m 152 #[.val (.int p0), .val (.int p1), .val (.int p2), .val (.int p3), .val (.int p4), .val (.long d), .second, .val (.long k), .second, .val (.double (sav (p0.toInt64) d)), .second, .val (.double (sav (p1.toInt64) d)), .second, .val (.double (sav ((p0.toInt64) * k) (d * k))), .second, .val (.int (p4 &&& (3 : Int32))), .val (.double (sav d ((2 : Int64) * d))), .second, .val (.double (4602678819172646912 : UInt64)), .second, .unset] [(.int (1 : Int32))])) _
          refine XS.goto Xw_126.here hx rfl (pc0 := 152) (pc' := 156) rfl (hb hby at_152) (by decide) (by decide) ?_
          show Steps p.tables e below (T_126.setTop (mkF m 156 #[.val (.int p0), .val (.int p1), .val (.int p2), .val (.int p3), .val (.int p4), .val (.long d), .second, .val (.long k), .second, .val (.double (sav (p0.toInt64) d)), .second, .val (.double (sav (p1.toInt64) d)), .second, .val (.double (sav ((p0.toInt64) * k) (d * k))), .second, .val (.int (p4 &&& (3 : Int32))), .val (.double (sav d ((2 : Int64) * d))), .second, .val (.double (4602678819172646912 : UInt64)), .second, .unset] [(.int (1 : Int32))])) _
          refine XS.istore Xw_126.here hx rfl (hb hby at_156) rfl (l' := #[.val (.int p0), .val (.int p1), .val (.int p2), .val (.int p3), .val (.int p4), .val (.long d), .second, .val (.long k), .second, .val (.double (sav (p0.toInt64) d)), .second, .val (.double (sav (p1.toInt64) d)), .second, .val (.double (sav ((p0.toInt64) * k) (d * k))), .second, .val (.int (p4 &&& (3 : Int32))), .val (.double (sav d ((2 : Int64) * d))), .second, .val (.double (4602678819172646912 : UInt64)), .second, .val (.int (1 : Int32))]) rfl ?_
          show Steps p.tables e below (T_126.setTop (mkF m 158 #[.val (.int p0), .val (.int p1), .val (.int p2), .val (.int p3), .val (.int p4), .val (.long d), .second, .val (.long k), .second, .val (.double (sav (p0.toInt64) d)), .second, .val (.double (sav (p1.toInt64) d)), .second, .val (.double (sav ((p0.toInt64) * k) (d * k))), .second, .val (.int (p4 &&& (3 : Int32))), .val (.double (sav d ((2 : Int64) * d))), .second, .val (.double (4602678819172646912 : UInt64)), .second, .val (.int (1 : Int32))] [])) _
          refine XS.iload Xw_126.here hx rfl (hb hby at_158) rfl ?_
          show Steps p.tables e below (T_126.setTop (mkF m 160 #[.val (.int p0), .val (.int p1), .val (.int p2), .val (.int p3), .val (.int p4), .val (.long d), .second, .val (.long k), .second, .val (.double (sav (p0.toInt64) d)), .second, .val (.double (sav (p1.toInt64) d)), .second, .val (.double (sav ((p0.toInt64) * k) (d * k))), .second, .val (.int (p4 &&& (3 : Int32))), .val (.double (sav d ((2 : Int64) * d))), .second, .val (.double (4602678819172646912 : UInt64)), .second, .val (.int (1 : Int32))] [(.int (1 : Int32))])) _
          refine XS.ifNo Xw_126.here hx rfl (hb hby at_160) rfl ((if0 _ _).trans (feq (by decide : ¬ ((1 : Int32) = (0 : Int32)))).1) ?_
          show Steps p.tables e below (T_126.setTop (mkF m 163 #[.val (.int p0), .val (.int p1), .val (.int p2), .val (.int p3), .val (.int p4), .val (.long d), .second, .val (.long k), .second, .val (.double (sav (p0.toInt64) d)), .second, .val (.double (sav (p1.toInt64) d)), .second, .val (.double (sav ((p0.toInt64) * k) (d * k))), .second, .val (.int (p4 &&& (3 : Int32))), .val (.double (sav d ((2 : Int64) * d))), .second, .val (.double (4602678819172646912 : UInt64)), .second, .val (.int (1 : Int32))] [])) _
          refine XS.dload Xw_126.here hx rfl (hb hby at_163) rfl ?_
          show Steps p.tables e below (T_126.setTop (mkF m 165 #[.val (.int p0), .val (.int p1), .val (.int p2), .val (.int p3), .val (.int p4), .val (.long d), .second, .val (.long k), .second, .val (.double (sav (p0.toInt64) d)), .second, .val (.double (sav (p1.toInt64) d)), .second, .val (.double (sav ((p0.toInt64) * k) (d * k))), .second, .val (.int (p4 &&& (3 : Int32))), .val (.double (sav d ((2 : Int64) * d))), .second, .val (.double (4602678819172646912 : UInt64)), .second, .val (.int (1 : Int32))] [(.double (sav ((p0.toInt64) * k) (d * k)))])) _
          refine XS.dload Xw_126.here hx rfl (hb hby at_165) rfl ?_
          show Steps p.tables e below (T_126.setTop (mkF m 167 #[.val (.int p0), .val (.int p1), .val (.int p2), .val (.int p3), .val (.int p4), .val (.long d), .second, .val (.long k), .second, .val (.double (sav (p0.toInt64) d)), .second, .val (.double (sav (p1.toInt64) d)), .second, .val (.double (sav ((p0.toInt64) * k) (d * k))), .second, .val (.int (p4 &&& (3 : Int32))), .val (.double (sav d ((2 : Int64) * d))), .second, .val (.double (4602678819172646912 : UInt64)), .second, .val (.int (1 : Int32))] [(.double (sav (p0.toInt64) d)), (.double (sav ((p0.toInt64) * k) (d * k)))])) _
          refine XS.dcmpS Xw_126.here hx rfl (hb hby at_167) rfl rfl ?_
          show Steps p.tables e below (T_126.setTop (mkF m 168 #[.val (.int p0), .val (.int p1), .val (.int p2), .val (.int p3), .val (.int p4), .val (.long d), .second, .val (.long k), .second, .val (.double (sav (p0.toInt64) d)), .second, .val (.double (sav (p1.toInt64) d)), .second, .val (.double (sav ((p0.toInt64) * k) (d * k))), .second, .val (.int (p4 &&& (3 : Int32))), .val (.double (sav d ((2 : Int64) * d))), .second, .val (.double (4602678819172646912 : UInt64)), .second, .val (.int (1 : Int32))] [(.int (cmpValue (FP.dcmp (sav ((p0.toInt64) * k) (d * k)) (sav (p0.toInt64) d)) .l))])) _
          refine XS.ifNo Xw_126.here hx rfl (hb hby at_168) rfl ((if0 _ _).trans (teq (own_scl (c := p0) hd hk)).2) ?_
          show Steps p.tables e below (T_126.setTop (mkF m 171 #[.val (.int p0), .val (.int p1), .val (.int p2), .val (.int p3), .val (.int p4), .val (.long d), .second, .val (.long k), .second, .val (.double (sav (p0.toInt64) d)), .second, .val (.double (sav (p1.toInt64) d)), .second, .val (.double (sav ((p0.toInt64) * k) (d * k))), .second, .val (.int (p4 &&& (3 : Int32))), .val (.double (sav d ((2 : Int64) * d))), .second, .val (.double (4602678819172646912 : UInt64)), .second, .val (.int (1 : Int32))] [])) _
          refine XS.iconst Xw_126.here hx rfl (hb hby at_171) ?_
          show Steps p.tables e below (T_126.setTop (mkF m 172 #[.val (.int p0), .val (.int p1), .val (.int p2), .val (.int p3), .val (.int p4), .val (.long d), .second, .val (.long k), .second, .val (.double (sav (p0.toInt64) d)), .second, .val (.double (sav (p1.toInt64) d)), .second, .val (.double (sav ((p0.toInt64) * k) (d * k))), .second, .val (.int (p4 &&& (3 : Int32))), .val (.double (sav d ((2 : Int64) * d))), .second, .val (.double (4602678819172646912 : UInt64)), .second, .val (.int (1 : Int32))] [(.int (1 : Int32))])) _
          refine XS.goto Xw_126.here hx rfl (pc0 := 172) (pc' := 176) rfl (hb hby at_172) (by decide) (by decide) ?_
          show Steps p.tables e below (T_126.setTop (mkF m 176 #[.val (.int p0), .val (.int p1), .val (.int p2), .val (.int p3), .val (.int p4), .val (.long d), .second, .val (.long k), .second, .val (.double (sav (p0.toInt64) d)), .second, .val (.double (sav (p1.toInt64) d)), .second, .val (.double (sav ((p0.toInt64) * k) (d * k))), .second, .val (.int (p4 &&& (3 : Int32))), .val (.double (sav d ((2 : Int64) * d))), .second, .val (.double (4602678819172646912 : UInt64)), .second, .val (.int (1 : Int32))] [(.int (1 : Int32))])) _
          refine XS.istore Xw_126.here hx rfl (hb hby at_176) rfl (l' := #[.val (.int p0), .val (.int p1), .val (.int p2), .val (.int p3), .val (.int p4), .val (.long d), .second, .val (.long k), .second, .val (.double (sav (p0.toInt64) d)), .second, .val (.double (sav (p1.toInt64) d)), .second, .val (.double (sav ((p0.toInt64) * k) (d * k))), .second, .val (.int (p4 &&& (3 : Int32))), .val (.double (sav d ((2 : Int64) * d))), .second, .val (.double (4602678819172646912 : UInt64)), .second, .val (.int (1 : Int32))]) rfl ?_
          show Steps p.tables e below (T_126.setTop (mkF m 178 #[.val (.int p0), .val (.int p1), .val (.int p2), .val (.int p3), .val (.int p4), .val (.long d), .second, .val (.long k), .second, .val (.double (sav (p0.toInt64) d)), .second, .val (.double (sav (p1.toInt64) d)), .second, .val (.double (sav ((p0.toInt64) * k) (d * k))), .second, .val (.int (p4 &&& (3 : Int32))), .val (.double (sav d ((2 : Int64) * d))), .second, .val (.double (4602678819172646912 : UInt64)), .second, .val (.int (1 : Int32))] [])) _
          refine XS.iloadN Xw_126.here hx rfl (hb hby at_178) rfl ?_
          show Steps p.tables e below (T_126.setTop (mkF m 179 #[.val (.int p0), .val (.int p1), .val (.int p2), .val (.int p3), .val (.int p4), .val (.long d), .second, .val (.long k), .second, .val (.double (sav (p0.toInt64) d)), .second, .val (.double (sav (p1.toInt64) d)), .second, .val (.double (sav ((p0.toInt64) * k) (d * k))), .second, .val (.int (p4 &&& (3 : Int32))), .val (.double (sav d ((2 : Int64) * d))), .second, .val (.double (4602678819172646912 : UInt64)), .second, .val (.int (1 : Int32))] [(.int p0)])) _
          refine XS.iloadN Xw_126.here hx rfl (hb hby at_179) rfl ?_
          exact ktg)
        by_cases c_131 : p1 < p0
        · skip
          have pre_132 : Rch p.tables e below (s₁.setTop (entryFrame m #[(.int p0), (.int p1), (.int p2), (.int p3), (.int p4)] maxLocals)) (T_126.setTop (mkF m 206 #[.val (.int p0), .val (.int p1), .val (.int p2), .val (.int p3), .val (.int p4), .val (.long d), .second, .val (.long k), .second, .val (.double (sav (p0.toInt64) d)), .second, .val (.double (sav (p1.toInt64) d)), .second, .val (.double (sav ((p0.toInt64) * k) (d * k))), .second, .val (.int (p4 &&& (3 : Int32))), .val (.double (sav d ((2 : Int64) * d))), .second, .val (.double (4602678819172646912 : UInt64)), .second, .val (.int (1 : Int32))] [])) := fun tgt ktg => pre_130 tgt (by
            show Steps p.tables e below (T_126.setTop (mkF m 180 #[.val (.int p0), .val (.int p1), .val (.int p2), .val (.int p3), .val (.int p4), .val (.long d), .second, .val (.long k), .second, .val (.double (sav (p0.toInt64) d)), .second, .val (.double (sav (p1.toInt64) d)), .second, .val (.double (sav ((p0.toInt64) * k) (d * k))), .second, .val (.int (p4 &&& (3 : Int32))), .val (.double (sav d ((2 : Int64) * d))), .second, .val (.double (4602678819172646912 : UInt64)), .second, .val (.int (1 : Int32))] [(.int p1), (.int p0)])) _
            refine XS.icmpYes Xw_126.here hx rfl (pc0 := 180) (pc' := 206) rfl (hb hby at_180) rfl (tlt c_131).2.2.1 (by decide) (by decide) ?_
            exact ktg)
          have pre_133 : Rch p.tables e below (s₁.setTop (entryFrame m #[(.int p0), (.int p1), (.int p2), (.int p3), (.int p4)] maxLocals)) (T_126.setTop (mkF m 227 #[.val (.int p0), .val (.int p1), .val (.int p2), .val (.int p3), .val (.int p4), .val (.long d), .second, .val (.long k), .second, .val (.double (sav (p0.toInt64) d)), .second, .val (.double (sav (p1.toInt64) d)), .second, .val (.double (sav ((p0.toInt64) * k) (d * k))), .second, .val (.int (p4 &&& (3 : Int32))), .val (.double (sav d ((2 : Int64) * d))), .second, .val (.double (4602678819172646912 : UInt64)), .second, .val (.int (1 : Int32))] [(.int p0)])) := fun tgt ktg => pre_132 tgt (by
            show Steps p.tables e below (T_126.setTop (mkF m 206 #[.val (.int p0), .val (.int p1), .val (.int p2), .val (.int p3), .val (.int p4), .val (.long d), .second, .val (.long k), .second, .val (.double (sav (p0.toInt64) d)), .second, .val (.double (sav (p1.toInt64) d)), .second, .val (.double (sav ((p0.toInt64) * k) (d * k))), .second, .val (.int (p4 &&& (3 : Int32))), .val (.double (sav d ((2 : Int64) * d))), .second, .val (.double (4602678819172646912 : UInt64)), .second, .val (.int (1 : Int32))] [])) _
            refine XS.iload Xw_126.here hx rfl (hb hby at_206) rfl ?_
            show Steps p.tables e below (T_126.setTop (mkF m 208 #[.val (.int p0), .val (.int p1), .val (.int p2), .val (.int p3), .val (.int p4), .val (.long d), .second, .val (.long k), .second, .val (.double (sav (p0.toInt64) d)), .second, .val (.double (sav (p1.toInt64) d)), .second, .val (.double (sav ((p0.toInt64) * k) (d * k))), .second, .val (.int (p4 &&& (3 : Int32))), .val (.double (sav d ((2 : Int64) * d))), .second, .val (.double (4602678819172646912 : UInt64)), .second, .val (.int (1 : Int32))] [(.int (1 : Int32))])) _
            refine XS.ifNo Xw_126.here hx rfl (hb hby at_208) rfl ((if0 _ _).trans (feq (by decide : ¬ ((1 : Int32) = (0 : Int32)))).1) ?_
            show Steps p.tables e below (T_126.setTop (mkF m 211 #[.val (.int p0), .val (.int p1), .val (.int p2), .val (.int p3), .val (.int p4), .val (.long d), .second, .val (.long k), .second, .val (.double (sav (p0.toInt64) d)), .second, .val (.double (sav (p1.toInt64) d)), .second, .val (.double (sav ((p0.toInt64) * k) (d * k))), .second, .val (.int (p4 &&& (3 : Int32))), .val (.double (sav d ((2 : Int64) * d))), .second, .val (.double (4602678819172646912 : UInt64)), .second, .val (.int (1 : Int32))] [])) _
            refine XS.dload Xw_126.here hx rfl (hb hby at_211) rfl ?_
            show Steps p.tables e below (T_126.setTop (mkF m 213 #[.val (.int p0), .val (.int p1), .val (.int p2), .val (.int p3), .val (.int p4), .val (.long d), .second, .val (.long k), .second, .val (.double (sav (p0.toInt64) d)), .second, .val (.double (sav (p1.toInt64) d)), .second, .val (.double (sav ((p0.toInt64) * k) (d * k))), .second, .val (.int (p4 &&& (3 : Int32))), .val (.double (sav d ((2 : Int64) * d))), .second, .val (.double (4602678819172646912 : UInt64)), .second, .val (.int (1 : Int32))] [(.double (sav (p1.toInt64) d))])) _
            refine XS.dload Xw_126.here hx rfl (hb hby at_213) rfl ?_
            show Steps p.tables e below (T_126.setTop (mkF m 215 #[.val (.int p0), .val (.int p1), .val (.int p2), .val (.int p3), .val (.int p4), .val (.long d), .second, .val (.long k), .second, .val (.double (sav (p0.toInt64) d)), .second, .val (.double (sav (p1.toInt64) d)), .second, .val (.double (sav ((p0.toInt64) * k) (d * k))), .second, .val (.int (p4 &&& (3 : Int32))), .val (.double (sav d ((2 : Int64) * d))), .second, .val (.double (4602678819172646912 : UInt64)), .second, .val (.int (1 : Int32))] [(.double (sav (p0.toInt64) d)), (.double (sav (p1.toInt64) d))])) _
            refine XS.dcmpS Xw_126.here hx rfl (hb hby at_215) rfl rfl ?_
            show Steps p.tables e below (T_126.setTop (mkF m 216 #[.val (.int p0), .val (.int p1), .val (.int p2), .val (.int p3), .val (.int p4), .val (.long d), .second, .val (.long k), .second, .val (.double (sav (p0.toInt64) d)), .second, .val (.double (sav (p1.toInt64) d)), .second, .val (.double (sav ((p0.toInt64) * k) (d * k))), .second, .val (.int (p4 &&& (3 : Int32))), .val (.double (sav d ((2 : Int64) * d))), .second, .val (.double (4602678819172646912 : UInt64)), .second, .val (.int (1 : Int32))] [(.int (cmpValue (FP.dcmp (sav (p1.toInt64) d) (sav (p0.toInt64) d)) .l))])) _
            refine XS.ifNo Xw_126.here hx rfl (hb hby at_216) rfl ((if0 _ _).trans (flt (own_nl (own_mo (own_cn p1) (own_cn p0) Hd (by rw [own_b, own_b]; exact Int.le_of_lt (Int32.lt_iff_toInt_lt.mp c_131))))).1) ?_
            show Steps p.tables e below (T_126.setTop (mkF m 219 #[.val (.int p0), .val (.int p1), .val (.int p2), .val (.int p3), .val (.int p4), .val (.long d), .second, .val (.long k), .second, .val (.double (sav (p0.toInt64) d)), .second, .val (.double (sav (p1.toInt64) d)), .second, .val (.double (sav ((p0.toInt64) * k) (d * k))), .second, .val (.int (p4 &&& (3 : Int32))), .val (.double (sav d ((2 : Int64) * d))), .second, .val (.double (4602678819172646912 : UInt64)), .second, .val (.int (1 : Int32))] [])) _
            refine XS.iconst Xw_126.here hx rfl (hb hby at_219) ?_
            show Steps p.tables e below (T_126.setTop (mkF m 220 #[.val (.int p0), .val (.int p1), .val (.int p2), .val (.int p3), .val (.int p4), .val (.long d), .second, .val (.long k), .second, .val (.double (sav (p0.toInt64) d)), .second, .val (.double (sav (p1.toInt64) d)), .second, .val (.double (sav ((p0.toInt64) * k) (d * k))), .second, .val (.int (p4 &&& (3 : Int32))), .val (.double (sav d ((2 : Int64) * d))), .second, .val (.double (4602678819172646912 : UInt64)), .second, .val (.int (1 : Int32))] [(.int (1 : Int32))])) _
            refine XS.goto Xw_126.here hx rfl (pc0 := 220) (pc' := 224) rfl (hb hby at_220) (by decide) (by decide) ?_
            show Steps p.tables e below (T_126.setTop (mkF m 224 #[.val (.int p0), .val (.int p1), .val (.int p2), .val (.int p3), .val (.int p4), .val (.long d), .second, .val (.long k), .second, .val (.double (sav (p0.toInt64) d)), .second, .val (.double (sav (p1.toInt64) d)), .second, .val (.double (sav ((p0.toInt64) * k) (d * k))), .second, .val (.int (p4 &&& (3 : Int32))), .val (.double (sav d ((2 : Int64) * d))), .second, .val (.double (4602678819172646912 : UInt64)), .second, .val (.int (1 : Int32))] [(.int (1 : Int32))])) _
            refine XS.istore Xw_126.here hx rfl (hb hby at_224) rfl (l' := #[.val (.int p0), .val (.int p1), .val (.int p2), .val (.int p3), .val (.int p4), .val (.long d), .second, .val (.long k), .second, .val (.double (sav (p0.toInt64) d)), .second, .val (.double (sav (p1.toInt64) d)), .second, .val (.double (sav ((p0.toInt64) * k) (d * k))), .second, .val (.int (p4 &&& (3 : Int32))), .val (.double (sav d ((2 : Int64) * d))), .second, .val (.double (4602678819172646912 : UInt64)), .second, .val (.int (1 : Int32))]) rfl ?_
            show Steps p.tables e below (T_126.setTop (mkF m 226 #[.val (.int p0), .val (.int p1), .val (.int p2), .val (.int p3), .val (.int p4), .val (.long d), .second, .val (.long k), .second, .val (.double (sav (p0.toInt64) d)), .second, .val (.double (sav (p1.toInt64) d)), .second, .val (.double (sav ((p0.toInt64) * k) (d * k))), .second, .val (.int (p4 &&& (3 : Int32))), .val (.double (sav d ((2 : Int64) * d))), .second, .val (.double (4602678819172646912 : UInt64)), .second, .val (.int (1 : Int32))] [])) _
            refine XS.iloadN Xw_126.here hx rfl (hb hby at_226) rfl ?_
            exact ktg)
          by_cases c_134 : p0 < (0 : Int32)
          · skip
            have pre_135 : Rch p.tables e below (s₁.setTop (entryFrame m #[(.int p0), (.int p1), (.int p2), (.int p3), (.int p4)] maxLocals)) (T_126.setTop (mkF m 264 #[.val (.int p0), .val (.int p1), .val (.int p2), .val (.int p3), .val (.int p4), .val (.long d), .second, .val (.long k), .second, .val (.double (sav (p0.toInt64) d)), .second, .val (.double (sav (p1.toInt64) d)), .second, .val (.double (sav ((p0.toInt64) * k) (d * k))), .second, .val (.int (p4 &&& (3 : Int32))), .val (.double (sav d ((2 : Int64) * d))), .second, .val (.double (4602678819172646912 : UInt64)), .second, .val (.int (1 : Int32))] [])) := fun tgt ktg => pre_133 tgt (by
              show Steps p.tables e below (T_126.setTop (mkF m 227 #[.val (.int p0), .val (.int p1), .val (.int p2), .val (.int p3), .val (.int p4), .val (.long d), .second, .val (.long k), .second, .val (.double (sav (p0.toInt64) d)), .second, .val (.double (sav (p1.toInt64) d)), .second, .val (.double (sav ((p0.toInt64) * k) (d * k))), .second, .val (.int (p4 &&& (3 : Int32))), .val (.double (sav d ((2 : Int64) * d))), .second, .val (.double (4602678819172646912 : UInt64)), .second, .val (.int (1 : Int32))] [(.int p0)])) _
              refine XS.ifYes Xw_126.here hx rfl (pc0 := 227) (pc' := 264) rfl (hb hby at_227) rfl ((if0 _ _).trans (tlt c_134).1) (by decide) (by decide) ?_
              exact ktg)
            have pre_136 : Rch p.tables e below (s₁.setTop (entryFrame m #[(.int p0), (.int p1), (.int p2), (.int p3), (.int p4)] maxLocals)) (T_126.setTop (mkF m 266 #[.val (.int p0), .val (.int p1), .val (.int p2), .val (.int p3), .val (.int p4), .val (.long d), .second, .val (.long k), .second, .val (.double (sav (p0.toInt64) d)), .second, .val (.double (sav (p1.toInt64) d)), .second, .val (.double (sav ((p0.toInt64) * k) (d * k))), .second, .val (.int (p4 &&& (3 : Int32))), .val (.double (sav d ((2 : Int64) * d))), .second, .val (.double (4602678819172646912 : UInt64)), .second, .val (.int (1 : Int32))] [(.int (1 : Int32))])) := fun tgt ktg => pre_135 tgt (by
              show Steps p.tables e below (T_126.setTop (mkF m 264 #[.val (.int p0), .val (.int p1), .val (.int p2), .val (.int p3), .val (.int p4), .val (.long d), .second, .val (.long k), .second, .val (.double (sav (p0.toInt64) d)), .second, .val (.double (sav (p1.toInt64) d)), .second, .val (.double (sav ((p0.toInt64) * k) (d * k))), .second, .val (.int (p4 &&& (3 : Int32))), .val (.double (sav d ((2 : Int64) * d))), .second, .val (.double (4602678819172646912 : UInt64)), .second, .val (.int (1 : Int32))] [])) _
              refine XS.iload Xw_126.here hx rfl (hb hby at_264) rfl ?_
              exact ktg)
            obtain ⟨fs, hr, hrun, hended, hW⟩ := Xw_126.leaveW hS_126 hk_126 (v := some (.int (1 : Int32))) (fun h => by rw [Bd.returns] at h; cases h)
            refine ⟨_, _, pre_136 _ ?_, hrun, hended, _, _, rfl, ?_, ?_, hW.1, hW.2.1, hW.2.2.1, hW.2.2.2.mono (by decide) (by decide)⟩
            · show Steps p.tables e below (T_126.setTop (mkF m 266 #[.val (.int p0), .val (.int p1), .val (.int p2), .val (.int p3), .val (.int p4), .val (.long d), .second, .val (.long k), .second, .val (.double (sav (p0.toInt64) d)), .second, .val (.double (sav (p1.toInt64) d)), .second, .val (.double (sav ((p0.toInt64) * k) (d * k))), .second, .val (.int (p4 &&& (3 : Int32))), .val (.double (sav d ((2 : Int64) * d))), .second, .val (.double (4602678819172646912 : UInt64)), .second, .val (.int (1 : Int32))] [(.int (1 : Int32))])) _
              exact retN Xw_126 hx (t := .boolean) Bd.returns (by simp) (hb hby at_266) hr
            · show Q0 Z p0 p1 p2 p3 p4 h0 n0 _ T_126.heap _
              exact ⟨rfl, N_127⟩
            · show CHr Z consts_1 s.vm s.heap T_126.vm T_126.heap
              rw [hh]
              exact C_128.trans (CHv.at Xw_126 hZ hEL C_128.1)
          · skip
            have pre_137 : Rch p.tables e below (s₁.setTop (entryFrame m #[(.int p0), (.int p1), (.int p2), (.int p3), (.int p4)] maxLocals)) (T_126.setTop (mkF m 230 #[.val (.int p0), .val (.int p1), .val (.int p2), .val (.int p3), .val (.int p4), .val (.long d), .second, .val (.long k), .second, .val (.double (sav (p0.toInt64) d)), .second, .val (.double (sav (p1.toInt64) d)), .second, .val (.double (sav ((p0.toInt64) * k) (d * k))), .second, .val (.int (p4 &&& (3 : Int32))), .val (.double (sav d ((2 : Int64) * d))), .second, .val (.double (4602678819172646912 : UInt64)), .second, .val (.int (1 : Int32))] [])) := fun tgt ktg => pre_133 tgt (by
              show Steps p.tables e below (T_126.setTop (mkF m 227 #[.val (.int p0), .val (.int p1), .val (.int p2), .val (.int p3), .val (.int p4), .val (.long d), .second, .val (.long k), .second, .val (.double (sav (p0.toInt64) d)), .second, .val (.double (sav (p1.toInt64) d)), .second, .val (.double (sav ((p0.toInt64) * k) (d * k))), .second, .val (.int (p4 &&& (3 : Int32))), .val (.double (sav d ((2 : Int64) * d))), .second, .val (.double (4602678819172646912 : UInt64)), .second, .val (.int (1 : Int32))] [(.int p0)])) _
              refine XS.ifNo Xw_126.here hx rfl (hb hby at_227) rfl ((if0 _ _).trans (flt c_134).1) ?_
              exact ktg)
            have pre_138 : Rch p.tables e below (s₁.setTop (entryFrame m #[(.int p0), (.int p1), (.int p2), (.int p3), (.int p4)] maxLocals)) (T_126.setTop (mkF m 235 #[.val (.int p0), .val (.int p1), .val (.int p2), .val (.int p3), .val (.int p4), .val (.long d), .second, .val (.long k), .second, .val (.double (sav (p0.toInt64) d)), .second, .val (.double (sav (p1.toInt64) d)), .second, .val (.double (sav ((p0.toInt64) * k) (d * k))), .second, .val (.int (p4 &&& (3 : Int32))), .val (.double (sav d ((2 : Int64) * d))), .second, .val (.double (4602678819172646912 : UInt64)), .second, .val (.int (1 : Int32))] [(.int (XT.cmpL (p0.toInt64) d))])) := fun tgt ktg => pre_137 tgt (by
              show Steps p.tables e below (T_126.setTop (mkF m 230 #[.val (.int p0), .val (.int p1), .val (.int p2), .val (.int p3), .val (.int p4), .val (.long d), .second, .val (.long k), .second, .val (.double (sav (p0.toInt64) d)), .second, .val (.double (sav (p1.toInt64) d)), .second, .val (.double (sav ((p0.toInt64) * k) (d * k))), .second, .val (.int (p4 &&& (3 : Int32))), .val (.double (sav d ((2 : Int64) * d))), .second, .val (.double (4602678819172646912 : UInt64)), .second, .val (.int (1 : Int32))] [])) _
              refine XS.iloadN Xw_126.here hx rfl (hb hby at_230) rfl ?_
              show Steps p.tables e below (T_126.setTop (mkF m 231 #[.val (.int p0), .val (.int p1), .val (.int p2), .val (.int p3), .val (.int p4), .val (.long d), .second, .val (.long k), .second, .val (.double (sav (p0.toInt64) d)), .second, .val (.double (sav (p1.toInt64) d)), .second, .val (.double (sav ((p0.toInt64) * k) (d * k))), .second, .val (.int (p4 &&& (3 : Int32))), .val (.double (sav d ((2 : Int64) * d))), .second, .val (.double (4602678819172646912 : UInt64)), .second, .val (.int (1 : Int32))] [(.int p0)])) _
              refine XT.i2l Xw_126.here hx rfl (hb hby at_231) rfl ?_
              show Steps p.tables e below (T_126.setTop (mkF m 232 #[.val (.int p0), .val (.int p1), .val (.int p2), .val (.int p3), .val (.int p4), .val (.long d), .second, .val (.long k), .second, .val (.double (sav (p0.toInt64) d)), .second, .val (.double (sav (p1.toInt64) d)), .second, .val (.double (sav ((p0.toInt64) * k) (d * k))), .second, .val (.int (p4 &&& (3 : Int32))), .val (.double (sav d ((2 : Int64) * d))), .second, .val (.double (4602678819172646912 : UInt64)), .second, .val (.int (1 : Int32))] [(.long (p0.toInt64))])) _
              refine XT.lload Xw_126.here hx rfl (hb hby at_232) rfl ?_
              show Steps p.tables e below (T_126.setTop (mkF m 234 #[.val (.int p0), .val (.int p1), .val (.int p2), .val (.int p3), .val (.int p4), .val (.long d), .second, .val (.long k), .second, .val (.double (sav (p0.toInt64) d)), .second, .val (.double (sav (p1.toInt64) d)), .second, .val (.double (sav ((p0.toInt64) * k) (d * k))), .second, .val (.int (p4 &&& (3 : Int32))), .val (.double (sav d ((2 : Int64) * d))), .second, .val (.double (4602678819172646912 : UInt64)), .second, .val (.int (1 : Int32))] [(.long d), (.long (p0.toInt64))])) _
              refine XT.lcmp Xw_126.here hx rfl (hb hby at_234) rfl ?_
              exact ktg)
            by_cases c_139 : (0 : Int32) < (XT.cmpL (p0.toInt64) d)
            · skip
              have pre_140 : Rch p.tables e below (s₁.setTop (entryFrame m #[(.int p0), (.int p1), (.int p2), (.int p3), (.int p4)] maxLocals)) (T_126.setTop (mkF m 264 #[.val (.int p0), .val (.int p1), .val (.int p2), .val (.int p3), .val (.int p4), .val (.long d), .second, .val (.long k), .second, .val (.double (sav (p0.toInt64) d)), .second, .val (.double (sav (p1.toInt64) d)), .second, .val (.double (sav ((p0.toInt64) * k) (d * k))), .second, .val (.int (p4 &&& (3 : Int32))), .val (.double (sav d ((2 : Int64) * d))), .second, .val (.double (4602678819172646912 : UInt64)), .second, .val (.int (1 : Int32))] [])) := fun tgt ktg => pre_138 tgt (by
                show Steps p.tables e below (T_126.setTop (mkF m 235 #[.val (.int p0), .val (.int p1), .val (.int p2), .val (.int p3), .val (.int p4), .val (.long d), .second, .val (.long k), .second, .val (.double (sav (p0.toInt64) d)), .second, .val (.double (sav (p1.toInt64) d)), .second, .val (.double (sav ((p0.toInt64) * k) (d * k))), .second, .val (.int (p4 &&& (3 : Int32))), .val (.double (sav d ((2 : Int64) * d))), .second, .val (.double (4602678819172646912 : UInt64)), .second, .val (.int (1 : Int32))] [(.int (XT.cmpL (p0.toInt64) d))])) _
                refine XS.ifYes Xw_126.here hx rfl (pc0 := 235) (pc' := 264) rfl (hb hby at_235) rfl ((if0 _ _).trans (tlt c_139).2.2.1) (by decide) (by decide) ?_
                exact ktg)
              have pre_141 : Rch p.tables e below (s₁.setTop (entryFrame m #[(.int p0), (.int p1), (.int p2), (.int p3), (.int p4)] maxLocals)) (T_126.setTop (mkF m 266 #[.val (.int p0), .val (.int p1), .val (.int p2), .val (.int p3), .val (.int p4), .val (.long d), .second, .val (.long k), .second, .val (.double (sav (p0.toInt64) d)), .second, .val (.double (sav (p1.toInt64) d)), .second, .val (.double (sav ((p0.toInt64) * k) (d * k))), .second, .val (.int (p4 &&& (3 : Int32))), .val (.double (sav d ((2 : Int64) * d))), .second, .val (.double (4602678819172646912 : UInt64)), .second, .val (.int (1 : Int32))] [(.int (1 : Int32))])) := fun tgt ktg => pre_140 tgt (by
                show Steps p.tables e below (T_126.setTop (mkF m 264 #[.val (.int p0), .val (.int p1), .val (.int p2), .val (.int p3), .val (.int p4), .val (.long d), .second, .val (.long k), .second, .val (.double (sav (p0.toInt64) d)), .second, .val (.double (sav (p1.toInt64) d)), .second, .val (.double (sav ((p0.toInt64) * k) (d * k))), .second, .val (.int (p4 &&& (3 : Int32))), .val (.double (sav d ((2 : Int64) * d))), .second, .val (.double (4602678819172646912 : UInt64)), .second, .val (.int (1 : Int32))] [])) _
                refine XS.iload Xw_126.here hx rfl (hb hby at_264) rfl ?_
                exact ktg)
              obtain ⟨fs, hr, hrun, hended, hW⟩ := Xw_126.leaveW hS_126 hk_126 (v := some (.int (1 : Int32))) (fun h => by rw [Bd.returns] at h; cases h)
              refine ⟨_, _, pre_141 _ ?_, hrun, hended, _, _, rfl, ?_, ?_, hW.1, hW.2.1, hW.2.2.1, hW.2.2.2.mono (by decide) (by decide)⟩
              · show Steps p.tables e below (T_126.setTop (mkF m 266 #[.val (.int p0), .val (.int p1), .val (.int p2), .val (.int p3), .val (.int p4), .val (.long d), .second, .val (.long k), .second, .val (.double (sav (p0.toInt64) d)), .second, .val (.double (sav (p1.toInt64) d)), .second, .val (.double (sav ((p0.toInt64) * k) (d * k))), .second, .val (.int (p4 &&& (3 : Int32))), .val (.double (sav d ((2 : Int64) * d))), .second, .val (.double (4602678819172646912 : UInt64)), .second, .val (.int (1 : Int32))] [(.int (1 : Int32))])) _
                exact retN Xw_126 hx (t := .boolean) Bd.returns (by simp) (hb hby at_266) hr
              · show Q0 Z p0 p1 p2 p3 p4 h0 n0 _ T_126.heap _
                exact ⟨rfl, N_127⟩
              · show CHr Z consts_1 s.vm s.heap T_126.vm T_126.heap
                rw [hh]
                exact C_128.trans (CHv.at Xw_126 hZ hEL C_128.1)
            · skip
              have pre_142 : Rch p.tables e below (s₁.setTop (entryFrame m #[(.int p0), (.int p1), (.int p2), (.int p3), (.int p4)] maxLocals)) (T_126.setTop (mkF m 238 #[.val (.int p0), .val (.int p1), .val (.int p2), .val (.int p3), .val (.int p4), .val (.long d), .second, .val (.long k), .second, .val (.double (sav (p0.toInt64) d)), .second, .val (.double (sav (p1.toInt64) d)), .second, .val (.double (sav ((p0.toInt64) * k) (d * k))), .second, .val (.int (p4 &&& (3 : Int32))), .val (.double (sav d ((2 : Int64) * d))), .second, .val (.double (4602678819172646912 : UInt64)), .second, .val (.int (1 : Int32))] [])) := fun tgt ktg => pre_138 tgt (by
                show Steps p.tables e below (T_126.setTop (mkF m 235 #[.val (.int p0), .val (.int p1), .val (.int p2), .val (.int p3), .val (.int p4), .val (.long d), .second, .val (.long k), .second, .val (.double (sav (p0.toInt64) d)), .second, .val (.double (sav (p1.toInt64) d)), .second, .val (.double (sav ((p0.toInt64) * k) (d * k))), .second, .val (.int (p4 &&& (3 : Int32))), .val (.double (sav d ((2 : Int64) * d))), .second, .val (.double (4602678819172646912 : UInt64)), .second, .val (.int (1 : Int32))] [(.int (XT.cmpL (p0.toInt64) d))])) _
                refine XS.ifNo Xw_126.here hx rfl (hb hby at_235) rfl ((if0 _ _).trans (flt c_139).2.2.1) ?_
                exact ktg)
              have hr := own_r32 Hd c_134 c_139
              have pre_143 : Rch p.tables e below (s₁.setTop (entryFrame m #[(.int p0), (.int p1), (.int p2), (.int p3), (.int p4)] maxLocals)) (T_126.setTop (mkF m 266 #[.val (.int p0), .val (.int p1), .val (.int p2), .val (.int p3), .val (.int p4), .val (.long d), .second, .val (.long k), .second, .val (.double (sav (p0.toInt64) d)), .second, .val (.double (sav (p1.toInt64) d)), .second, .val (.double (sav ((p0.toInt64) * k) (d * k))), .second, .val (.int (p4 &&& (3 : Int32))), .val (.double (sav d ((2 : Int64) * d))), .second, .val (.double (4602678819172646912 : UInt64)), .second, .val (.int (1 : Int32))] [(.int (1 : Int32))])) := fun tgt ktg => pre_142 tgt (by
                show Steps p.tables e below (T_126.setTop (mkF m 238 #[.val (.int p0), .val (.int p1), .val (.int p2), .val (.int p3), .val (.int p4), .val (.long d), .second, .val (.long k), .second, .val (.double (sav (p0.toInt64) d)), .second, .val (.double (sav (p1.toInt64) d)), .second, .val (.double (sav ((p0.toInt64) * k) (d * k))), .second, .val (.int (p4 &&& (3 : Int32))), .val (.double (sav d ((2 : Int64) * d))), .second, .val (.double (4602678819172646912 : UInt64)), .second, .val (.int (1 : Int32))] [])) _
                refine XS.iload Xw_126.here hx rfl (hb hby at_238) rfl ?_
                show Steps p.tables e below (T_126.setTop (mkF m 240 #[.val (.int p0), .val (.int p1), .val (.int p2), .val (.int p3), .val (.int p4), .val (.long d), .second, .val (.long k), .second, .val (.double (sav (p0.toInt64) d)), .second, .val (.double (sav (p1.toInt64) d)), .second, .val (.double (sav ((p0.toInt64) * k) (d * k))), .second, .val (.int (p4 &&& (3 : Int32))), .val (.double (sav d ((2 : Int64) * d))), .second, .val (.double (4602678819172646912 : UInt64)), .second, .val (.int (1 : Int32))] [(.int (1 : Int32))])) _
                refine XS.ifNo Xw_126.here hx rfl (hb hby at_240) rfl ((if0 _ _).trans (feq (by decide : ¬ ((1 : Int32) = (0 : Int32)))).1) ?_
                show Steps p.tables e below (T_126.setTop (mkF m 243 #[.val (.int p0), .val (.int p1), .val (.int p2), .val (.int p3), .val (.int p4), .val (.long d), .second, .val (.long k), .second, .val (.double (sav (p0.toInt64) d)), .second, .val (.double (sav (p1.toInt64) d)), .second, .val (.double (sav ((p0.toInt64) * k) (d * k))), .second, .val (.int (p4 &&& (3 : Int32))), .val (.double (sav d ((2 : Int64) * d))), .second, .val (.double (4602678819172646912 : UInt64)), .second, .val (.int (1 : Int32))] [])) _
                refine XS.dload Xw_126.here hx rfl (hb hby at_243) rfl ?_
                show Steps p.tables e below (T_126.setTop (mkF m 245 #[.val (.int p0), .val (.int p1), .val (.int p2), .val (.int p3), .val (.int p4), .val (.long d), .second, .val (.long k), .second, .val (.double (sav (p0.toInt64) d)), .second, .val (.double (sav (p1.toInt64) d)), .second, .val (.double (sav ((p0.toInt64) * k) (d * k))), .second, .val (.int (p4 &&& (3 : Int32))), .val (.double (sav d ((2 : Int64) * d))), .second, .val (.double (4602678819172646912 : UInt64)), .second, .val (.int (1 : Int32))] [(.double (sav (p0.toInt64) d))])) _
                refine XS.dconst0 Xw_126.here hx rfl (hb hby at_245) (v := (0 : UInt64)) own_dc0 ?_
                show Steps p.tables e below (T_126.setTop (mkF m 246 #[.val (.int p0), .val (.int p1), .val (.int p2), .val (.int p3), .val (.int p4), .val (.long d), .second, .val (.long k), .second, .val (.double (sav (p0.toInt64) d)), .second, .val (.double (sav (p1.toInt64) d)), .second, .val (.double (sav ((p0.toInt64) * k) (d * k))), .second, .val (.int (p4 &&& (3 : Int32))), .val (.double (sav d ((2 : Int64) * d))), .second, .val (.double (4602678819172646912 : UInt64)), .second, .val (.int (1 : Int32))] [(.double (0 : UInt64)), (.double (sav (p0.toInt64) d))])) _
                refine XS.dcmpS Xw_126.here hx rfl (hb hby at_246) rfl rfl ?_
                show Steps p.tables e below (T_126.setTop (mkF m 247 #[.val (.int p0), .val (.int p1), .val (.int p2), .val (.int p3), .val (.int p4), .val (.long d), .second, .val (.long k), .second, .val (.double (sav (p0.toInt64) d)), .second, .val (.double (sav (p1.toInt64) d)), .second, .val (.double (sav ((p0.toInt64) * k) (d * k))), .second, .val (.int (p4 &&& (3 : Int32))), .val (.double (sav d ((2 : Int64) * d))), .second, .val (.double (4602678819172646912 : UInt64)), .second, .val (.int (1 : Int32))] [(.int (cmpValue (FP.dcmp (sav (p0.toInt64) d) (0 : UInt64)) .l))])) _
                refine XS.ifNo Xw_126.here hx rfl (hb hby at_247) rfl ((if0 _ _).trans (flt (own_nl hr.1)).1) ?_
                show Steps p.tables e below (T_126.setTop (mkF m 250 #[.val (.int p0), .val (.int p1), .val (.int p2), .val (.int p3), .val (.int p4), .val (.long d), .second, .val (.long k), .second, .val (.double (sav (p0.toInt64) d)), .second, .val (.double (sav (p1.toInt64) d)), .second, .val (.double (sav ((p0.toInt64) * k) (d * k))), .second, .val (.int (p4 &&& (3 : Int32))), .val (.double (sav d ((2 : Int64) * d))), .second, .val (.double (4602678819172646912 : UInt64)), .second, .val (.int (1 : Int32))] [])) _
                refine XS.dload Xw_126.here hx rfl (hb hby at_250) rfl ?_
                show Steps p.tables e below (T_126.setTop (mkF m 252 #[.val (.int p0), .val (.int p1), .val (.int p2), .val (.int p3), .val (.int p4), .val (.long d), .second, .val (.long k), .second, .val (.double (sav (p0.toInt64) d)), .second, .val (.double (sav (p1.toInt64) d)), .second, .val (.double (sav ((p0.toInt64) * k) (d * k))), .second, .val (.int (p4 &&& (3 : Int32))), .val (.double (sav d ((2 : Int64) * d))), .second, .val (.double (4602678819172646912 : UInt64)), .second, .val (.int (1 : Int32))] [(.double (sav (p0.toInt64) d))])) _
                refine XS.dconst1 Xw_126.here hx rfl (hb hby at_252) (v := (4607182418800017408 : UInt64)) own_dc1 ?_
                show Steps p.tables e below (T_126.setTop (mkF m 253 #[.val (.int p0), .val (.int p1), .val (.int p2), .val (.int p3), .val (.int p4), .val (.long d), .second, .val (.long k), .second, .val (.double (sav (p0.toInt64) d)), .second, .val (.double (sav (p1.toInt64) d)), .second, .val (.double (sav ((p0.toInt64) * k) (d * k))), .second, .val (.int (p4 &&& (3 : Int32))), .val (.double (sav d ((2 : Int64) * d))), .second, .val (.double (4602678819172646912 : UInt64)), .second, .val (.int (1 : Int32))] [(.double (4607182418800017408 : UInt64)), (.double (sav (p0.toInt64) d))])) _
                refine XS.dcmpS Xw_126.here hx rfl (hb hby at_253) rfl rfl ?_
                show Steps p.tables e below (T_126.setTop (mkF m 254 #[.val (.int p0), .val (.int p1), .val (.int p2), .val (.int p3), .val (.int p4), .val (.long d), .second, .val (.long k), .second, .val (.double (sav (p0.toInt64) d)), .second, .val (.double (sav (p1.toInt64) d)), .second, .val (.double (sav ((p0.toInt64) * k) (d * k))), .second, .val (.int (p4 &&& (3 : Int32))), .val (.double (sav d ((2 : Int64) * d))), .second, .val (.double (4602678819172646912 : UInt64)), .second, .val (.int (1 : Int32))] [(.int (cmpValue (FP.dcmp (sav (p0.toInt64) d) (4607182418800017408 : UInt64)) .g))])) _
                refine XS.ifNo Xw_126.here hx rfl (hb hby at_254) rfl ((if0 _ _).trans (flt (own_ng hr.2)).2.2.1) ?_
                show Steps p.tables e below (T_126.setTop (mkF m 257 #[.val (.int p0), .val (.int p1), .val (.int p2), .val (.int p3), .val (.int p4), .val (.long d), .second, .val (.long k), .second, .val (.double (sav (p0.toInt64) d)), .second, .val (.double (sav (p1.toInt64) d)), .second, .val (.double (sav ((p0.toInt64) * k) (d * k))), .second, .val (.int (p4 &&& (3 : Int32))), .val (.double (sav d ((2 : Int64) * d))), .second, .val (.double (4602678819172646912 : UInt64)), .second, .val (.int (1 : Int32))] [])) _
                refine XS.iconst Xw_126.here hx rfl (hb hby at_257) ?_
                show Steps p.tables e below (T_126.setTop (mkF m 258 #[.val (.int p0), .val (.int p1), .val (.int p2), .val (.int p3), .val (.int p4), .val (.long d), .second, .val (.long k), .second, .val (.double (sav (p0.toInt64) d)), .second, .val (.double (sav (p1.toInt64) d)), .second, .val (.double (sav ((p0.toInt64) * k) (d * k))), .second, .val (.int (p4 &&& (3 : Int32))), .val (.double (sav d ((2 : Int64) * d))), .second, .val (.double (4602678819172646912 : UInt64)), .second, .val (.int (1 : Int32))] [(.int (1 : Int32))])) _
                refine XS.goto Xw_126.here hx rfl (pc0 := 258) (pc' := 262) rfl (hb hby at_258) (by decide) (by decide) ?_
                show Steps p.tables e below (T_126.setTop (mkF m 262 #[.val (.int p0), .val (.int p1), .val (.int p2), .val (.int p3), .val (.int p4), .val (.long d), .second, .val (.long k), .second, .val (.double (sav (p0.toInt64) d)), .second, .val (.double (sav (p1.toInt64) d)), .second, .val (.double (sav ((p0.toInt64) * k) (d * k))), .second, .val (.int (p4 &&& (3 : Int32))), .val (.double (sav d ((2 : Int64) * d))), .second, .val (.double (4602678819172646912 : UInt64)), .second, .val (.int (1 : Int32))] [(.int (1 : Int32))])) _
                refine XS.istore Xw_126.here hx rfl (hb hby at_262) rfl (l' := #[.val (.int p0), .val (.int p1), .val (.int p2), .val (.int p3), .val (.int p4), .val (.long d), .second, .val (.long k), .second, .val (.double (sav (p0.toInt64) d)), .second, .val (.double (sav (p1.toInt64) d)), .second, .val (.double (sav ((p0.toInt64) * k) (d * k))), .second, .val (.int (p4 &&& (3 : Int32))), .val (.double (sav d ((2 : Int64) * d))), .second, .val (.double (4602678819172646912 : UInt64)), .second, .val (.int (1 : Int32))]) rfl ?_
                show Steps p.tables e below (T_126.setTop (mkF m 264 #[.val (.int p0), .val (.int p1), .val (.int p2), .val (.int p3), .val (.int p4), .val (.long d), .second, .val (.long k), .second, .val (.double (sav (p0.toInt64) d)), .second, .val (.double (sav (p1.toInt64) d)), .second, .val (.double (sav ((p0.toInt64) * k) (d * k))), .second, .val (.int (p4 &&& (3 : Int32))), .val (.double (sav d ((2 : Int64) * d))), .second, .val (.double (4602678819172646912 : UInt64)), .second, .val (.int (1 : Int32))] [])) _
                refine XS.iload Xw_126.here hx rfl (hb hby at_264) rfl ?_
                exact ktg)
              obtain ⟨fs, hr, hrun, hended, hW⟩ := Xw_126.leaveW hS_126 hk_126 (v := some (.int (1 : Int32))) (fun h => by rw [Bd.returns] at h; cases h)
              refine ⟨_, _, pre_143 _ ?_, hrun, hended, _, _, rfl, ?_, ?_, hW.1, hW.2.1, hW.2.2.1, hW.2.2.2.mono (by decide) (by decide)⟩
              · show Steps p.tables e below (T_126.setTop (mkF m 266 #[.val (.int p0), .val (.int p1), .val (.int p2), .val (.int p3), .val (.int p4), .val (.long d), .second, .val (.long k), .second, .val (.double (sav (p0.toInt64) d)), .second, .val (.double (sav (p1.toInt64) d)), .second, .val (.double (sav ((p0.toInt64) * k) (d * k))), .second, .val (.int (p4 &&& (3 : Int32))), .val (.double (sav d ((2 : Int64) * d))), .second, .val (.double (4602678819172646912 : UInt64)), .second, .val (.int (1 : Int32))] [(.int (1 : Int32))])) _
                exact retN Xw_126 hx (t := .boolean) Bd.returns (by simp) (hb hby at_266) hr
              · show Q0 Z p0 p1 p2 p3 p4 h0 n0 _ T_126.heap _
                exact ⟨rfl, N_127⟩
              · show CHr Z consts_1 s.vm s.heap T_126.vm T_126.heap
                rw [hh]
                exact C_128.trans (CHv.at Xw_126 hZ hEL C_128.1)
        · skip
          have pre_144 : Rch p.tables e below (s₁.setTop (entryFrame m #[(.int p0), (.int p1), (.int p2), (.int p3), (.int p4)] maxLocals)) (T_126.setTop (mkF m 183 #[.val (.int p0), .val (.int p1), .val (.int p2), .val (.int p3), .val (.int p4), .val (.long d), .second, .val (.long k), .second, .val (.double (sav (p0.toInt64) d)), .second, .val (.double (sav (p1.toInt64) d)), .second, .val (.double (sav ((p0.toInt64) * k) (d * k))), .second, .val (.int (p4 &&& (3 : Int32))), .val (.double (sav d ((2 : Int64) * d))), .second, .val (.double (4602678819172646912 : UInt64)), .second, .val (.int (1 : Int32))] [])) := fun tgt ktg => pre_130 tgt (by
            show Steps p.tables e below (T_126.setTop (mkF m 180 #[.val (.int p0), .val (.int p1), .val (.int p2), .val (.int p3), .val (.int p4), .val (.long d), .second, .val (.long k), .second, .val (.double (sav (p0.toInt64) d)), .second, .val (.double (sav (p1.toInt64) d)), .second, .val (.double (sav ((p0.toInt64) * k) (d * k))), .second, .val (.int (p4 &&& (3 : Int32))), .val (.double (sav d ((2 : Int64) * d))), .second, .val (.double (4602678819172646912 : UInt64)), .second, .val (.int (1 : Int32))] [(.int p1), (.int p0)])) _
            refine XS.icmpNo Xw_126.here hx rfl (hb hby at_180) rfl (flt c_131).2.2.1 ?_
            exact ktg)
          have pre_145 : Rch p.tables e below (s₁.setTop (entryFrame m #[(.int p0), (.int p1), (.int p2), (.int p3), (.int p4)] maxLocals)) (T_126.setTop (mkF m 227 #[.val (.int p0), .val (.int p1), .val (.int p2), .val (.int p3), .val (.int p4), .val (.long d), .second, .val (.long k), .second, .val (.double (sav (p0.toInt64) d)), .second, .val (.double (sav (p1.toInt64) d)), .second, .val (.double (sav ((p0.toInt64) * k) (d * k))), .second, .val (.int (p4 &&& (3 : Int32))), .val (.double (sav d ((2 : Int64) * d))), .second, .val (.double (4602678819172646912 : UInt64)), .second, .val (.int (1 : Int32))] [(.int p0)])) := fun tgt ktg => pre_144 tgt (by
            show Steps p.tables e below (T_126.setTop (mkF m 183 #[.val (.int p0), .val (.int p1), .val (.int p2), .val (.int p3), .val (.int p4), .val (.long d), .second, .val (.long k), .second, .val (.double (sav (p0.toInt64) d)), .second, .val (.double (sav (p1.toInt64) d)), .second, .val (.double (sav ((p0.toInt64) * k) (d * k))), .second, .val (.int (p4 &&& (3 : Int32))), .val (.double (sav d ((2 : Int64) * d))), .second, .val (.double (4602678819172646912 : UInt64)), .second, .val (.int (1 : Int32))] [])) _
            refine XS.iload Xw_126.here hx rfl (hb hby at_183) rfl ?_
            show Steps p.tables e below (T_126.setTop (mkF m 185 #[.val (.int p0), .val (.int p1), .val (.int p2), .val (.int p3), .val (.int p4), .val (.long d), .second, .val (.long k), .second, .val (.double (sav (p0.toInt64) d)), .second, .val (.double (sav (p1.toInt64) d)), .second, .val (.double (sav ((p0.toInt64) * k) (d * k))), .second, .val (.int (p4 &&& (3 : Int32))), .val (.double (sav d ((2 : Int64) * d))), .second, .val (.double (4602678819172646912 : UInt64)), .second, .val (.int (1 : Int32))] [(.int (1 : Int32))])) _
            refine XS.ifNo Xw_126.here hx rfl (hb hby at_185) rfl ((if0 _ _).trans (feq (by decide : ¬ ((1 : Int32) = (0 : Int32)))).1) ?_
            show Steps p.tables e below (T_126.setTop (mkF m 188 #[.val (.int p0), .val (.int p1), .val (.int p2), .val (.int p3), .val (.int p4), .val (.long d), .second, .val (.long k), .second, .val (.double (sav (p0.toInt64) d)), .second, .val (.double (sav (p1.toInt64) d)), .second, .val (.double (sav ((p0.toInt64) * k) (d * k))), .second, .val (.int (p4 &&& (3 : Int32))), .val (.double (sav d ((2 : Int64) * d))), .second, .val (.double (4602678819172646912 : UInt64)), .second, .val (.int (1 : Int32))] [])) _
            refine XS.dload Xw_126.here hx rfl (hb hby at_188) rfl ?_
            show Steps p.tables e below (T_126.setTop (mkF m 190 #[.val (.int p0), .val (.int p1), .val (.int p2), .val (.int p3), .val (.int p4), .val (.long d), .second, .val (.long k), .second, .val (.double (sav (p0.toInt64) d)), .second, .val (.double (sav (p1.toInt64) d)), .second, .val (.double (sav ((p0.toInt64) * k) (d * k))), .second, .val (.int (p4 &&& (3 : Int32))), .val (.double (sav d ((2 : Int64) * d))), .second, .val (.double (4602678819172646912 : UInt64)), .second, .val (.int (1 : Int32))] [(.double (sav (p0.toInt64) d))])) _
            refine XS.dload Xw_126.here hx rfl (hb hby at_190) rfl ?_
            show Steps p.tables e below (T_126.setTop (mkF m 192 #[.val (.int p0), .val (.int p1), .val (.int p2), .val (.int p3), .val (.int p4), .val (.long d), .second, .val (.long k), .second, .val (.double (sav (p0.toInt64) d)), .second, .val (.double (sav (p1.toInt64) d)), .second, .val (.double (sav ((p0.toInt64) * k) (d * k))), .second, .val (.int (p4 &&& (3 : Int32))), .val (.double (sav d ((2 : Int64) * d))), .second, .val (.double (4602678819172646912 : UInt64)), .second, .val (.int (1 : Int32))] [(.double (sav (p1.toInt64) d)), (.double (sav (p0.toInt64) d))])) _
            refine XS.dcmpS Xw_126.here hx rfl (hb hby at_192) rfl rfl ?_
            show Steps p.tables e below (T_126.setTop (mkF m 193 #[.val (.int p0), .val (.int p1), .val (.int p2), .val (.int p3), .val (.int p4), .val (.long d), .second, .val (.long k), .second, .val (.double (sav (p0.toInt64) d)), .second, .val (.double (sav (p1.toInt64) d)), .second, .val (.double (sav ((p0.toInt64) * k) (d * k))), .second, .val (.int (p4 &&& (3 : Int32))), .val (.double (sav d ((2 : Int64) * d))), .second, .val (.double (4602678819172646912 : UInt64)), .second, .val (.int (1 : Int32))] [(.int (cmpValue (FP.dcmp (sav (p0.toInt64) d) (sav (p1.toInt64) d)) .l))])) _
            refine XS.ifNo Xw_126.here hx rfl (hb hby at_193) rfl ((if0 _ _).trans (flt (own_nl (own_mo (own_cn p0) (own_cn p1) Hd (by rw [own_b, own_b]; exact Int.not_lt.mp (fun q => c_131 (Int32.lt_iff_toInt_lt.mpr q)))))).1) ?_
            show Steps p.tables e below (T_126.setTop (mkF m 196 #[.val (.int p0), .val (.int p1), .val (.int p2), .val (.int p3), .val (.int p4), .val (.long d), .second, .val (.long k), .second, .val (.double (sav (p0.toInt64) d)), .second, .val (.double (sav (p1.toInt64) d)), .second, .val (.double (sav ((p0.toInt64) * k) (d * k))), .second, .val (.int (p4 &&& (3 : Int32))), .val (.double (sav d ((2 : Int64) * d))), .second, .val (.double (4602678819172646912 : UInt64)), .second, .val (.int (1 : Int32))] [])) _
            refine XS.iconst Xw_126.here hx rfl (hb hby at_196) ?_
            show Steps p.tables e below (T_126.setTop (mkF m 197 #[.val (.int p0), .val (.int p1), .val (.int p2), .val (.int p3), .val (.int p4), .val (.long d), .second, .val (.long k), .second, .val (.double (sav (p0.toInt64) d)), .second, .val (.double (sav (p1.toInt64) d)), .second, .val (.double (sav ((p0.toInt64) * k) (d * k))), .second, .val (.int (p4 &&& (3 : Int32))), .val (.double (sav d ((2 : Int64) * d))), .second, .val (.double (4602678819172646912 : UInt64)), .second, .val (.int (1 : Int32))] [(.int (1 : Int32))])) _
            refine XS.goto Xw_126.here hx rfl (pc0 := 197) (pc' := 201) rfl (hb hby at_197) (by decide) (by decide) ?_
            show Steps p.tables e below (T_126.setTop (mkF m 201 #[.val (.int p0), .val (.int p1), .val (.int p2), .val (.int p3), .val (.int p4), .val (.long d), .second, .val (.long k), .second, .val (.double (sav (p0.toInt64) d)), .second, .val (.double (sav (p1.toInt64) d)), .second, .val (.double (sav ((p0.toInt64) * k) (d * k))), .second, .val (.int (p4 &&& (3 : Int32))), .val (.double (sav d ((2 : Int64) * d))), .second, .val (.double (4602678819172646912 : UInt64)), .second, .val (.int (1 : Int32))] [(.int (1 : Int32))])) _
            refine XS.istore Xw_126.here hx rfl (hb hby at_201) rfl (l' := #[.val (.int p0), .val (.int p1), .val (.int p2), .val (.int p3), .val (.int p4), .val (.long d), .second, .val (.long k), .second, .val (.double (sav (p0.toInt64) d)), .second, .val (.double (sav (p1.toInt64) d)), .second, .val (.double (sav ((p0.toInt64) * k) (d * k))), .second, .val (.int (p4 &&& (3 : Int32))), .val (.double (sav d ((2 : Int64) * d))), .second, .val (.double (4602678819172646912 : UInt64)), .second, .val (.int (1 : Int32))]) rfl ?_
            show Steps p.tables e below (T_126.setTop (mkF m 203 #[.val (.int p0), .val (.int p1), .val (.int p2), .val (.int p3), .val (.int p4), .val (.long d), .second, .val (.long k), .second, .val (.double (sav (p0.toInt64) d)), .second, .val (.double (sav (p1.toInt64) d)), .second, .val (.double (sav ((p0.toInt64) * k) (d * k))), .second, .val (.int (p4 &&& (3 : Int32))), .val (.double (sav d ((2 : Int64) * d))), .second, .val (.double (4602678819172646912 : UInt64)), .second, .val (.int (1 : Int32))] [])) _
            refine XS.goto Xw_126.here hx rfl (pc0 := 203) (pc' := 226) rfl (hb hby at_203) (by decide) (by decide) ?_
            show Steps p.tables e below (T_126.setTop (mkF m 226 #[.val (.int p0), .val (.int p1), .val (.int p2), .val (.int p3), .val (.int p4), .val (.long d), .second, .val (.long k), .second, .val (.double (sav (p0.toInt64) d)), .second, .val (.double (sav (p1.toInt64) d)), .second, .val (.double (sav ((p0.toInt64) * k) (d * k))), .second, .val (.int (p4 &&& (3 : Int32))), .val (.double (sav d ((2 : Int64) * d))), .second, .val (.double (4602678819172646912 : UInt64)), .second, .val (.int (1 : Int32))] [])) _
            refine XS.iloadN Xw_126.here hx rfl (hb hby at_226) rfl ?_
            exact ktg)
          by_cases c_146 : p0 < (0 : Int32)
          · skip
            have pre_147 : Rch p.tables e below (s₁.setTop (entryFrame m #[(.int p0), (.int p1), (.int p2), (.int p3), (.int p4)] maxLocals)) (T_126.setTop (mkF m 264 #[.val (.int p0), .val (.int p1), .val (.int p2), .val (.int p3), .val (.int p4), .val (.long d), .second, .val (.long k), .second, .val (.double (sav (p0.toInt64) d)), .second, .val (.double (sav (p1.toInt64) d)), .second, .val (.double (sav ((p0.toInt64) * k) (d * k))), .second, .val (.int (p4 &&& (3 : Int32))), .val (.double (sav d ((2 : Int64) * d))), .second, .val (.double (4602678819172646912 : UInt64)), .second, .val (.int (1 : Int32))] [])) := fun tgt ktg => pre_145 tgt (by
              show Steps p.tables e below (T_126.setTop (mkF m 227 #[.val (.int p0), .val (.int p1), .val (.int p2), .val (.int p3), .val (.int p4), .val (.long d), .second, .val (.long k), .second, .val (.double (sav (p0.toInt64) d)), .second, .val (.double (sav (p1.toInt64) d)), .second, .val (.double (sav ((p0.toInt64) * k) (d * k))), .second, .val (.int (p4 &&& (3 : Int32))), .val (.double (sav d ((2 : Int64) * d))), .second, .val (.double (4602678819172646912 : UInt64)), .second, .val (.int (1 : Int32))] [(.int p0)])) _
              refine XS.ifYes Xw_126.here hx rfl (pc0 := 227) (pc' := 264) rfl (hb hby at_227) rfl ((if0 _ _).trans (tlt c_146).1) (by decide) (by decide) ?_
              exact ktg)
            have pre_148 : Rch p.tables e below (s₁.setTop (entryFrame m #[(.int p0), (.int p1), (.int p2), (.int p3), (.int p4)] maxLocals)) (T_126.setTop (mkF m 266 #[.val (.int p0), .val (.int p1), .val (.int p2), .val (.int p3), .val (.int p4), .val (.long d), .second, .val (.long k), .second, .val (.double (sav (p0.toInt64) d)), .second, .val (.double (sav (p1.toInt64) d)), .second, .val (.double (sav ((p0.toInt64) * k) (d * k))), .second, .val (.int (p4 &&& (3 : Int32))), .val (.double (sav d ((2 : Int64) * d))), .second, .val (.double (4602678819172646912 : UInt64)), .second, .val (.int (1 : Int32))] [(.int (1 : Int32))])) := fun tgt ktg => pre_147 tgt (by
              show Steps p.tables e below (T_126.setTop (mkF m 264 #[.val (.int p0), .val (.int p1), .val (.int p2), .val (.int p3), .val (.int p4), .val (.long d), .second, .val (.long k), .second, .val (.double (sav (p0.toInt64) d)), .second, .val (.double (sav (p1.toInt64) d)), .second, .val (.double (sav ((p0.toInt64) * k) (d * k))), .second, .val (.int (p4 &&& (3 : Int32))), .val (.double (sav d ((2 : Int64) * d))), .second, .val (.double (4602678819172646912 : UInt64)), .second, .val (.int (1 : Int32))] [])) _
              refine XS.iload Xw_126.here hx rfl (hb hby at_264) rfl ?_
              exact ktg)
            obtain ⟨fs, hr, hrun, hended, hW⟩ := Xw_126.leaveW hS_126 hk_126 (v := some (.int (1 : Int32))) (fun h => by rw [Bd.returns] at h; cases h)
            refine ⟨_, _, pre_148 _ ?_, hrun, hended, _, _, rfl, ?_, ?_, hW.1, hW.2.1, hW.2.2.1, hW.2.2.2.mono (by decide) (by decide)⟩
            · show Steps p.tables e below (T_126.setTop (mkF m 266 #[.val (.int p0), .val (.int p1), .val (.int p2), .val (.int p3), .val (.int p4), .val (.long d), .second, .val (.long k), .second, .val (.double (sav (p0.toInt64) d)), .second, .val (.double (sav (p1.toInt64) d)), .second, .val (.double (sav ((p0.toInt64) * k) (d * k))), .second, .val (.int (p4 &&& (3 : Int32))), .val (.double (sav d ((2 : Int64) * d))), .second, .val (.double (4602678819172646912 : UInt64)), .second, .val (.int (1 : Int32))] [(.int (1 : Int32))])) _
              exact retN Xw_126 hx (t := .boolean) Bd.returns (by simp) (hb hby at_266) hr
            · show Q0 Z p0 p1 p2 p3 p4 h0 n0 _ T_126.heap _
              exact ⟨rfl, N_127⟩
            · show CHr Z consts_1 s.vm s.heap T_126.vm T_126.heap
              rw [hh]
              exact C_128.trans (CHv.at Xw_126 hZ hEL C_128.1)
          · skip
            have pre_149 : Rch p.tables e below (s₁.setTop (entryFrame m #[(.int p0), (.int p1), (.int p2), (.int p3), (.int p4)] maxLocals)) (T_126.setTop (mkF m 230 #[.val (.int p0), .val (.int p1), .val (.int p2), .val (.int p3), .val (.int p4), .val (.long d), .second, .val (.long k), .second, .val (.double (sav (p0.toInt64) d)), .second, .val (.double (sav (p1.toInt64) d)), .second, .val (.double (sav ((p0.toInt64) * k) (d * k))), .second, .val (.int (p4 &&& (3 : Int32))), .val (.double (sav d ((2 : Int64) * d))), .second, .val (.double (4602678819172646912 : UInt64)), .second, .val (.int (1 : Int32))] [])) := fun tgt ktg => pre_145 tgt (by
              show Steps p.tables e below (T_126.setTop (mkF m 227 #[.val (.int p0), .val (.int p1), .val (.int p2), .val (.int p3), .val (.int p4), .val (.long d), .second, .val (.long k), .second, .val (.double (sav (p0.toInt64) d)), .second, .val (.double (sav (p1.toInt64) d)), .second, .val (.double (sav ((p0.toInt64) * k) (d * k))), .second, .val (.int (p4 &&& (3 : Int32))), .val (.double (sav d ((2 : Int64) * d))), .second, .val (.double (4602678819172646912 : UInt64)), .second, .val (.int (1 : Int32))] [(.int p0)])) _
              refine XS.ifNo Xw_126.here hx rfl (hb hby at_227) rfl ((if0 _ _).trans (flt c_146).1) ?_
              exact ktg)
            have pre_150 : Rch p.tables e below (s₁.setTop (entryFrame m #[(.int p0), (.int p1), (.int p2), (.int p3), (.int p4)] maxLocals)) (T_126.setTop (mkF m 235 #[.val (.int p0), .val (.int p1), .val (.int p2), .val (.int p3), .val (.int p4), .val (.long d), .second, .val (.long k), .second, .val (.double (sav (p0.toInt64) d)), .second, .val (.double (sav (p1.toInt64) d)), .second, .val (.double (sav ((p0.toInt64) * k) (d * k))), .second, .val (.int (p4 &&& (3 : Int32))), .val (.double (sav d ((2 : Int64) * d))), .second, .val (.double (4602678819172646912 : UInt64)), .second, .val (.int (1 : Int32))] [(.int (XT.cmpL (p0.toInt64) d))])) := fun tgt ktg => pre_149 tgt (by
              show Steps p.tables e below (T_126.setTop (mkF m 230 #[.val (.int p0), .val (.int p1), .val (.int p2), .val (.int p3), .val (.int p4), .val (.long d), .second, .val (.long k), .second, .val (.double (sav (p0.toInt64) d)), .second, .val (.double (sav (p1.toInt64) d)), .second, .val (.double (sav ((p0.toInt64) * k) (d * k))), .second, .val (.int (p4 &&& (3 : Int32))), .val (.double (sav d ((2 : Int64) * d))), .second, .val (.double (4602678819172646912 : UInt64)), .second, .val (.int (1 : Int32))] [])) _
              refine XS.iloadN Xw_126.here hx rfl (hb hby at_230) rfl ?_
              show Steps p.tables e below (T_126.setTop (mkF m 231 #[.val (.int p0), .val (.int p1), .val (.int p2), .val (.int p3), .val (.int p4), .val (.long d), .second, .val (.long k), .second, .val (.double (sav (p0.toInt64) d)), .second, .val (.double (sav (p1.toInt64) d)), .second, .val (.double (sav ((p0.toInt64) * k) (d * k))), .second, .val (.int (p4 &&& (3 : Int32))), .val (.double (sav d ((2 : Int64) * d))), .second, .val (.double (4602678819172646912 : UInt64)), .second, .val (.int (1 : Int32))] [(.int p0)])) _
              refine XT.i2l Xw_126.here hx rfl (hb hby at_231) rfl ?_
              show Steps p.tables e below (T_126.setTop (mkF m 232 #[.val (.int p0), .val (.int p1), .val (.int p2), .val (.int p3), .val (.int p4), .val (.long d), .second, .val (.long k), .second, .val (.double (sav (p0.toInt64) d)), .second, .val (.double (sav (p1.toInt64) d)), .second, .val (.double (sav ((p0.toInt64) * k) (d * k))), .second, .val (.int (p4 &&& (3 : Int32))), .val (.double (sav d ((2 : Int64) * d))), .second, .val (.double (4602678819172646912 : UInt64)), .second, .val (.int (1 : Int32))] [(.long (p0.toInt64))])) _
              refine XT.lload Xw_126.here hx rfl (hb hby at_232) rfl ?_
              show Steps p.tables e below (T_126.setTop (mkF m 234 #[.val (.int p0), .val (.int p1), .val (.int p2), .val (.int p3), .val (.int p4), .val (.long d), .second, .val (.long k), .second, .val (.double (sav (p0.toInt64) d)), .second, .val (.double (sav (p1.toInt64) d)), .second, .val (.double (sav ((p0.toInt64) * k) (d * k))), .second, .val (.int (p4 &&& (3 : Int32))), .val (.double (sav d ((2 : Int64) * d))), .second, .val (.double (4602678819172646912 : UInt64)), .second, .val (.int (1 : Int32))] [(.long d), (.long (p0.toInt64))])) _
              refine XT.lcmp Xw_126.here hx rfl (hb hby at_234) rfl ?_
              exact ktg)
            by_cases c_151 : (0 : Int32) < (XT.cmpL (p0.toInt64) d)
            · skip
              have pre_152 : Rch p.tables e below (s₁.setTop (entryFrame m #[(.int p0), (.int p1), (.int p2), (.int p3), (.int p4)] maxLocals)) (T_126.setTop (mkF m 264 #[.val (.int p0), .val (.int p1), .val (.int p2), .val (.int p3), .val (.int p4), .val (.long d), .second, .val (.long k), .second, .val (.double (sav (p0.toInt64) d)), .second, .val (.double (sav (p1.toInt64) d)), .second, .val (.double (sav ((p0.toInt64) * k) (d * k))), .second, .val (.int (p4 &&& (3 : Int32))), .val (.double (sav d ((2 : Int64) * d))), .second, .val (.double (4602678819172646912 : UInt64)), .second, .val (.int (1 : Int32))] [])) := fun tgt ktg => pre_150 tgt (by
                show Steps p.tables e below (T_126.setTop (mkF m 235 #[.val (.int p0), .val (.int p1), .val (.int p2), .val (.int p3), .val (.int p4), .val (.long d), .second, .val (.long k), .second, .val (.double (sav (p0.toInt64) d)), .second, .val (.double (sav (p1.toInt64) d)), .second, .val (.double (sav ((p0.toInt64) * k) (d * k))), .second, .val (.int (p4 &&& (3 : Int32))), .val (.double (sav d ((2 : Int64) * d))), .second, .val (.double (4602678819172646912 : UInt64)), .second, .val (.int (1 : Int32))] [(.int (XT.cmpL (p0.toInt64) d))])) _
                refine XS.ifYes Xw_126.here hx rfl (pc0 := 235) (pc' := 264) rfl (hb hby at_235) rfl ((if0 _ _).trans (tlt c_151).2.2.1) (by decide) (by decide) ?_
                exact ktg)
              have pre_153 : Rch p.tables e below (s₁.setTop (entryFrame m #[(.int p0), (.int p1), (.int p2), (.int p3), (.int p4)] maxLocals)) (T_126.setTop (mkF m 266 #[.val (.int p0), .val (.int p1), .val (.int p2), .val (.int p3), .val (.int p4), .val (.long d), .second, .val (.long k), .second, .val (.double (sav (p0.toInt64) d)), .second, .val (.double (sav (p1.toInt64) d)), .second, .val (.double (sav ((p0.toInt64) * k) (d * k))), .second, .val (.int (p4 &&& (3 : Int32))), .val (.double (sav d ((2 : Int64) * d))), .second, .val (.double (4602678819172646912 : UInt64)), .second, .val (.int (1 : Int32))] [(.int (1 : Int32))])) := fun tgt ktg => pre_152 tgt (by
                show Steps p.tables e below (T_126.setTop (mkF m 264 #[.val (.int p0), .val (.int p1), .val (.int p2), .val (.int p3), .val (.int p4), .val (.long d), .second, .val (.long k), .second, .val (.double (sav (p0.toInt64) d)), .second, .val (.double (sav (p1.toInt64) d)), .second, .val (.double (sav ((p0.toInt64) * k) (d * k))), .second, .val (.int (p4 &&& (3 : Int32))), .val (.double (sav d ((2 : Int64) * d))), .second, .val (.double (4602678819172646912 : UInt64)), .second, .val (.int (1 : Int32))] [])) _
                refine XS.iload Xw_126.here hx rfl (hb hby at_264) rfl ?_
                exact ktg)
              obtain ⟨fs, hr, hrun, hended, hW⟩ := Xw_126.leaveW hS_126 hk_126 (v := some (.int (1 : Int32))) (fun h => by rw [Bd.returns] at h; cases h)
              refine ⟨_, _, pre_153 _ ?_, hrun, hended, _, _, rfl, ?_, ?_, hW.1, hW.2.1, hW.2.2.1, hW.2.2.2.mono (by decide) (by decide)⟩
              · show Steps p.tables e below (T_126.setTop (mkF m 266 #[.val (.int p0), .val (.int p1), .val (.int p2), .val (.int p3), .val (.int p4), .val (.long d), .second, .val (.long k), .second, .val (.double (sav (p0.toInt64) d)), .second, .val (.double (sav (p1.toInt64) d)), .second, .val (.double (sav ((p0.toInt64) * k) (d * k))), .second, .val (.int (p4 &&& (3 : Int32))), .val (.double (sav d ((2 : Int64) * d))), .second, .val (.double (4602678819172646912 : UInt64)), .second, .val (.int (1 : Int32))] [(.int (1 : Int32))])) _
                exact retN Xw_126 hx (t := .boolean) Bd.returns (by simp) (hb hby at_266) hr
              · show Q0 Z p0 p1 p2 p3 p4 h0 n0 _ T_126.heap _
                exact ⟨rfl, N_127⟩
              · show CHr Z consts_1 s.vm s.heap T_126.vm T_126.heap
                rw [hh]
                exact C_128.trans (CHv.at Xw_126 hZ hEL C_128.1)
            · skip
              have pre_154 : Rch p.tables e below (s₁.setTop (entryFrame m #[(.int p0), (.int p1), (.int p2), (.int p3), (.int p4)] maxLocals)) (T_126.setTop (mkF m 238 #[.val (.int p0), .val (.int p1), .val (.int p2), .val (.int p3), .val (.int p4), .val (.long d), .second, .val (.long k), .second, .val (.double (sav (p0.toInt64) d)), .second, .val (.double (sav (p1.toInt64) d)), .second, .val (.double (sav ((p0.toInt64) * k) (d * k))), .second, .val (.int (p4 &&& (3 : Int32))), .val (.double (sav d ((2 : Int64) * d))), .second, .val (.double (4602678819172646912 : UInt64)), .second, .val (.int (1 : Int32))] [])) := fun tgt ktg => pre_150 tgt (by
                show Steps p.tables e below (T_126.setTop (mkF m 235 #[.val (.int p0), .val (.int p1), .val (.int p2), .val (.int p3), .val (.int p4), .val (.long d), .second, .val (.long k), .second, .val (.double (sav (p0.toInt64) d)), .second, .val (.double (sav (p1.toInt64) d)), .second, .val (.double (sav ((p0.toInt64) * k) (d * k))), .second, .val (.int (p4 &&& (3 : Int32))), .val (.double (sav d ((2 : Int64) * d))), .second, .val (.double (4602678819172646912 : UInt64)), .second, .val (.int (1 : Int32))] [(.int (XT.cmpL (p0.toInt64) d))])) _
                refine XS.ifNo Xw_126.here hx rfl (hb hby at_235) rfl ((if0 _ _).trans (flt c_151).2.2.1) ?_
                exact ktg)
              have hr := own_r32 Hd c_146 c_151
              have pre_155 : Rch p.tables e below (s₁.setTop (entryFrame m #[(.int p0), (.int p1), (.int p2), (.int p3), (.int p4)] maxLocals)) (T_126.setTop (mkF m 266 #[.val (.int p0), .val (.int p1), .val (.int p2), .val (.int p3), .val (.int p4), .val (.long d), .second, .val (.long k), .second, .val (.double (sav (p0.toInt64) d)), .second, .val (.double (sav (p1.toInt64) d)), .second, .val (.double (sav ((p0.toInt64) * k) (d * k))), .second, .val (.int (p4 &&& (3 : Int32))), .val (.double (sav d ((2 : Int64) * d))), .second, .val (.double (4602678819172646912 : UInt64)), .second, .val (.int (1 : Int32))] [(.int (1 : Int32))])) := fun tgt ktg => pre_154 tgt (by
                show Steps p.tables e below (T_126.setTop (mkF m 238 #[.val (.int p0), .val (.int p1), .val (.int p2), .val (.int p3), .val (.int p4), .val (.long d), .second, .val (.long k), .second, .val (.double (sav (p0.toInt64) d)), .second, .val (.double (sav (p1.toInt64) d)), .second, .val (.double (sav ((p0.toInt64) * k) (d * k))), .second, .val (.int (p4 &&& (3 : Int32))), .val (.double (sav d ((2 : Int64) * d))), .second, .val (.double (4602678819172646912 : UInt64)), .second, .val (.int (1 : Int32))] [])) _
                refine XS.iload Xw_126.here hx rfl (hb hby at_238) rfl ?_
                show Steps p.tables e below (T_126.setTop (mkF m 240 #[.val (.int p0), .val (.int p1), .val (.int p2), .val (.int p3), .val (.int p4), .val (.long d), .second, .val (.long k), .second, .val (.double (sav (p0.toInt64) d)), .second, .val (.double (sav (p1.toInt64) d)), .second, .val (.double (sav ((p0.toInt64) * k) (d * k))), .second, .val (.int (p4 &&& (3 : Int32))), .val (.double (sav d ((2 : Int64) * d))), .second, .val (.double (4602678819172646912 : UInt64)), .second, .val (.int (1 : Int32))] [(.int (1 : Int32))])) _
                refine XS.ifNo Xw_126.here hx rfl (hb hby at_240) rfl ((if0 _ _).trans (feq (by decide : ¬ ((1 : Int32) = (0 : Int32)))).1) ?_
                show Steps p.tables e below (T_126.setTop (mkF m 243 #[.val (.int p0), .val (.int p1), .val (.int p2), .val (.int p3), .val (.int p4), .val (.long d), .second, .val (.long k), .second, .val (.double (sav (p0.toInt64) d)), .second, .val (.double (sav (p1.toInt64) d)), .second, .val (.double (sav ((p0.toInt64) * k) (d * k))), .second, .val (.int (p4 &&& (3 : Int32))), .val (.double (sav d ((2 : Int64) * d))), .second, .val (.double (4602678819172646912 : UInt64)), .second, .val (.int (1 : Int32))] [])) _
                refine XS.dload Xw_126.here hx rfl (hb hby at_243) rfl ?_
                show Steps p.tables e below (T_126.setTop (mkF m 245 #[.val (.int p0), .val (.int p1), .val (.int p2), .val (.int p3), .val (.int p4), .val (.long d), .second, .val (.long k), .second, .val (.double (sav (p0.toInt64) d)), .second, .val (.double (sav (p1.toInt64) d)), .second, .val (.double (sav ((p0.toInt64) * k) (d * k))), .second, .val (.int (p4 &&& (3 : Int32))), .val (.double (sav d ((2 : Int64) * d))), .second, .val (.double (4602678819172646912 : UInt64)), .second, .val (.int (1 : Int32))] [(.double (sav (p0.toInt64) d))])) _
                refine XS.dconst0 Xw_126.here hx rfl (hb hby at_245) (v := (0 : UInt64)) own_dc0 ?_
                show Steps p.tables e below (T_126.setTop (mkF m 246 #[.val (.int p0), .val (.int p1), .val (.int p2), .val (.int p3), .val (.int p4), .val (.long d), .second, .val (.long k), .second, .val (.double (sav (p0.toInt64) d)), .second, .val (.double (sav (p1.toInt64) d)), .second, .val (.double (sav ((p0.toInt64) * k) (d * k))), .second, .val (.int (p4 &&& (3 : Int32))), .val (.double (sav d ((2 : Int64) * d))), .second, .val (.double (4602678819172646912 : UInt64)), .second, .val (.int (1 : Int32))] [(.double (0 : UInt64)), (.double (sav (p0.toInt64) d))])) _
                refine XS.dcmpS Xw_126.here hx rfl (hb hby at_246) rfl rfl ?_
                show Steps p.tables e below (T_126.setTop (mkF m 247 #[.val (.int p0), .val (.int p1), .val (.int p2), .val (.int p3), .val (.int p4), .val (.long d), .second, .val (.long k), .second, .val (.double (sav (p0.toInt64) d)), .second, .val (.double (sav (p1.toInt64) d)), .second, .val (.double (sav ((p0.toInt64) * k) (d * k))), .second, .val (.int (p4 &&& (3 : Int32))), .val (.double (sav d ((2 : Int64) * d))), .second, .val (.double (4602678819172646912 : UInt64)), .second, .val (.int (1 : Int32))] [(.int (cmpValue (FP.dcmp (sav (p0.toInt64) d) (0 : UInt64)) .l))])) _
                refine XS.ifNo Xw_126.here hx rfl (hb hby at_247) rfl ((if0 _ _).trans (flt (own_nl hr.1)).1) ?_
                show Steps p.tables e below (T_126.setTop (mkF m 250 #[.val (.int p0), .val (.int p1), .val (.int p2), .val (.int p3), .val (.int p4), .val (.long d), .second, .val (.long k), .second, .val (.double (sav (p0.toInt64) d)), .second, .val (.double (sav (p1.toInt64) d)), .second, .val (.double (sav ((p0.toInt64) * k) (d * k))), .second, .val (.int (p4 &&& (3 : Int32))), .val (.double (sav d ((2 : Int64) * d))), .second, .val (.double (4602678819172646912 : UInt64)), .second, .val (.int (1 : Int32))] [])) _
                refine XS.dload Xw_126.here hx rfl (hb hby at_250) rfl ?_
                show Steps p.tables e below (T_126.setTop (mkF m 252 #[.val (.int p0), .val (.int p1), .val (.int p2), .val (.int p3), .val (.int p4), .val (.long d), .second, .val (.long k), .second, .val (.double (sav (p0.toInt64) d)), .second, .val (.double (sav (p1.toInt64) d)), .second, .val (.double (sav ((p0.toInt64) * k) (d * k))), .second, .val (.int (p4 &&& (3 : Int32))), .val (.double (sav d ((2 : Int64) * d))), .second, .val (.double (4602678819172646912 : UInt64)), .second, .val (.int (1 : Int32))] [(.double (sav (p0.toInt64) d))])) _
                refine XS.dconst1 Xw_126.here hx rfl (hb hby at_252) (v := (4607182418800017408 : UInt64)) own_dc1 ?_
                show Steps p.tables e below (T_126.setTop (mkF m 253 #[.val (.int p0), .val (.int p1), .val (.int p2), .val (.int p3), .val (.int p4), .val (.long d), .second, .val (.long k), .second, .val (.double (sav (p0.toInt64) d)), .second, .val (.double (sav (p1.toInt64) d)), .second, .val (.double (sav ((p0.toInt64) * k) (d * k))), .second, .val (.int (p4 &&& (3 : Int32))), .val (.double (sav d ((2 : Int64) * d))), .second, .val (.double (4602678819172646912 : UInt64)), .second, .val (.int (1 : Int32))] [(.double (4607182418800017408 : UInt64)), (.double (sav (p0.toInt64) d))])) _
                refine XS.dcmpS Xw_126.here hx rfl (hb hby at_253) rfl rfl ?_
                show Steps p.tables e below (T_126.setTop (mkF m 254 #[.val (.int p0), .val (.int p1), .val (.int p2), .val (.int p3), .val (.int p4), .val (.long d), .second, .val (.long k), .second, .val (.double (sav (p0.toInt64) d)), .second, .val (.double (sav (p1.toInt64) d)), .second, .val (.double (sav ((p0.toInt64) * k) (d * k))), .second, .val (.int (p4 &&& (3 : Int32))), .val (.double (sav d ((2 : Int64) * d))), .second, .val (.double (4602678819172646912 : UInt64)), .second, .val (.int (1 : Int32))] [(.int (cmpValue (FP.dcmp (sav (p0.toInt64) d) (4607182418800017408 : UInt64)) .g))])) _
                refine XS.ifNo Xw_126.here hx rfl (hb hby at_254) rfl ((if0 _ _).trans (flt (own_ng hr.2)).2.2.1) ?_
                show Steps p.tables e below (T_126.setTop (mkF m 257 #[.val (.int p0), .val (.int p1), .val (.int p2), .val (.int p3), .val (.int p4), .val (.long d), .second, .val (.long k), .second, .val (.double (sav (p0.toInt64) d)), .second, .val (.double (sav (p1.toInt64) d)), .second, .val (.double (sav ((p0.toInt64) * k) (d * k))), .second, .val (.int (p4 &&& (3 : Int32))), .val (.double (sav d ((2 : Int64) * d))), .second, .val (.double (4602678819172646912 : UInt64)), .second, .val (.int (1 : Int32))] [])) _
                refine XS.iconst Xw_126.here hx rfl (hb hby at_257) ?_
                show Steps p.tables e below (T_126.setTop (mkF m 258 #[.val (.int p0), .val (.int p1), .val (.int p2), .val (.int p3), .val (.int p4), .val (.long d), .second, .val (.long k), .second, .val (.double (sav (p0.toInt64) d)), .second, .val (.double (sav (p1.toInt64) d)), .second, .val (.double (sav ((p0.toInt64) * k) (d * k))), .second, .val (.int (p4 &&& (3 : Int32))), .val (.double (sav d ((2 : Int64) * d))), .second, .val (.double (4602678819172646912 : UInt64)), .second, .val (.int (1 : Int32))] [(.int (1 : Int32))])) _
                refine XS.goto Xw_126.here hx rfl (pc0 := 258) (pc' := 262) rfl (hb hby at_258) (by decide) (by decide) ?_
                show Steps p.tables e below (T_126.setTop (mkF m 262 #[.val (.int p0), .val (.int p1), .val (.int p2), .val (.int p3), .val (.int p4), .val (.long d), .second, .val (.long k), .second, .val (.double (sav (p0.toInt64) d)), .second, .val (.double (sav (p1.toInt64) d)), .second, .val (.double (sav ((p0.toInt64) * k) (d * k))), .second, .val (.int (p4 &&& (3 : Int32))), .val (.double (sav d ((2 : Int64) * d))), .second, .val (.double (4602678819172646912 : UInt64)), .second, .val (.int (1 : Int32))] [(.int (1 : Int32))])) _
                refine XS.istore Xw_126.here hx rfl (hb hby at_262) rfl (l' := #[.val (.int p0), .val (.int p1), .val (.int p2), .val (.int p3), .val (.int p4), .val (.long d), .second, .val (.long k), .second, .val (.double (sav (p0.toInt64) d)), .second, .val (.double (sav (p1.toInt64) d)), .second, .val (.double (sav ((p0.toInt64) * k) (d * k))), .second, .val (.int (p4 &&& (3 : Int32))), .val (.double (sav d ((2 : Int64) * d))), .second, .val (.double (4602678819172646912 : UInt64)), .second, .val (.int (1 : Int32))]) rfl ?_
                show Steps p.tables e below (T_126.setTop (mkF m 264 #[.val (.int p0), .val (.int p1), .val (.int p2), .val (.int p3), .val (.int p4), .val (.long d), .second, .val (.long k), .second, .val (.double (sav (p0.toInt64) d)), .second, .val (.double (sav (p1.toInt64) d)), .second, .val (.double (sav ((p0.toInt64) * k) (d * k))), .second, .val (.int (p4 &&& (3 : Int32))), .val (.double (sav d ((2 : Int64) * d))), .second, .val (.double (4602678819172646912 : UInt64)), .second, .val (.int (1 : Int32))] [])) _
                refine XS.iload Xw_126.here hx rfl (hb hby at_264) rfl ?_
                exact ktg)
              obtain ⟨fs, hr, hrun, hended, hW⟩ := Xw_126.leaveW hS_126 hk_126 (v := some (.int (1 : Int32))) (fun h => by rw [Bd.returns] at h; cases h)
              refine ⟨_, _, pre_155 _ ?_, hrun, hended, _, _, rfl, ?_, ?_, hW.1, hW.2.1, hW.2.2.1, hW.2.2.2.mono (by decide) (by decide)⟩
              · show Steps p.tables e below (T_126.setTop (mkF m 266 #[.val (.int p0), .val (.int p1), .val (.int p2), .val (.int p3), .val (.int p4), .val (.long d), .second, .val (.long k), .second, .val (.double (sav (p0.toInt64) d)), .second, .val (.double (sav (p1.toInt64) d)), .second, .val (.double (sav ((p0.toInt64) * k) (d * k))), .second, .val (.int (p4 &&& (3 : Int32))), .val (.double (sav d ((2 : Int64) * d))), .second, .val (.double (4602678819172646912 : UInt64)), .second, .val (.int (1 : Int32))] [(.int (1 : Int32))])) _
                exact retN Xw_126 hx (t := .boolean) Bd.returns (by simp) (hb hby at_266) hr
              · show Q0 Z p0 p1 p2 p3 p4 h0 n0 _ T_126.heap _
                exact ⟨rfl, N_127⟩
              · show CHr Z consts_1 s.vm s.heap T_126.vm T_126.heap
                rw [hh]
                exact C_128.trans (CHv.at Xw_126 hZ hEL C_128.1)
set_option maxRecDepth 65536 in
set_option maxHeartbeats 40000000 in
theorem comes_1 {Post : Tables → Env → Array Value → State → Outcome → State → Prop} (hpost : ∀ tb e args s v u, (limb_1_1.after args s (.returned v) u = true ∧ limb_1_2.after args s (.returned v) u = true ∧ True) → ReturnedEndW s (.returned v) u (Jvm.fieldLocs frame_1_writes args s ++ Jvm.arrayLocs frame_1_arrays args s ++ Jvm.staticLocs frame_1_statics s) 24 1152 → Post tb e args s (.returned v) u) :
    ArmFor flags0 classFile x code maxLocals ret World_1 tables_1 room_1 Calls_1 rest_1 Pre_1 Post := by
  intro l hfl _ _ p e ha hc hk s m args below hf hA hF happ hP
  obtain ⟨hcalls, hrest, hpre⟩ := hP
  obtain ⟨-, -, -, hnamed, -, -, -, hat⟩ := (Spec.applies_iff hf).mp happ
  obtain ⟨hg, hn⟩ := and_e (Cond.before_iff.mp (show (Jvm.Cond.and given_1 narrow_1).before args s = true from hpre))
  obtain ⟨gc, g0⟩ := and_e hg
  obtain ⟨ga0, g1⟩ := and_e g0
  obtain ⟨ga1, g2⟩ := and_e g1
  obtain ⟨ga2, g3⟩ := and_e g2
  obtain ⟨ga3, g4⟩ := and_e g3
  obtain ⟨w0, w1, w2, w3, w4, rfl⟩ : ∃ w0 w1 w2 w3 w4 : Value, args = #[w0, w1, w2, w3, w4] := by
    have hs : args.size = 5 := by simpa [Cond.value, given_1] using gc
    obtain ⟨L⟩ := args
    match L, hs with
    | [w0, w1, w2, w3, w4], _ => exact ⟨w0, w1, w2, w3, w4, rfl⟩
  have hw := fun d (hd : d ∈ tables_1) => atoms_spec (ws := Jvm.Cond.code x code maxLocals ret :: tables_1) hat d (List.mem_cons_of_mem _ hd)
  have hfit : Fit s := fun {y c} hc i hi => by
    obtain ⟨ha, rfl⟩ := Array.getElem?_eq_some_iff.mp hc
    have q := List.all_eq_true.mp ((Array.all_eq_true_iff_forall_mem.mp hF) _ (Array.getElem_mem ha)) i (List.mem_range.mpr hi)
    simpa [Array.getElem?_eq_getElem hi] using q
  obtain ⟨i0, ei0⟩ := is_v ga0
  obtain rfl : w0 = (.int i0) := Option.some.inj ei0
  obtain ⟨i1, ei1⟩ := is_v ga1
  obtain rfl : w1 = (.int i1) := Option.some.inj ei1
  obtain ⟨i2, ei2⟩ := is_v ga2
  obtain rfl : w2 = (.int i2) := Option.some.inj ei2
  obtain ⟨i3, ei3⟩ := is_v ga3
  obtain rfl : w3 = (.int i3) := Option.some.inj ei3
  obtain ⟨i4, ei4⟩ := is_v g4
  obtain rfl : w4 = (.int i4) := Option.some.inj ei4
  have hCH : CHv s consts_1 s.vm s.heap := fun p hp => absurd hp (List.not_mem_nil)
  obtain ⟨n, o, h1, h2, h3, _, L, rfl, ⟨rfl, N⟩, -, hq⟩ := rm0 l s _ hw tables_1 i0 i1 i2 i3 i4 s.heap s.heap.size (Nat.le_refl _) p e ha hc hk s m _ below hf ((Spec.applies_iff_loose hf).mp happ).1 ⟨rfl, State.Warmed39.refl s, rfl, hCH⟩ trivial
  refine ⟨n, _, h1, h2, h3, hpost _ _ _ _ _ _ ⟨Cond.after_iff.mpr rfl, Cond.after_iff.mpr (eq_i res_at (Term.int_eval (1)) rfl), trivial⟩ ⟨hq.1, hq.2.1, hq.2.2.1, (hq.2.2.2.sift fun y hy => Or.inr (N y hy)).mono (by decide) (by decide)⟩⟩
theorem main_1_1 : Claimed_1_1 := comes_1 fun _ _ _ _ _ _ h hF => ⟨h.1, hF⟩
theorem main_1_2 : Claimed_1_2 := comes_1 fun _ _ _ _ _ _ h hF => ⟨h.2.1, hF⟩
end Jvm.Pilot.@@N@@
namespace Jvm.Pilot.@@N@@
open Jvm Jvm.ClassFile Sem Op Lib Jvm.Free Jvm.Stand Jvm.Pilot.@@N@@.Jvm.D
/-! MADE BY PROGRAM (witnessworld.py) out of the Statement's table words and the real class files: 14 classes; the members and pool entries that the words name. The judged class is class 1, her method 2. -/
namespace start1
open Jvm.ClassFile
def u (s : String) : CpInfo := .utf8 (stringToUtf16 s)
/-- a pool by its gaps: so many unusable entries, then the entry; so many at the end -/
def gap : Nat → List CpInfo → List CpInfo
  | 0, r => r
  | n + 1, r => .unusable :: gap n r
def poolList (es : List (Nat × CpInfo)) (last : Nat) : List CpInfo := es.foldr (fun e r => gap e.1 (e.2 :: r)) (gap last [])
def pool (es : List (Nat × CpInfo)) (last : Nat) : Array CpInfo := ⟨poolList es last⟩
def fileOf (pool : Array CpInfo) (this : Nat) (attrs : Array Attribute := #[]) (ms : Array MethodInfo := #[]) (fl : Nat := 33) (sup : Nat := 0) (ifs : Array Nat := #[]) (fds : Array FieldInfo := #[]) : ClassFile where
  minorVersion := 0
  majorVersion := 65
  constantPool := pool
  accessFlags := fl
  thisClass := this
  superClass := sup
  interfaces := ifs
  fields := fds
  methods := ms
  attributes := attrs
def plain (name : String) (sup : Option ClassId) : Class where
  name := name
  kind := .ordinary
  loader := none
  accessFlags := 33
  super := sup
  interfaces := #[]
  cf := none
  fields := #[]
  methods := #[]
  instanceTypes := #[]
  staticTypes := #[]
  resolved := #[]
  callSites := []
  init := .initialized
  statics := none
  mirror := none

def pool0 : Array CpInfo := pool [(5, u "<init>"), (0, u "()V"), (1, .class_ 10), (1, u "java/lang/Object")] 113

def k0c0 : Code := { maxStack := 0, maxLocals := 1, code := object_method_1_code, exceptionTable := #[], attributes := #[] }
def k0m0 : Method := { name := "<init>", desc := "()V", sig := { parameters := [], returnType := none }, accessFlags := 1, code := some k0c0 }
/-- java/lang/Object -/
def k0 : Class := { plain "java/lang/Object" none with
  accessFlags := 33
  interfaces := #[]
  cf := some (fileOf pool0 8 #[] #[{ accessFlags := 1, nameIndex := 5, descriptorIndex := 6, attributes := #[] }] 33 0 #[] #[])
  fields := #[]
  methods := #[k0m0]
  instanceTypes := #[]
  staticTypes := #[]
  resolved := Array.replicate 124 none
  statics := none }

def pool1 : Array CpInfo := pool [(2, .class_ 4), (1, u "java/lang/Object"), (0, u "<init>"), (0, u "()V"), (0, .class_ 8), (0, u "com/example/prudent_spot/prudentspot/replay/Outcome"), (0, .string 10), (0, u "s"), (0, .methodref 7 12), (0, .nameAndType 5 13), (0, u "(Ljava/lang/String;JDDJDD)V"), (0, .methodref 7 15), (0, .nameAndType 16 17), (0, u "saving"), (0, u "()D"), (0, .integer 65535), (0, .methodref 20 21), (0, .class_ 22), (0, .nameAndType 10 23), (0, u "com/example/prudent_spot/prudentspot/replay/OutcomeSavingPinLaw"), (0, u "(JJ)D"), (0, .long 2), (1, .double 13830554455654793216), (1, .double 4602678819172646912), (3, u "law"), (0, u "(IIIII)Z")] 3

def k1m0 : Method := { name := "<init>", desc := "()V", sig := { parameters := [], returnType := none }, accessFlags := 1, code := none }
def k1c1 : Code := { maxStack := 15, maxLocals := 4, code := method_2_code, exceptionTable := #[], attributes := #[] }
def k1m1 : Method := { name := "s", desc := "(JJ)D", sig := { parameters := [.long, .long], returnType := some .double }, accessFlags := 10, code := some k1c1 }
def k1c2 : Code := { maxStack := 6, maxLocals := 21, code := code, exceptionTable := #[], attributes := #[] }
def k1m2 : Method := { name := "law", desc := "(IIIII)Z", sig := { parameters := [.int, .int, .int, .int, .int], returnType := some .boolean }, accessFlags := 9, code := some k1c2 }
/-- com/example/prudent_spot/prudentspot/replay/OutcomeSavingPinLaw -/
def k1 : Class := { plain "com/example/prudent_spot/prudentspot/replay/OutcomeSavingPinLaw" (some 0) with
  accessFlags := 49
  interfaces := #[]
  cf := some (fileOf pool1 20 #[] #[{ accessFlags := 1, nameIndex := 5, descriptorIndex := 6, attributes := #[] }, { accessFlags := 10, nameIndex := 10, descriptorIndex := 23, attributes := #[] }, { accessFlags := 9, nameIndex := 32, descriptorIndex := 33, attributes := #[] }] 49 2 #[] #[])
  fields := #[]
  methods := #[k1m0, k1m1, k1m2]
  instanceTypes := #[]
  staticTypes := #[]
  resolved := Array.replicate 37 none
  statics := none }

def pool2 : Array CpInfo := pool [(1, .methodref 2 3), (0, .class_ 4), (0, .nameAndType 5 6), (0, u "java/lang/Object"), (0, u "<init>"), (0, u "()V"), (0, .fieldref 8 9), (0, .class_ 10), (0, .nameAndType 11 12), (0, u "com/example/prudent_spot/prudentspot/replay/Outcome"), (0, u "name"), (0, u "Ljava/lang/String;"), (0, .fieldref 8 14), (0, .nameAndType 15 16), (0, u "servers"), (0, u "J"), (0, .fieldref 8 18), (0, .nameAndType 19 20), (0, u "cost"), (0, u "D"), (0, .fieldref 8 22), (0, .nameAndType 23 20), (0, u "onDemandCost"), (0, .fieldref 8 25), (0, .nameAndType 26 16), (0, u "revocations"), (0, .fieldref 8 28), (0, .nameAndType 29 20), (0, u "serverHoursLost"), (0, .fieldref 8 31), (0, .nameAndType 32 20), (0, u "largestLossShare"), (0, u "(Ljava/lang/String;JDDJDD)V"), (4, u "()D"), (0, u "saving")] 2

def k2c0 : Code := { maxStack := 3, maxLocals := 14, code := prog_21_method_1_code, exceptionTable := #[], attributes := #[] }
def k2m0 : Method := { name := "<init>", desc := "(Ljava/lang/String;JDDJDD)V", sig := { parameters := [(.object "java/lang/String"), .long, .double, .double, .long, .double, .double], returnType := none }, accessFlags := 0, code := some k2c0 }
def k2c1 : Code := { maxStack := 6, maxLocals := 1, code := prog_21_method_6_code, exceptionTable := #[], attributes := #[] }
def k2m1 : Method := { name := "saving", desc := "()D", sig := { parameters := [], returnType := some .double }, accessFlags := 1, code := some k2c1 }
/-- com/example/prudent_spot/prudentspot/replay/Outcome -/
def k2 : Class := { plain "com/example/prudent_spot/prudentspot/replay/Outcome" (some 0) with
  accessFlags := 49
  interfaces := #[]
  cf := some (fileOf pool2 8 #[] #[{ accessFlags := 0, nameIndex := 5, descriptorIndex := 33, attributes := #[] }, { accessFlags := 1, nameIndex := 39, descriptorIndex := 38, attributes := #[] }] 49 2 #[] #[{ accessFlags := 18, nameIndex := 11, descriptorIndex := 12, attributes := #[] }, { accessFlags := 18, nameIndex := 15, descriptorIndex := 16, attributes := #[] }, { accessFlags := 18, nameIndex := 19, descriptorIndex := 20, attributes := #[] }, { accessFlags := 18, nameIndex := 23, descriptorIndex := 20, attributes := #[] }, { accessFlags := 18, nameIndex := 26, descriptorIndex := 16, attributes := #[] }, { accessFlags := 18, nameIndex := 29, descriptorIndex := 20, attributes := #[] }, { accessFlags := 18, nameIndex := 32, descriptorIndex := 20, attributes := #[] }])
  fields := #[{ name := "name", type := (.object "java/lang/String"), accessFlags := 18, slot := 0, constantValue := 0 }, { name := "servers", type := .long, accessFlags := 18, slot := 1, constantValue := 0 }, { name := "cost", type := .double, accessFlags := 18, slot := 2, constantValue := 0 }, { name := "onDemandCost", type := .double, accessFlags := 18, slot := 3, constantValue := 0 }, { name := "revocations", type := .long, accessFlags := 18, slot := 4, constantValue := 0 }, { name := "serverHoursLost", type := .double, accessFlags := 18, slot := 5, constantValue := 0 }, { name := "largestLossShare", type := .double, accessFlags := 18, slot := 6, constantValue := 0 }]
  methods := #[k2m0, k2m1]
  instanceTypes := #[(.object "java/lang/String"), .long, .double, .double, .long, .double, .double]
  staticTypes := #[]
  resolved := Array.replicate 42 none
  statics := none }

def pool3 : Array CpInfo := pool [(1, .class_ 2), (0, u "java/io/Serializable"), (0, .class_ 4), (0, u "java/lang/Object")] 2

/-- java/io/Serializable -/
def k3 : Class := { plain "java/io/Serializable" (some 0) with
  accessFlags := 1537
  interfaces := #[]
  cf := some (fileOf pool3 1 #[] #[] 1537 3 #[] #[])
  fields := #[]
  methods := #[]
  instanceTypes := #[]
  staticTypes := #[]
  resolved := Array.replicate 7 none
  statics := none }

def pool4 : Array CpInfo := pool [(1, .class_ 2), (0, u "java/lang/Comparable"), (0, .class_ 4), (0, u "java/lang/Object")] 7

/-- java/lang/Comparable -/
def k4 : Class := { plain "java/lang/Comparable" (some 0) with
  accessFlags := 1537
  interfaces := #[]
  cf := some (fileOf pool4 1 #[] #[] 1537 3 #[] #[])
  fields := #[]
  methods := #[]
  instanceTypes := #[]
  staticTypes := #[]
  resolved := Array.replicate 12 none
  statics := none }

def pool5 : Array CpInfo := pool [(2, .class_ 4), (1, u "java/lang/CharSequence"), (42, .class_ 48), (0, u "java/lang/CharSequence$1CodePointIterator"), (10, .class_ 60), (0, u "java/lang/CharSequence$1CharIterator"), (5, .class_ 67), (0, u "java/lang/Object")] 63

/-- java/lang/CharSequence -/
def k5 : Class := { plain "java/lang/CharSequence" (some 0) with
  accessFlags := 1537
  interfaces := #[]
  cf := some (fileOf pool5 2 #[.nestMembers #[47, 59]] #[] 1537 66 #[] #[])
  fields := #[]
  methods := #[]
  instanceTypes := #[]
  staticTypes := #[]
  resolved := Array.replicate 131 none
  statics := none }

def pool6 : Array CpInfo := pool [(1, .class_ 2), (0, u "java/lang/constant/Constable"), (0, .class_ 4), (0, u "java/lang/Object")] 6

/-- java/lang/constant/Constable -/
def k6 : Class := { plain "java/lang/constant/Constable" (some 0) with
  accessFlags := 1537
  interfaces := #[]
  cf := some (fileOf pool6 1 #[] #[] 1537 3 #[] #[])
  fields := #[]
  methods := #[]
  instanceTypes := #[]
  staticTypes := #[]
  resolved := Array.replicate 11 none
  statics := none }

def pool7 : Array CpInfo := pool [(1, .class_ 2), (0, u "java/lang/constant/ConstantDesc"), (0, .class_ 4), (0, u "java/lang/Object")] 32

/-- java/lang/constant/ConstantDesc -/
def k7 : Class := { plain "java/lang/constant/ConstantDesc" (some 0) with
  accessFlags := 1537
  interfaces := #[]
  cf := some (fileOf pool7 1 #[] #[] 1537 3 #[] #[])
  fields := #[]
  methods := #[]
  instanceTypes := #[]
  staticTypes := #[]
  resolved := Array.replicate 37 none
  statics := none }

def pool8 : Array CpInfo := pool [(2, .class_ 4), (1, u "java/lang/Object"), (0, u "<init>"), (0, u "()V"), (3, .class_ 12), (1, u "java/lang/String"), (0, u "value"), (0, u "[B"), (2, u "coder"), (0, u "B"), (2, u "hash"), (0, u "I"), (2, u "hashIsZero"), (0, u "Z"), (13, u "COMPACT_STRINGS"), (534, .class_ 576), (0, u "java/lang/CharSequence"), (22, u "CASE_INSENSITIVE_ORDER"), (0, u "Ljava/util/Comparator;"), (500, u "serialPersistentFields"), (0, u "[Ljava/io/ObjectStreamField;"), (0, .class_ 1104), (0, u "java/lang/String$CaseInsensitiveComparator"), (1, .class_ 1107), (0, u "java/io/Serializable"), (0, .class_ 1109), (0, u "java/lang/Comparable"), (0, .class_ 1111), (0, u "java/lang/constant/Constable"), (0, .class_ 1113), (0, u "java/lang/constant/ConstantDesc"), (2, u "serialVersionUID"), (0, u "J"), (3, u "REPL"), (0, u "C"), (2, u "LATIN1"), (1, u "UTF16")] 323

def k8m0 : Method := { name := "<init>", desc := "()V", sig := { parameters := [], returnType := none }, accessFlags := 1, code := none }
/-- java/lang/String -/
def k8 : Class := { plain "java/lang/String" (some 0) with
  accessFlags := 49
  interfaces := #[3, 4, 5, 6, 7]
  cf := some (fileOf pool8 10 #[.nestMembers #[1103]] #[{ accessFlags := 1, nameIndex := 5, descriptorIndex := 6, attributes := #[] }] 49 2 #[1106, 1108, 575, 1110, 1112] #[{ accessFlags := 18, nameIndex := 13, descriptorIndex := 14, attributes := #[] }, { accessFlags := 18, nameIndex := 17, descriptorIndex := 18, attributes := #[] }, { accessFlags := 2, nameIndex := 21, descriptorIndex := 22, attributes := #[] }, { accessFlags := 2, nameIndex := 25, descriptorIndex := 26, attributes := #[] }, { accessFlags := 26, nameIndex := 1116, descriptorIndex := 1117, attributes := #[] }, { accessFlags := 24, nameIndex := 40, descriptorIndex := 26, attributes := #[] }, { accessFlags := 26, nameIndex := 1101, descriptorIndex := 1102, attributes := #[] }, { accessFlags := 26, nameIndex := 1121, descriptorIndex := 1122, attributes := #[] }, { accessFlags := 25, nameIndex := 599, descriptorIndex := 600, attributes := #[] }, { accessFlags := 24, nameIndex := 1125, descriptorIndex := 18, attributes := #[] }, { accessFlags := 24, nameIndex := 1127, descriptorIndex := 18, attributes := #[] }])
  fields := #[{ name := "value", type := (.array .byte), accessFlags := 18, slot := 0, constantValue := 0 }, { name := "coder", type := .byte, accessFlags := 18, slot := 1, constantValue := 0 }, { name := "hash", type := .int, accessFlags := 2, slot := 2, constantValue := 0 }, { name := "hashIsZero", type := .boolean, accessFlags := 2, slot := 3, constantValue := 0 }, { name := "serialVersionUID", type := .long, accessFlags := 26, slot := 0, constantValue := 0 }, { name := "COMPACT_STRINGS", type := .boolean, accessFlags := 24, slot := 1, constantValue := 0 }, { name := "serialPersistentFields", type := (.array (.object "java/io/ObjectStreamField")), accessFlags := 26, slot := 2, constantValue := 0 }, { name := "REPL", type := .char, accessFlags := 26, slot := 3, constantValue := 0 }, { name := "CASE_INSENSITIVE_ORDER", type := (.object "java/util/Comparator"), accessFlags := 25, slot := 4, constantValue := 0 }, { name := "LATIN1", type := .byte, accessFlags := 24, slot := 5, constantValue := 0 }, { name := "UTF16", type := .byte, accessFlags := 24, slot := 6, constantValue := 0 }]
  methods := #[k8m0]
  instanceTypes := #[(.array .byte), .byte, .int, .boolean]
  staticTypes := #[.long, .boolean, (.array (.object "java/io/ObjectStreamField")), .char, (.object "java/util/Comparator"), .byte, .byte]
  resolved := Array.replicate 1451 none
  statics := none }

def pool9 : Array CpInfo := pool [(1, u "java/lang/Cloneable"), (0, .class_ 1), (0, u "java/lang/Object"), (0, .class_ 3)] 3

/-- java/lang/Cloneable -/
def k9 : Class := { plain "java/lang/Cloneable" (some 0) with
  accessFlags := 1537
  interfaces := #[]
  cf := some (fileOf pool9 2 #[] #[] 1537 4 #[] #[])
  fields := #[]
  methods := #[]
  instanceTypes := #[]
  staticTypes := #[]
  resolved := Array.replicate 8 none
  statics := none }

/-- the primitive byte -/
def k10 : Class := { plain "byte" none with kind := .primitive 'B', accessFlags := 0x411 }
/-- [B -/
def k11 : Class := { plain "[B" (some 0) with kind := .array 10 .byte, interfaces := #[9, 3], accessFlags := 1041 }

/-- the primitive int -/
def k12 : Class := { plain "int" none with kind := .primitive 'I', accessFlags := 0x411 }
/-- [I -/
def k13 : Class := { plain "[I" (some 0) with kind := .array 12 .int, interfaces := #[9, 3], accessFlags := 1041 }

def heap : Heap := #[]
def classes : Array Class := #[k0, k1, k2, k3, k4, k5, k6, k7, k8, k9, k10, k11, k12, k13]
def interned : List (Array UInt16 × Addr) := []
def slotsUsed : Nat := 0
def theMethod : MethodId := ⟨1, 2⟩
def args0 : Array Value := #[.int 5, .int 6, .int 7, .int 8, .int 1]
def aboutOver (below : List Frame) : State where
  vm := { classes := classes, interned := interned.toArray }
  heap := heap
  slotsUsed := slotsUsed
  threads := #[{ frames := .invoking theMethod args0 :: below }]
def below0 : List Frame := [.native { method := ⟨0, 0⟩, args := #[] }]
def about1 : State := aboutOver below0
def p0 : Program := .bare "" "" ""
def e0 : Env := launch0.env 0 0 0
theorem w_frames : about1.frames = Frame.invoking theMethod args0 :: below0 := rfl
set_option maxRecDepth 65536 in
theorem w_args : argsFit about1.vm theMethod args0 = true := by decide +kernel
set_option maxRecDepth 65536 in
theorem w_heap : heapFits about1 = true := by decide +kernel
set_option maxRecDepth 65536 in
theorem w_runnable : about1.curStatus? = some .runnable := by decide +kernel
set_option maxRecDepth 65536 in
theorem w_alone : about1.alone = true := by decide +kernel
set_option maxRecDepth 65536 in
theorem w_named : about1.methodNamed? x = some theMethod := by decide +kernel
set_option maxRecDepth 65536 in
theorem w_hears : about1.hears theMethod below0 = true := by decide +kernel
set_option maxRecDepth 65536 in
theorem w_ripe : about1.ripe theMethod args0 below0 = true := by decide +kernel
theorem w_running : about1.status = .running := rfl
set_option maxRecDepth 65536 in
theorem w_room : about1.hasRoom e0.platform room_1 = true :=
  launch0.hasRoom_least _ room_1 (by decide +kernel) (by decide +kernel) (by decide +kernel) (by decide +kernel) (by decide +kernel) (by decide +kernel)
theorem allAtoms_all (ts : List Jvm.Cond) (a : Array Jvm.Value) (st : Jvm.State) : (allAtoms ts).before a st = ts.all (fun c => c.before a st) := by
  induction ts with
  | nil => rfl
  | cons c t ih =>
    show (Jvm.Cond.and c (allAtoms t)).before a st = _
    rw [Jvm.Cond.before_and, ih, List.all_cons]
def words1 : List Jvm.Cond := Jvm.Cond.code x code maxLocals ret :: tables_1
/-- a 'code' word, met by the world's own term for the bytes: nothing is compared byte by byte -/
theorem code_word {y : MethodName} {bytes : ByteArray} {mx : Nat} {rt : Option FieldType} {a : Array Value} {s : State} {m : MethodId} {meth : Method} {c : Code} (h1 : s.methodNamed? y = some m) (h2 : s.vm.method? m = some meth) (h3 : meth.code = some c) (h4 : c.code = bytes)
    (h5 : (c.maxLocals == mx && c.exceptionTable.isEmpty && decide (c.maxStack ≤ mostOperands) && decide (meth.sig.returnType = rt) && !meth.locks && decide (parseMethodDescriptor y.desc = some meth.sig)) = true) : (Jvm.Cond.code y bytes mx rt).before a s = true := by
  simp only [Bool.and_eq_true, beq_iff_eq, Bool.not_eq_true', decide_eq_true_eq] at h5
  obtain ⟨⟨⟨⟨⟨g1, g2⟩, g3⟩, g4⟩, g5⟩, g6⟩ := h5
  simp [Cond.before, Cond.holds, Cond.value, h1, h2, h3, h4, g1, g2, g3, g4, g5, g6]
def isCode : Jvm.Cond → Bool
  | .code _ _ _ _ => true
  | _ => false
theorem all_split {L : List Jvm.Cond} {P : Jvm.Cond → Bool} (h1 : L.all (fun c => isCode c || P c) = true) (h2 : ∀ c ∈ L.filter isCode, P c = true) : L.all P = true := by
  refine List.all_eq_true.mpr fun c hc => ?_
  have h := List.all_eq_true.mp h1 c hc
  rcases Bool.eq_false_or_eq_true (isCode c) with hi | hi
  · exact h2 c (List.mem_filter.mpr ⟨hc, hi⟩)
  · simpa [hi] using h
set_option maxRecDepth 65536 in
theorem w_c0 : (Jvm.Cond.code x code maxLocals ret).before args0 about1 = true := code_word (m := ⟨1, 2⟩) (meth := k1m2) (c := k1c2) (by decide +kernel) rfl rfl rfl (by decide +kernel)
set_option maxRecDepth 65536 in
theorem w_c1 : (Jvm.Cond.code ({ cls := "com/example/prudent_spot/prudentspot/replay/OutcomeSavingPinLaw", name := "s", desc := "(JJ)D" } : Jvm.MethodName) method_2_code (4 : Nat) (Option.some Jvm.ClassFile.FieldType.double)).before args0 about1 = true := code_word (m := ⟨1, 1⟩) (meth := k1m1) (c := k1c1) (by decide +kernel) rfl rfl rfl (by decide +kernel)
set_option maxRecDepth 65536 in
theorem w_c2 : (Jvm.Cond.code ({ cls := "com/example/prudent_spot/prudentspot/replay/Outcome", name := "<init>", desc := "(Ljava/lang/String;JDDJDD)V" } : Jvm.MethodName) prog_21_method_1_code (14 : Nat) (Option.none : Option Jvm.ClassFile.FieldType)).before args0 about1 = true := code_word (m := ⟨2, 0⟩) (meth := k2m0) (c := k2c0) (by decide +kernel) rfl rfl rfl (by decide +kernel)
set_option maxRecDepth 65536 in
theorem w_c3 : (Jvm.Cond.code ({ cls := "java/lang/Object", name := "<init>", desc := "()V" } : Jvm.MethodName) object_method_1_code (1 : Nat) (Option.none : Option Jvm.ClassFile.FieldType)).before args0 about1 = true := code_word (m := ⟨0, 0⟩) (meth := k0m0) (c := k0c0) (by decide +kernel) rfl rfl rfl (by decide +kernel)
set_option maxRecDepth 65536 in
theorem w_c4 : (Jvm.Cond.code ({ cls := "com/example/prudent_spot/prudentspot/replay/Outcome", name := "saving", desc := "()D" } : Jvm.MethodName) prog_21_method_6_code (1 : Nat) (Option.some Jvm.ClassFile.FieldType.double)).before args0 about1 = true := code_word (m := ⟨2, 1⟩) (meth := k2m1) (c := k2c1) (by decide +kernel) rfl rfl rfl (by decide +kernel)
def codes1 : List Jvm.Cond := [Jvm.Cond.code x code maxLocals ret, Jvm.Cond.code ({ cls := "com/example/prudent_spot/prudentspot/replay/OutcomeSavingPinLaw", name := "s", desc := "(JJ)D" } : Jvm.MethodName) method_2_code (4 : Nat) (Option.some Jvm.ClassFile.FieldType.double), Jvm.Cond.code ({ cls := "com/example/prudent_spot/prudentspot/replay/Outcome", name := "<init>", desc := "(Ljava/lang/String;JDDJDD)V" } : Jvm.MethodName) prog_21_method_1_code (14 : Nat) (Option.none : Option Jvm.ClassFile.FieldType), Jvm.Cond.code ({ cls := "java/lang/Object", name := "<init>", desc := "()V" } : Jvm.MethodName) object_method_1_code (1 : Nat) (Option.none : Option Jvm.ClassFile.FieldType), Jvm.Cond.code ({ cls := "com/example/prudent_spot/prudentspot/replay/Outcome", name := "saving", desc := "()D" } : Jvm.MethodName) prog_21_method_6_code (1 : Nat) (Option.some Jvm.ClassFile.FieldType.double)]
set_option maxRecDepth 65536 in
theorem codes_eq : words1.filter isCode = codes1 := rfl
theorem w_codes : ∀ c ∈ words1.filter isCode, c.before args0 about1 = true := by
  rw [codes_eq]
  intro c hc
  simp only [codes1, List.mem_cons, List.not_mem_nil, or_false] at hc
  rcases hc with rfl | rfl | rfl | rfl | rfl
  · exact w_c0
  · exact w_c1
  · exact w_c2
  · exact w_c3
  · exact w_c4
set_option maxRecDepth 65536 in
theorem w_t1 : (words1.take 24).all (fun c => isCode c || c.before args0 about1) = true := by decide +kernel
set_option maxRecDepth 65536 in
theorem w_t2 : (words1.drop 24).all (fun c => isCode c || c.before args0 about1) = true := by decide +kernel
theorem w_tables : (allAtoms (Jvm.Cond.code x code maxLocals ret :: tables_1)).before args0 about1 = true := by
  rw [allAtoms_all]
  show words1.all (fun c => c.before args0 about1) = true
  refine all_split ?_ w_codes
  rw [← List.take_append_drop 24 words1, List.all_append, w_t1, w_t2]
  rfl
set_option maxRecDepth 65536 in
theorem w_case : (Jvm.Cond.and given_1 narrow_1).before args0 about1 = true := by decide +kernel
theorem w_applies : (headSpec (Jvm.Cond.code x code maxLocals ret :: tables_1) room_1).applies x e0.platform about1 = true :=
  (Spec.applies_iff w_frames).mpr ⟨w_running, w_runnable, w_alone, w_named, w_hears, w_ripe, w_room, w_tables⟩
theorem atStart : AtStart classFile x code maxLocals ret World_1 tables_1 room_1 Calls_1 rest_1 Pre_1 launch0 p0 e0 about1 theMethod args0 below0 :=
  ⟨lists_1, trivial, launch0.admits_env _ _ _, launch0.least_env, fairChoices_fair.cas, fairChoices_fair.clock, w_frames, w_args, w_heap, w_applies, trivial, trivial, w_case⟩
end start1
theorem witness_1 : WitnessClaimed_1 := ⟨start1.p0, start1.e0, start1.about1, start1.theMethod, start1.args0, start1.below0, start1.atStart⟩
end Jvm.Pilot.@@N@@
