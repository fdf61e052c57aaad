import JvmDerived
import JvmDerived.Pilot.@@N@@Statement
import JvmDerived.Pilot.@@N@@Code
set_option linter.unusedVariables false
set_option linter.unusedSimpArgs false
@@BLOCK:NumsL.lean.txt@@
namespace Jvm.RoadKit
open Sem ClassFile Op Lib Jvm.Stand Jvm.Free Jvm.LawKit
section New
variable {p : Program} {l : Launch} {e : Env} {R : Room} {s : State} {m : MethodId} {args : Array Value} {below : List Frame} {meth : Method} {c : Code} {T : State} {locs : List Loc} {cells slots : Nat}
theorem retI (X : Stand p l e R s m args below meth c T locs cells slots) (hx : p.tables.exec = Jvm.exec) {pc : Nat} {Ls : Array Slot} {z : Int32} {rest : List Value} (hret : meth.sig.returnType = some .int) (hd : decode c.code pc = .ok (.ireturn, 1)) {fs : List Frame}
    (hl : ∀ (f : JFrame) (acts : List Action), f.method = m → f.locked = none → f.entered = [] → (doReturn e (T.setTop f) acts (some (.int z))).1 = T.setFrames fs) : Steps p.tables e below (T.setTop (mkF m pc Ls (.int z :: rest))) (T.setFrames fs) := by
  have hm' : T.vm.method? m = some meth := X.method'
  have hn : narrow .int (.int z) = .int z := rfl
  show Steps p.tables e below (T.setTop { method := m, pc := pc, locals := Ls, stack := _ :: rest, locked := none }) _
  jvm_step X.here [X.here.top, hx, hd, hm', hret, hn]
  first | (intro acts; rw [hl _ acts rfl rfl rfl]) | rw [hl _ _ rfl rfl rfl]
  exact Steps.refl _
end New
theorem own_sta_keep {Z : State} {h h' : Heap} {C n d : String} {v : Value} {ws : List Addr} (F : Sta Z h C n d v) (K : Keep h h' ws) (q : ∀ x ∈ ws, ∀ cell : Cell, h[x]? = some cell → cell.vm.isStatics = false) : Sta Z h' C n d v := by
  obtain ⟨cf, i, k, f, st, cell, h1, h2, h3, h4, h5, h6, h7⟩ := F
  exact ⟨cf, i, k, f, st, cell, h1, h2, h3, h4, K.2.1 st cell h5 (fun hm => by rw [q st hm cell h5] at h6; cases h6), h6, h7⟩
/-- a class that is none of the interfaces -/
def NoFace (Z : State) (N : String) : Prop := ∃ (c : ClassId) (k : Class), Z.vm.findClass N = some c ∧ Z.vm.classes[c]? = some k ∧ k.isInterface = false
theorem own_noface {Z : State} {a0 : Array Value} {C : String} {y : MethodName} (w : (Cond.selects C y y).before a0 Z = true) : NoFace Z y.cls := by
  obtain ⟨c2, r2, m2, q1, q2, q3, q4, kP, hkP, hkPi⟩ := Cond.selects_spec w
  exact ⟨m2.cls, kP, findClass_of_methodNamed q3, hkP, hkPi⟩
theorem own_same {Z : State} {a0 : Array Value} {y : MethodName} (F : NoFace Z y.cls) (wi : (Cond.instanceMethod y).before a0 Z = true) (hy : y.cls ≠ "java/lang/invoke/MethodHandle" ∧ y.cls ≠ "java/lang/invoke/VarHandle") : (Cond.sameMethod y.cls y.cls y.name y.desc).before a0 Z = true := by
  obtain ⟨c, k, h1, h2, h3⟩ := F
  obtain ⟨mk, methM, hnamed, hmethM, -, -⟩ := Cond.instanceMethod_spec wi
  have hfound : Z.methodFound? y.cls y.name y.desc = some mk := State.methodFound?_of_named hnamed hy
  have hn : Z.methodNamed? ⟨y.cls, y.name, y.desc⟩ = some mk := hnamed
  simp only [Cond.before, Cond.holds, Cond.value, h1, hfound, hn, h2]
  simp; exact h3
theorem own_psel {Z : State} {a0 : Array Value} {y : MethodName} (F : NoFace Z y.cls) (wi : (Cond.instanceMethod y).before a0 Z = true) (wp : (Cond.privateMethod y).before a0 Z = true) (hy : y.cls ≠ "java/lang/invoke/MethodHandle" ∧ y.cls ≠ "java/lang/invoke/VarHandle") : (Cond.selects y.cls y y).before a0 Z = true := by
  obtain ⟨c, k, h1, h2, h3⟩ := F
  exact selects_self_of_private h1 h2 h3 (Cond.privateMethod_at wp) wi hy
/-- from A the run goes on as from B -/
def Rch (tb : Tables) (e : Env) (below : List Frame) (A B : State) : Prop := ∀ t, Steps tb e below B t → Steps tb e below A t
end Jvm.RoadKit
namespace Jvm.Pilot.@@N@@
open Jvm Jvm.ClassFile Sem Op Lib Jvm.Free Jvm.Stand Jvm.LawKit Jvm.RoadKit Bundle Jvm.Pilot.@@N@@.Jvm.D
open Jvm.FP.Core in
theorem own_qmin : b64.qmin = -1074 := by decide
open Jvm.FP.Core in
theorem own_qmax : b64.qmax = 971 := by decide
open Jvm.FP.Core in
theorem own_tails : b64.tails = 4503599627370496 := by decide +kernel
open Jvm.FP.Core in
/-- the quotient of a long of 53 digits by a power of two is exact -/
theorem own_q {x : Int64} (hx : Small53 x) {W : UInt64} {r : Int} (hr1 : -100 ≤ r) (hr2 : r ≤ 100) (hW : val64 W = .fin false 4503599627370496 r) :
    (∃ s c q, val64 (ddiv (l2d x) W) = .fin s c q) ∧ zval b64 (val64 (ddiv (l2d x) W)) = x.toInt * ((2 ^ (1022 - r).toNat : Nat) : Int) := by
  obtain ⟨c, q, hv⟩ := l2d_shape x
  have hwh := l2d_whole hx
  have hf := val64_fits (l2d x)
  rw [hv] at hwh hf
  obtain ⟨hc, hq1, hq2, hcan⟩ := hf
  have hwh : signed (decide (x.toInt < 0)) (c * 2 ^ q.toNat) = x.toInt * ((2 ^ (-q).toNat : Nat) : Int) := hwh
  rw [val64_ddiv, hv, hW]
  generalize hs : decide (x.toInt < 0) = s at *
  have hquo : quotient b64 (.fin s c q) (.fin false 4503599627370496 r) = roundRatio b64 s c 4503599627370496 (q - r) := by
    simp only [quotient]
    rw [if_neg (by decide)]; cases s <;> rfl
  rw [hquo]
  by_cases hc0 : c = 0
  · subst hc0
    have hx0 : x.toInt = 0 := by
      rw [Nat.zero_mul, signed_zero] at hwh
      rcases Int.mul_eq_zero.mp hwh.symm with h | h
      · exact h
      · have : 0 < 2 ^ (-q).toNat := Nat.two_pow_pos _
        omega
    have e0 : roundRatio b64 s 0 4503599627370496 (q - r) = .fin s 0 b64.qmin := rfl
    rw [e0, hx0, Int.zero_mul]
    refine ⟨⟨_, _, _, rfl⟩, ?_⟩
    show signed s (inUnits 0 b64.qmin b64.qmin) = 0
    unfold inUnits; rw [Nat.zero_mul, signed_zero]
  · rw [own_qmin] at hq1 hcan
    rw [own_qmax] at hq2
    rw [own_tails] at hcan
    have hp : b64.p = 53 := rfl
    rw [hp] at hc
    have hqb : -53 < q := by
      apply Classical.byContradiction; intro hn
      have e1 : q.toNat = 0 := by omega
      rw [e1, Nat.pow_zero, Nat.mul_one] at hwh
      have hx1 : x.toInt ≠ 0 := fun h => by
        rw [h, Int.zero_mul, signed_eq_zero] at hwh; exact hc0 hwh
      have ha := congrArg Int.natAbs hwh
      rw [natAbs_signed, Int.natAbs_mul, Int.natAbs_natCast] at ha
      have h1 : 1 ≤ x.toInt.natAbs := by omega
      have h2 : 2 ^ 53 ≤ 2 ^ (-q).toNat := Nat.pow_le_pow_right (by decide) (by omega)
      have h3 : 1 * 2 ^ (-q).toNat ≤ x.toInt.natAbs * 2 ^ (-q).toNat := Nat.mul_le_mul_right _ h1
      omega
    have hfit : Jvm.FP.Core.fits b64 (.fin s c (q - r - 52)) := by
      refine ⟨by rw [hp]; exact hc, ?_, ?_, Or.inr ?_⟩
      · rw [own_qmin]; omega
      · rw [own_qmax]
        have hqx : q ≤ 64 := by
          apply Classical.byContradiction; intro hn
          have e1 : (-q).toNat = 0 := by omega
          rw [e1] at hwh
          have ha := congrArg Int.natAbs hwh
          rw [natAbs_signed, Int.natAbs_mul, Int.natAbs_natCast] at ha
          have h2 : 2 ^ 64 ≤ 2 ^ q.toNat := Nat.pow_le_pow_right (by decide) (by omega)
          have h3 : 1 * 2 ^ q.toNat ≤ c * 2 ^ q.toNat := Nat.mul_le_mul_right _ (by omega)
          have h4 : x.toInt.natAbs < 2 ^ 64 := by have := hx.1; have := hx.2; omega
          simp at ha
          omega
        omega
      · rw [own_tails]; omega
    have hrr := roundRatio_exact good_b64 (s := s) (A := c) (B := 4503599627370496) (c := c) (e := q - r) (q := q - r - 52) (by decide) hfit (by
      rw [show (q - r - (q - r - 52)).toNat = 52 by omega, show (q - r - 52 - (q - r)).toNat = 0 by omega, Nat.pow_zero, Nat.mul_one])
    rw [hrr]
    refine ⟨⟨_, _, _, rfl⟩, ?_⟩
    show signed s (inUnits c (q - r - 52) b64.qmin) = _
    unfold inUnits
    rw [own_qmin]
    have hk : (q - r - 52 - -1074).toNat + (-q).toNat = q.toNat + (1022 - r).toNat := by omega
    have hpos : (0 : Int) < ((2 ^ (-q).toNat : Nat) : Int) := by have : 0 < 2 ^ (-q).toNat := Nat.two_pow_pos _; omega
    refine Int.eq_of_mul_eq_mul_right (Int.ne_of_gt hpos) ?_
    rw [← signed_mul, Nat.mul_assoc, ← Nat.pow_add, hk, Nat.pow_add, ← Nat.mul_assoc, signed_mul, hwh, Int.mul_assoc, Int.mul_assoc, Int.mul_comm ((2 ^ (-q).toNat : Nat) : Int)]

open Jvm.FP.Core in
theorem own_sumfin {x y : UInt64} (hx : ∃ s c q, val64 x = .fin s c q) (hy : ∃ s c q, val64 y = .fin s c q) : val64 (dadd x y) ≠ .nan := by
  obtain ⟨s, c, q, h1⟩ := hx
  obtain ⟨t, d, r, h2⟩ := hy
  rw [val64_dadd, h1, h2]
  show roundRatio b64 _ _ 1 _ ≠ .nan
  unfold roundRatio
  split
  · intro h; cases h
  · unfold roundAt settle bound
    split <;> split <;> (intro h; cases h)
open Jvm.FP.Core in
theorem own_eps : (∃ s c q, val64 4427486594234968593 = .fin s c q) ∧ ((1125 : Int) * ((2 ^ 1024 : Nat) : Int) ≤ zval b64 (val64 4427486594234968593)) ∧ zval b64 (val64 4427486594234968593) ≤ (36029 : Int) * ((2 ^ 1019 : Nat) : Int) := by
  have e : val64 4427486594234968593 = .fin false 4951760157141521 (-92) := by decide +kernel
  rw [e]
  refine ⟨⟨_, _, _, rfl⟩, ?_, ?_⟩
  · show _ ≤ signed false (inUnits 4951760157141521 (-92) b64.qmin)
    decide +kernel
  · show signed false (inUnits 4951760157141521 (-92) b64.qmin) ≤ _
    decide +kernel
open Jvm.FP.Core in
/-- w = a / 2^50 against o + 1e-12, o = b / 2^50 -/
theorem own_cmp {a b b1 b2 : Int64} (ha : Small53 a) (hb : Small53 b) (h1 : Small53 b1) (h2 : Small53 b2) (e1 : b1.toInt = b.toInt + 1125) (e2 : b2.toInt = 32 * b.toInt + 36029) :
    (dcmp (ddiv (l2d a) 4832362400168542208) (dadd (ddiv (l2d b) 4832362400168542208) 4427486594234968593) = some .gt ↔ b.toInt + 1126 ≤ a.toInt) := by
  have W50 : val64 4832362400168542208 = .fin false 4503599627370496 (-2) := by decide +kernel
  have W55 : val64 4854880398305394688 = .fin false 4503599627370496 3 := by decide +kernel
  obtain ⟨fa, za⟩ := own_q ha (by decide) (by decide) W50
  obtain ⟨fb, zb⟩ := own_q hb (by decide) (by decide) W50
  obtain ⟨f1, z1⟩ := own_q h1 (by decide) (by decide) W50
  obtain ⟨f2, z2⟩ := own_q h2 (by decide) (by decide) W55
  obtain ⟨fe, l1, l2⟩ := own_eps
  have nn : ∀ {x : UInt64}, (∃ s c q, val64 x = .fin s c q) → val64 x ≠ .nan := fun {x} h => by obtain ⟨s, c, q, h⟩ := h; rw [h]; intro k; cases k
  rw [show (1022 - (-2 : Int)).toNat = 1024 from rfl] at za zb z1
  rw [show (1022 - (3 : Int)).toNat = 1019 from rfl] at z2
  have p : ((2 ^ 1024 : Nat) : Int) = 32 * ((2 ^ 1019 : Nat) : Int) := by decide +kernel
  have pp : (0 : Int) < ((2 ^ 1019 : Nat) : Int) := by decide +kernel
  generalize ((2 ^ 1019 : Nat) : Int) = P at *
  rw [p] at za zb z1 l1
  have lo := sum_ge good_b64 fb fe (val64_fits _) (val64_fits _) (val64_fits _) (nn f1) (by rw [z1, zb, e1, Int.add_mul]; omega)
  have hi := sum_le good_b64 fb fe (val64_fits _) (val64_fits _) (val64_fits _) (nn f2) (by rw [z2, zb, e2, Int.add_mul, Int.mul_assoc, Int.mul_left_comm]; omega)
  rw [← val64_dadd] at lo hi
  have o := order_zval good_b64 (val64_fits (ddiv (l2d a) 4832362400168542208)) (val64_fits (dadd (ddiv (l2d b) 4832362400168542208) 4427486594234968593)) (nn fa) (own_sumfin fb fe)
  have o' : dcmp (ddiv (l2d a) 4832362400168542208) (dadd (ddiv (l2d b) 4832362400168542208) 4427486594234968593) = _ := o
  rw [o', compare_ite]
  rw [z1, e1] at lo
  rw [z2, e2] at hi
  rw [za]
  generalize zval b64 (val64 (dadd (ddiv (l2d b) 4832362400168542208) 4427486594234968593)) = Sv at *
  generalize a.toInt = A at *
  generalize b.toInt = D at *
  constructor
  · intro h
    apply Classical.byContradiction; intro hn
    have : A * (32 * P) ≤ (D + 1125) * (32 * P) := Int.mul_le_mul_of_nonneg_right (by omega) (by omega)
    by_cases c1 : A * (32 * P) < Sv
    · rw [if_pos c1] at h; cases h
    · by_cases c2 : A * (32 * P) = Sv
      · rw [if_neg c1, if_pos c2] at h; cases h
      · omega
  · intro h
    have k1 : (D + 1126) * (32 * P) ≤ A * (32 * P) := Int.mul_le_mul_of_nonneg_right h (by omega)
    have k2 : (D + 1126) * (32 * P) = (32 * D + 36029) * P + 3 * P := by
      rw [← Int.mul_assoc, ← Int.add_mul]; congr 1; omega
    rw [if_neg (by omega), if_neg (by omega)]
def cpr (w o : UInt64) : Int32 := if (0 : Int32) < cmpValue (FP.dcmp w (FP.dadd o (4427486594234968593 : UInt64))) .l then 1 else if (0 : Int32) < cmpValue (FP.dcmp o (FP.dadd w (4427486594234968593 : UInt64))) .l then -1 else 0
def sgn1 (x : Int32) : Int32 := if (0 : Int32) < x then 1 else if x < 0 then -1 else 0
theorem own_gt (r : Option Ordering) : (0 : Int32) < cmpValue r .l ↔ r = some .gt := by rcases r with _ | (_ | _ | _) <;> decide
theorem own_nq {x : Int64} (hx : Jvm.FP.Core.Small53 x) : Jvm.Free.Fl.NoNaN64 (FP.ddiv (FP.l2d x) (4832362400168542208 : UInt64)) := by
  obtain ⟨⟨s, c, q, h⟩, -⟩ := own_q hx (W := (4832362400168542208 : UInt64)) (r := -2) (by decide) (by decide) (by decide +kernel)
  exact Jvm.Free.Fl.noNaN64_no.mpr ((Jvm.FP.Core.notNaN_iff _).mpr (by intro k; exact absurd (h.symm.trans k) (by intro z; cases z)))
theorem own_ns {x : Int64} (hx : Jvm.FP.Core.Small53 x) : Jvm.Free.Fl.NoNaN64 (FP.dadd (FP.ddiv (FP.l2d x) (4832362400168542208 : UInt64)) (4427486594234968593 : UInt64)) :=
  Jvm.Free.Fl.noNaN64_no.mpr ((Jvm.FP.Core.notNaN_iff _).mpr (own_sumfin (own_q hx (W := (4832362400168542208 : UInt64)) (r := -2) (by decide) (by decide) (by decide +kernel)).1 own_eps.1))
theorem own_b {a : Int32} : a.toInt64.toInt = a.toInt := Int32.toInt_toInt64 a
theorem own_sm (a : Int32) : Jvm.FP.Core.Small53 a.toInt64 := by
  have h1 := a.toInt_lt; have h2 := a.le_toInt
  unfold Jvm.FP.Core.Small53; rw [own_b]; omega
theorem own_ot {a b d c : Int32} {ot : Int64} (h : ot = (if c = (0 : Int32) then ((a.toInt64) + ((d % (4096 : Int32)).toInt64)) else (b.toInt64))) : -4294967296 ≤ ot.toInt ∧ ot.toInt ≤ 4294967296 := by
  have a1 := a.toInt_lt; have a2 := a.le_toInt
  have b1 := b.toInt_lt; have b2 := b.le_toInt
  have d1 := (d % (4096 : Int32)).toInt_lt; have d2 := (d % (4096 : Int32)).le_toInt
  subst h
  split
  · have e : ((a.toInt64) + ((d % (4096 : Int32)).toInt64)).toInt = a.toInt + (d % (4096 : Int32)).toInt := by
      rw [← own_b (a := a), ← own_b (a := d % (4096 : Int32))]; exact Jvm.Kit.i64_add (by rw [own_b, own_b]; omega) (by rw [own_b, own_b]; omega)
    rw [e]; omega
  · rw [own_b]; omega
/-- compare's answer in whole numbers -/
theorem own_cpr {a b : Int64} (ha : -4294967296 ≤ a.toInt ∧ a.toInt ≤ 4294967296) (hb : -4294967296 ≤ b.toInt ∧ b.toInt ≤ 4294967296) : cpr (FP.ddiv (FP.l2d a) (4832362400168542208 : UInt64)) (FP.ddiv (FP.l2d b) (4832362400168542208 : UInt64)) = if b.toInt + 1126 ≤ a.toInt then 1 else if a.toInt + 1126 ≤ b.toInt then -1 else 0 := by
  have k : ∀ v : Int, -9007199254740992 < v → v < 9007199254740992 → (Int64.ofInt v).toInt = v := fun v h1 h2 => by rw [Int64.toInt_ofInt_of_le (by omega) (by omega)]
  have sm : ∀ v : Int, -9007199254740992 < v → v < 9007199254740992 → Jvm.FP.Core.Small53 (Int64.ofInt v) := fun v h1 h2 => by unfold Jvm.FP.Core.Small53; rw [k v h1 h2]; exact ⟨h1, h2⟩
  have sa : Jvm.FP.Core.Small53 a := ⟨by omega, by omega⟩
  have sb : Jvm.FP.Core.Small53 b := ⟨by omega, by omega⟩
  have c1 := own_cmp sa sb (sm (b.toInt + 1125) (by omega) (by omega)) (sm (32 * b.toInt + 36029) (by omega) (by omega)) (k _ (by omega) (by omega)) (k _ (by omega) (by omega))
  have c2 := own_cmp sb sa (sm (a.toInt + 1125) (by omega) (by omega)) (sm (32 * a.toInt + 36029) (by omega) (by omega)) (k _ (by omega) (by omega)) (k _ (by omega) (by omega))
  have g1 := (own_gt (FP.dcmp (FP.ddiv (FP.l2d a) (4832362400168542208 : UInt64)) (FP.dadd (FP.ddiv (FP.l2d b) (4832362400168542208 : UInt64)) (4427486594234968593 : UInt64)))).trans c1
  have g2 := (own_gt (FP.dcmp (FP.ddiv (FP.l2d b) (4832362400168542208 : UInt64)) (FP.dadd (FP.ddiv (FP.l2d a) (4832362400168542208 : UInt64)) (4427486594234968593 : UInt64)))).trans c2
  unfold cpr
  by_cases h1 : b.toInt + 1126 ≤ a.toInt
  · rw [if_pos (g1.mpr h1), if_pos h1]
  · rw [if_neg (fun q => h1 (g1.mp q)), if_neg h1]
    by_cases h2 : a.toInt + 1126 ≤ b.toInt
    · rw [if_pos (g2.mpr h2), if_pos h2]
    · rw [if_neg (fun q => h2 (g2.mp q)), if_neg h2]
theorem own_law {p : Int32} {ot : Int64} {ex : Int32} (ho : -4294967296 ≤ ot.toInt ∧ ot.toInt ≤ 4294967296) (h : ex = (if (XT.cmpL ((p.toInt64) - ot) (1126 : Int64)) < (0 : Int32) then (if (0 : Int32) < (XT.cmpL ((p.toInt64) - ot) (-1126 : Int64)) then (0 : Int32) else (-1 : Int32)) else (1 : Int32))) :
    (sgn1 (cpr (FP.ddiv (FP.l2d p.toInt64) (4832362400168542208 : UInt64)) (FP.ddiv (FP.l2d ot) (4832362400168542208 : UInt64)))) = ex := by
  have p1 := p.toInt_lt; have p2 := p.le_toInt
  have ed : ((p.toInt64) - ot).toInt = p.toInt - ot.toInt := by rw [← own_b (a := p)]; exact Jvm.Kit.i64_sub (by rw [own_b]; omega) (by rw [own_b]; omega)
  rw [own_cpr (by rw [own_b]; omega) ⟨by omega, by omega⟩, own_b, h]
  have k1 : (1126 : Int64).toInt = 1126 := by decide
  have k2 : (-1126 : Int64).toInt = -1126 := by decide
  have l1 : (XT.cmpL ((p.toInt64) - ot) (1126 : Int64)) < (0 : Int32) ↔ p.toInt - ot.toInt < 1126 := by
    unfold XT.cmpL
    simp only [Int64.lt_iff_toInt_lt, ← Int64.toInt_inj, ed, k1]
    by_cases q1 : 1126 < p.toInt - ot.toInt
    · rw [if_pos q1]; constructor
      · intro z; exact absurd z (by decide)
      · omega
    · rw [if_neg q1]
      by_cases q2 : p.toInt - ot.toInt = 1126
      · rw [if_pos q2]; constructor
        · intro z; exact absurd z (by decide)
        · omega
      · rw [if_neg q2]; constructor
        · intro; omega
        · intro; decide
  have l2 : (0 : Int32) < (XT.cmpL ((p.toInt64) - ot) (-1126 : Int64)) ↔ -1126 < p.toInt - ot.toInt := by
    unfold XT.cmpL
    simp only [Int64.lt_iff_toInt_lt, ← Int64.toInt_inj, ed, k2]
    by_cases q1 : -1126 < p.toInt - ot.toInt
    · rw [if_pos q1]; constructor
      · intro; exact q1
      · intro; decide
    · rw [if_neg q1]
      by_cases q2 : p.toInt - ot.toInt = -1126
      · rw [if_pos q2]; constructor
        · intro z; exact absurd z (by decide)
        · omega
      · rw [if_neg q2]; constructor
        · intro z; exact absurd z (by decide)
        · omega
  by_cases h1 : ot.toInt + 1126 ≤ p.toInt
  · rw [if_pos h1, if_neg (fun q => absurd (l1.mp q) (by omega))]; decide
  · rw [if_neg h1, if_pos (l1.mpr (by omega))]
    by_cases h2 : p.toInt + 1126 ≤ ot.toInt
    · rw [if_pos h2, if_neg (fun q => absurd (l2.mp q) (by omega))]; decide
    · rw [if_neg h2, if_pos (l2.mpr (by omega))]; decide
theorem d1_0 : decode prog_34_method_4_code 0 = .ok (.dload_n 0, 1) := by decide +kernel
theorem d1_1 : decode prog_34_method_4_code 1 = .ok (.dload_n 2, 1) := by decide +kernel
theorem d1_2 : decode prog_34_method_4_code 2 = .ok (.ldc2_w 29, 3) := by decide +kernel
theorem d1_5 : decode prog_34_method_4_code 5 = .ok (.dadd, 1) := by decide +kernel
theorem d1_6 : decode prog_34_method_4_code 6 = .ok (.dcmp .l, 1) := by decide +kernel
theorem d1_7 : decode prog_34_method_4_code 7 = .ok (.ifCond .le 9, 3) := by decide +kernel
theorem d1_10 : decode prog_34_method_4_code 10 = .ok (.iconst 1, 1) := by decide +kernel
theorem d1_11 : decode prog_34_method_4_code 11 = .ok (.istore 4, 2) := by decide +kernel
theorem d1_13 : decode prog_34_method_4_code 13 = .ok (.goto 22, 3) := by decide +kernel
theorem d1_35 : decode prog_34_method_4_code 35 = .ok (.iload 4, 2) := by decide +kernel
theorem d1_37 : decode prog_34_method_4_code 37 = .ok (.ireturn, 1) := by decide +kernel
theorem d1_16 : decode prog_34_method_4_code 16 = .ok (.dload_n 2, 1) := by decide +kernel
theorem d1_17 : decode prog_34_method_4_code 17 = .ok (.dload_n 0, 1) := by decide +kernel
theorem d1_18 : decode prog_34_method_4_code 18 = .ok (.ldc2_w 29, 3) := by decide +kernel
theorem d1_21 : decode prog_34_method_4_code 21 = .ok (.dadd, 1) := by decide +kernel
theorem d1_22 : decode prog_34_method_4_code 22 = .ok (.dcmp .l, 1) := by decide +kernel
theorem d1_23 : decode prog_34_method_4_code 23 = .ok (.ifCond .le 9, 3) := by decide +kernel
theorem d1_26 : decode prog_34_method_4_code 26 = .ok (.iconst (-1), 1) := by decide +kernel
theorem d1_27 : decode prog_34_method_4_code 27 = .ok (.istore 4, 2) := by decide +kernel
theorem d1_29 : decode prog_34_method_4_code 29 = .ok (.goto 6, 3) := by decide +kernel
theorem d1_32 : decode prog_34_method_4_code 32 = .ok (.iconst 0, 1) := by decide +kernel
theorem d1_33 : decode prog_34_method_4_code 33 = .ok (.istore 4, 2) := by decide +kernel
theorem pn_0 : plainName "com/example/anonimato/anonimato/method/ClassEntropy" = true := by first | (simp [plainName, overriddenIn]; done) | decide +kernel
theorem ef_cp (m : MethodId) (x0 : UInt64) (x1 : UInt64) : entryFrame m #[(.double x0), (.double x1)] 5 = mkF m 0 #[.val (.double x0), .second, .val (.double x1), .second, .unset] [] := by first | (simp [entryFrame, mkF, argsToLocals, Value.category]; done) | rfl
def Qcp (Z : State) (w : UInt64) (o : UInt64) (h0 : Heap) (n0 : Nat) (v : Option Value) (h : Heap) (L : List Loc) : Prop := v = some (.int (cpr w o)) ∧ Fr n0 L ∧ h = h0
set_option maxRecDepth 65536 in
set_option maxHeartbeats 40000000 in
theorem rmcp (l : Launch) (Z : State) (a0 : Array Value) (hw : ∀ d ∈ tables_1, d.before a0 Z = true) (ws : List Jvm.Cond) (w : UInt64) (o : UInt64) (h0 : Heap) (n0 : Nat) (Z0 : n0 ≤ h0.size) (n1 : Jvm.Free.Fl.NoNaN64 (FP.dadd o (4427486594234968593 : UInt64))) (n2 : Jvm.Free.Fl.NoNaN64 (FP.dadd w (4427486594234968593 : UInt64))) :
    MetFree l (⟨"com/example/anonimato/anonimato/method/ClassEntropy", "compare", "(DD)I"⟩ : MethodName) (head1 (Jvm.Cond.code (⟨"com/example/anonimato/anonimato/method/ClassEntropy", "compare", "(DD)I"⟩ : MethodName) prog_34_method_4_code 5 (some .int) :: ws) ({ frames := 0, cells := 0, slots := 0, locals := 0 } : Room)) (fun aA U => aA = #[(.double w), (.double o)] ∧ Z.Warmed39 U.vm ∧ U.heap = h0) (fun _ _ _ _ _ => True) (fun _ U oO U' => ∃ vV LL, oO = .returned vV ∧ Qcp Z w o h0 n0 vV U'.heap LL ∧ FrameEnd U oO U' LL ({ frames := 0, cells := 0, slots := 0, locals := 0 } : Room).cells ({ frames := 0, cells := 0, slots := 0, locals := 0 } : Room).slots) := by
  refine MetFree.of_bodySF (plainFor_of_name pn_0) hisR ?_
  intro p e s m args below meth c s₁ Bd hml0 hP hK
  obtain ⟨rfl, hZ, hh⟩ := hP
  have hx := Bd.exec
  have hby := Bd.bytes
  have hml : c.maxLocals = 5 := hml0
  have hown : s.vm.findClass "com/example/anonimato/anonimato/method/ClassEntropy" = some m.cls := findClass_of_methodNamed Bd.named
  have hnm := (name_of_methodNamed Bd.named Bd.method).1
  have X0 : Stand p l e ({ frames := 0, cells := 0, slots := 0, locals := 0 } : Room) s m #[(.double w), (.double o)] below meth c s₁ [] 0 0 := Stand.of_body Bd
  have e0 : s₁.heap = h0 := by rw [← hh, Bd.state]; rfl
  have N0 := Fr.nil n0
  have K0 : Keep h0 h0 [] := Keep.refl _ _
  have pre0 : Rch p.tables e below (s₁.setTop (entryFrame m #[(.double w), (.double o)] 5)) (s₁.setTop (mkF m 0 #[.val (.double w), .second, .val (.double o), .second, .unset] [])) := fun tgt ktg => castTop (ef_cp m w o) ktg
  have pre_1 : Rch p.tables e below (s₁.setTop (entryFrame m #[(.double w), (.double o)] 5)) (s₁.setTop (mkF m 7 #[.val (.double w), .second, .val (.double o), .second, .unset] [(.int (cmpValue (FP.dcmp w (FP.dadd o (4427486594234968593 : UInt64))) .l))])) := fun tgt ktg => pre0 tgt (by
    show Steps p.tables e below (s₁.setTop (mkF m 0 #[.val (.double w), .second, .val (.double o), .second, .unset] [])) _
    refine XS.dloadN X0.here hx rfl (hb hby d1_0) rfl ?_
    show Steps p.tables e below (s₁.setTop (mkF m 1 #[.val (.double w), .second, .val (.double o), .second, .unset] [(.double w)])) _
    refine XS.dloadN X0.here hx rfl (hb hby d1_1) rfl ?_
    show Steps p.tables e below (s₁.setTop (mkF m 2 #[.val (.double w), .second, .val (.double o), .second, .unset] [(.double o), (.double w)])) _
    refine X0.ldc2DoubleC hx hown (mvT hZ (hw _ (List.mem_of_getElem? (i := 7) rfl))) (g := (mkF m 2 #[.val (.double w), .second, .val (.double o), .second, .unset] [(.double o), (.double w)])) rfl (hb hby d1_2) _ ?_
    show Steps p.tables e below (s₁.setTop (mkF m 5 #[.val (.double w), .second, .val (.double o), .second, .unset] [(.double (4427486594234968593 : UInt64)), (.double o), (.double w)])) _
    refine XS.daddS X0.here hx rfl (hb hby d1_5) rfl n1 rfl ?_
    show Steps p.tables e below (s₁.setTop (mkF m 6 #[.val (.double w), .second, .val (.double o), .second, .unset] [(.double (FP.dadd o (4427486594234968593 : UInt64))), (.double w)])) _
    refine XS.dcmpS X0.here hx rfl (hb hby d1_6) rfl rfl ?_
    exact ktg)
  by_cases c_2 : (0 : Int32) < (cmpValue (FP.dcmp w (FP.dadd o (4427486594234968593 : UInt64))) .l)
  · skip
    have pre_3 : Rch p.tables e below (s₁.setTop (entryFrame m #[(.double w), (.double o)] 5)) (s₁.setTop (mkF m 10 #[.val (.double w), .second, .val (.double o), .second, .unset] [])) := fun tgt ktg => pre_1 tgt (by
      show Steps p.tables e below (s₁.setTop (mkF m 7 #[.val (.double w), .second, .val (.double o), .second, .unset] [(.int (cmpValue (FP.dcmp w (FP.dadd o (4427486594234968593 : UInt64))) .l))])) _
      refine XS.ifNo X0.here hx rfl (hb hby d1_7) rfl ((if0 _ _).trans (tlt c_2).2.2.2) ?_
      exact ktg)
    have pre_4 : Rch p.tables e below (s₁.setTop (entryFrame m #[(.double w), (.double o)] 5)) (s₁.setTop (mkF m 37 #[.val (.double w), .second, .val (.double o), .second, .val (.int (1 : Int32))] [(.int (1 : Int32))])) := fun tgt ktg => pre_3 tgt (by
      show Steps p.tables e below (s₁.setTop (mkF m 10 #[.val (.double w), .second, .val (.double o), .second, .unset] [])) _
      refine XS.iconst X0.here hx rfl (hb hby d1_10) ?_
      show Steps p.tables e below (s₁.setTop (mkF m 11 #[.val (.double w), .second, .val (.double o), .second, .unset] [(.int (1 : Int32))])) _
      refine XS.istore X0.here hx rfl (hb hby d1_11) rfl (l' := #[.val (.double w), .second, .val (.double o), .second, .val (.int (1 : Int32))]) rfl ?_
      show Steps p.tables e below (s₁.setTop (mkF m 13 #[.val (.double w), .second, .val (.double o), .second, .val (.int (1 : Int32))] [])) _
      refine XS.goto X0.here hx rfl (pc0 := 13) (pc' := 35) rfl (hb hby d1_13) (by decide) (by decide) ?_
      show Steps p.tables e below (s₁.setTop (mkF m 35 #[.val (.double w), .second, .val (.double o), .second, .val (.int (1 : Int32))] [])) _
      refine XS.iload X0.here hx rfl (hb hby d1_35) rfl ?_
      exact ktg)
    obtain ⟨fs, hr, hrun, hended, hW, hsame⟩ := X0.leave (v := some (.int (1 : Int32))) (fun h => by rw [Bd.returns] at h; cases h)
    refine ⟨_, _, pre_4 _ ?_, hrun, hended, _, _, rfl, ?_, ⟨_, rfl⟩, hW, hsame.mono (by decide) (by decide)⟩
    · show Steps p.tables e below (s₁.setTop (mkF m 37 #[.val (.double w), .second, .val (.double o), .second, .val (.int (1 : Int32))] [(.int (1 : Int32))])) _
      exact retI X0 hx Bd.returns (hb hby d1_37) hr
    · show Qcp Z w o h0 n0 _ s₁.heap _
      rw [e0]
      exact ⟨by unfold cpr; rw [if_pos c_2], N0, rfl⟩
  · skip
    have pre_5 : Rch p.tables e below (s₁.setTop (entryFrame m #[(.double w), (.double o)] 5)) (s₁.setTop (mkF m 16 #[.val (.double w), .second, .val (.double o), .second, .unset] [])) := fun tgt ktg => pre_1 tgt (by
      show Steps p.tables e below (s₁.setTop (mkF m 7 #[.val (.double w), .second, .val (.double o), .second, .unset] [(.int (cmpValue (FP.dcmp w (FP.dadd o (4427486594234968593 : UInt64))) .l))])) _
      refine XS.ifYes X0.here hx rfl (pc0 := 7) (pc' := 16) rfl (hb hby d1_7) rfl ((if0 _ _).trans (flt c_2).2.2.2) (by decide) (by decide) ?_
      exact ktg)
    have pre_6 : Rch p.tables e below (s₁.setTop (entryFrame m #[(.double w), (.double o)] 5)) (s₁.setTop (mkF m 23 #[.val (.double w), .second, .val (.double o), .second, .unset] [(.int (cmpValue (FP.dcmp o (FP.dadd w (4427486594234968593 : UInt64))) .l))])) := fun tgt ktg => pre_5 tgt (by
      show Steps p.tables e below (s₁.setTop (mkF m 16 #[.val (.double w), .second, .val (.double o), .second, .unset] [])) _
      refine XS.dloadN X0.here hx rfl (hb hby d1_16) rfl ?_
      show Steps p.tables e below (s₁.setTop (mkF m 17 #[.val (.double w), .second, .val (.double o), .second, .unset] [(.double o)])) _
      refine XS.dloadN X0.here hx rfl (hb hby d1_17) rfl ?_
      show Steps p.tables e below (s₁.setTop (mkF m 18 #[.val (.double w), .second, .val (.double o), .second, .unset] [(.double w), (.double o)])) _
      refine X0.ldc2DoubleC hx hown (mvT hZ (hw _ (List.mem_of_getElem? (i := 7) rfl))) (g := (mkF m 18 #[.val (.double w), .second, .val (.double o), .second, .unset] [(.double w), (.double o)])) rfl (hb hby d1_18) _ ?_
      show Steps p.tables e below (s₁.setTop (mkF m 21 #[.val (.double w), .second, .val (.double o), .second, .unset] [(.double (4427486594234968593 : UInt64)), (.double w), (.double o)])) _
      refine XS.daddS X0.here hx rfl (hb hby d1_21) rfl n2 rfl ?_
      show Steps p.tables e below (s₁.setTop (mkF m 22 #[.val (.double w), .second, .val (.double o), .second, .unset] [(.double (FP.dadd w (4427486594234968593 : UInt64))), (.double o)])) _
      refine XS.dcmpS X0.here hx rfl (hb hby d1_22) rfl rfl ?_
      exact ktg)
    by_cases c_7 : (0 : Int32) < (cmpValue (FP.dcmp o (FP.dadd w (4427486594234968593 : UInt64))) .l)
    · skip
      have pre_8 : Rch p.tables e below (s₁.setTop (entryFrame m #[(.double w), (.double o)] 5)) (s₁.setTop (mkF m 26 #[.val (.double w), .second, .val (.double o), .second, .unset] [])) := fun tgt ktg => pre_6 tgt (by
        show Steps p.tables e below (s₁.setTop (mkF m 23 #[.val (.double w), .second, .val (.double o), .second, .unset] [(.int (cmpValue (FP.dcmp o (FP.dadd w (4427486594234968593 : UInt64))) .l))])) _
        refine XS.ifNo X0.here hx rfl (hb hby d1_23) rfl ((if0 _ _).trans (tlt c_7).2.2.2) ?_
        exact ktg)
      have pre_9 : Rch p.tables e below (s₁.setTop (entryFrame m #[(.double w), (.double o)] 5)) (s₁.setTop (mkF m 37 #[.val (.double w), .second, .val (.double o), .second, .val (.int (-1 : Int32))] [(.int (-1 : Int32))])) := fun tgt ktg => pre_8 tgt (by
        show Steps p.tables e below (s₁.setTop (mkF m 26 #[.val (.double w), .second, .val (.double o), .second, .unset] [])) _
        refine XS.iconst X0.here hx rfl (hb hby d1_26) ?_
        show Steps p.tables e below (s₁.setTop (mkF m 27 #[.val (.double w), .second, .val (.double o), .second, .unset] [(.int (-1 : Int32))])) _
        refine XS.istore X0.here hx rfl (hb hby d1_27) rfl (l' := #[.val (.double w), .second, .val (.double o), .second, .val (.int (-1 : Int32))]) rfl ?_
        show Steps p.tables e below (s₁.setTop (mkF m 29 #[.val (.double w), .second, .val (.double o), .second, .val (.int (-1 : Int32))] [])) _
        refine XS.goto X0.here hx rfl (pc0 := 29) (pc' := 35) rfl (hb hby d1_29) (by decide) (by decide) ?_
        show Steps p.tables e below (s₁.setTop (mkF m 35 #[.val (.double w), .second, .val (.double o), .second, .val (.int (-1 : Int32))] [])) _
        refine XS.iload X0.here hx rfl (hb hby d1_35) rfl ?_
        exact ktg)
      obtain ⟨fs, hr, hrun, hended, hW, hsame⟩ := X0.leave (v := some (.int (-1 : Int32))) (fun h => by rw [Bd.returns] at h; cases h)
      refine ⟨_, _, pre_9 _ ?_, hrun, hended, _, _, rfl, ?_, ⟨_, rfl⟩, hW, hsame.mono (by decide) (by decide)⟩
      · show Steps p.tables e below (s₁.setTop (mkF m 37 #[.val (.double w), .second, .val (.double o), .second, .val (.int (-1 : Int32))] [(.int (-1 : Int32))])) _
        exact retI X0 hx Bd.returns (hb hby d1_37) hr
      · show Qcp Z w o h0 n0 _ s₁.heap _
        rw [e0]
        exact ⟨by unfold cpr; rw [if_neg c_2, if_pos c_7], N0, rfl⟩
    · skip
      have pre_10 : Rch p.tables e below (s₁.setTop (entryFrame m #[(.double w), (.double o)] 5)) (s₁.setTop (mkF m 32 #[.val (.double w), .second, .val (.double o), .second, .unset] [])) := fun tgt ktg => pre_6 tgt (by
        show Steps p.tables e below (s₁.setTop (mkF m 23 #[.val (.double w), .second, .val (.double o), .second, .unset] [(.int (cmpValue (FP.dcmp o (FP.dadd w (4427486594234968593 : UInt64))) .l))])) _
        refine XS.ifYes X0.here hx rfl (pc0 := 23) (pc' := 32) rfl (hb hby d1_23) rfl ((if0 _ _).trans (flt c_7).2.2.2) (by decide) (by decide) ?_
        exact ktg)
      have pre_11 : Rch p.tables e below (s₁.setTop (entryFrame m #[(.double w), (.double o)] 5)) (s₁.setTop (mkF m 37 #[.val (.double w), .second, .val (.double o), .second, .val (.int (0 : Int32))] [(.int (0 : Int32))])) := fun tgt ktg => pre_10 tgt (by
        show Steps p.tables e below (s₁.setTop (mkF m 32 #[.val (.double w), .second, .val (.double o), .second, .unset] [])) _
        refine XS.iconst X0.here hx rfl (hb hby d1_32) ?_
        show Steps p.tables e below (s₁.setTop (mkF m 33 #[.val (.double w), .second, .val (.double o), .second, .unset] [(.int (0 : Int32))])) _
        refine XS.istore X0.here hx rfl (hb hby d1_33) rfl (l' := #[.val (.double w), .second, .val (.double o), .second, .val (.int (0 : Int32))]) rfl ?_
        show Steps p.tables e below (s₁.setTop (mkF m 35 #[.val (.double w), .second, .val (.double o), .second, .val (.int (0 : Int32))] [])) _
        refine XS.iload X0.here hx rfl (hb hby d1_35) rfl ?_
        exact ktg)
      obtain ⟨fs, hr, hrun, hended, hW, hsame⟩ := X0.leave (v := some (.int (0 : Int32))) (fun h => by rw [Bd.returns] at h; cases h)
      refine ⟨_, _, pre_11 _ ?_, hrun, hended, _, _, rfl, ?_, ⟨_, rfl⟩, hW, hsame.mono (by decide) (by decide)⟩
      · show Steps p.tables e below (s₁.setTop (mkF m 37 #[.val (.double w), .second, .val (.double o), .second, .val (.int (0 : Int32))] [(.int (0 : Int32))])) _
        exact retI X0 hx Bd.returns (hb hby d1_37) hr
      · show Qcp Z w o h0 n0 _ s₁.heap _
        rw [e0]
        exact ⟨by unfold cpr; rw [if_neg c_2, if_neg c_7], N0, rfl⟩
theorem d2_0 : decode method_2_code 0 = .ok (.iload_n 0, 1) := by decide +kernel
theorem d2_1 : decode method_2_code 1 = .ok (.ifCond .le 5, 3) := by decide +kernel
theorem d2_4 : decode method_2_code 4 = .ok (.iconst 1, 1) := by decide +kernel
theorem d2_5 : decode method_2_code 5 = .ok (.ireturn, 1) := by decide +kernel
theorem d2_6 : decode method_2_code 6 = .ok (.iload_n 0, 1) := by decide +kernel
theorem d2_7 : decode method_2_code 7 = .ok (.ifCond .ge 5, 3) := by decide +kernel
theorem d2_10 : decode method_2_code 10 = .ok (.iconst (-1), 1) := by decide +kernel
theorem d2_11 : decode method_2_code 11 = .ok (.ireturn, 1) := by decide +kernel
theorem d2_12 : decode method_2_code 12 = .ok (.iconst 0, 1) := by decide +kernel
theorem d2_13 : decode method_2_code 13 = .ok (.ireturn, 1) := by decide +kernel
theorem pn_1 : plainName "com/example/anonimato/anonimato/method/ClassEntropyComparePinLaw" = true := by first | (simp [plainName, overriddenIn]; done) | decide +kernel
theorem ef_sg (m : MethodId) (x0 : Int32) : entryFrame m #[(.int x0)] 1 = mkF m 0 #[.val (.int x0)] [] := by first | (simp [entryFrame, mkF, argsToLocals, Value.category]; done) | rfl
def Qsg (Z : State) (q : Int32) (h0 : Heap) (n0 : Nat) (v : Option Value) (h : Heap) (L : List Loc) : Prop := v = some (.int (sgn1 q)) ∧ Fr n0 L ∧ h = h0
set_option maxRecDepth 65536 in
set_option maxHeartbeats 40000000 in
theorem rmsg (l : Launch) (Z : State) (a0 : Array Value) (hw : ∀ d ∈ tables_1, d.before a0 Z = true) (ws : List Jvm.Cond) (q : Int32) (h0 : Heap) (n0 : Nat) (Z0 : n0 ≤ h0.size)  :
    MetFree l (⟨"com/example/anonimato/anonimato/method/ClassEntropyComparePinLaw", "sign", "(I)I"⟩ : MethodName) (head1 (Jvm.Cond.code (⟨"com/example/anonimato/anonimato/method/ClassEntropyComparePinLaw", "sign", "(I)I"⟩ : MethodName) method_2_code 1 (some .int) :: ws) ({ frames := 0, cells := 0, slots := 0, locals := 0 } : Room)) (fun aA U => aA = #[(.int q)] ∧ Z.Warmed39 U.vm ∧ U.heap = h0) (fun _ _ _ _ _ => True) (fun _ U oO U' => ∃ vV LL, oO = .returned vV ∧ Qsg Z q h0 n0 vV U'.heap LL ∧ FrameEnd U oO U' LL ({ frames := 0, cells := 0, slots := 0, locals := 0 } : Room).cells ({ frames := 0, cells := 0, slots := 0, locals := 0 } : Room).slots) := by
  refine MetFree.of_bodySF (plainFor_of_name pn_1) hisR ?_
  intro p e s m args below meth c s₁ Bd hml0 hP hK
  obtain ⟨rfl, hZ, hh⟩ := hP
  have hx := Bd.exec
  have hby := Bd.bytes
  have hml : c.maxLocals = 1 := hml0
  have hown : s.vm.findClass "com/example/anonimato/anonimato/method/ClassEntropyComparePinLaw" = some m.cls := findClass_of_methodNamed Bd.named
  have hnm := (name_of_methodNamed Bd.named Bd.method).1
  have X0 : Stand p l e ({ frames := 0, cells := 0, slots := 0, locals := 0 } : Room) s m #[(.int q)] below meth c s₁ [] 0 0 := Stand.of_body Bd
  have e0 : s₁.heap = h0 := by rw [← hh, Bd.state]; rfl
  have N0 := Fr.nil n0
  have K0 : Keep h0 h0 [] := Keep.refl _ _
  have pre0 : Rch p.tables e below (s₁.setTop (entryFrame m #[(.int q)] 1)) (s₁.setTop (mkF m 0 #[.val (.int q)] [])) := fun tgt ktg => castTop (ef_sg m q) ktg
  have pre_1 : Rch p.tables e below (s₁.setTop (entryFrame m #[(.int q)] 1)) (s₁.setTop (mkF m 1 #[.val (.int q)] [(.int q)])) := fun tgt ktg => pre0 tgt (by
    show Steps p.tables e below (s₁.setTop (mkF m 0 #[.val (.int q)] [])) _
    refine XS.iloadN X0.here hx rfl (hb hby d2_0) rfl ?_
    exact ktg)
  by_cases c_2 : (0 : Int32) < q
  · skip
    have pre_3 : Rch p.tables e below (s₁.setTop (entryFrame m #[(.int q)] 1)) (s₁.setTop (mkF m 4 #[.val (.int q)] [])) := fun tgt ktg => pre_1 tgt (by
      show Steps p.tables e below (s₁.setTop (mkF m 1 #[.val (.int q)] [(.int q)])) _
      refine XS.ifNo X0.here hx rfl (hb hby d2_1) rfl ((if0 _ _).trans (tlt c_2).2.2.2) ?_
      exact ktg)
    have pre_4 : Rch p.tables e below (s₁.setTop (entryFrame m #[(.int q)] 1)) (s₁.setTop (mkF m 5 #[.val (.int q)] [(.int (1 : Int32))])) := fun tgt ktg => pre_3 tgt (by
      show Steps p.tables e below (s₁.setTop (mkF m 4 #[.val (.int q)] [])) _
      refine XS.iconst X0.here hx rfl (hb hby d2_4) ?_
      exact ktg)
    obtain ⟨fs, hr, hrun, hended, hW, hsame⟩ := X0.leave (v := some (.int (1 : Int32))) (fun h => by rw [Bd.returns] at h; cases h)
    refine ⟨_, _, pre_4 _ ?_, hrun, hended, _, _, rfl, ?_, ⟨_, rfl⟩, hW, hsame.mono (by decide) (by decide)⟩
    · show Steps p.tables e below (s₁.setTop (mkF m 5 #[.val (.int q)] [(.int (1 : Int32))])) _
      exact retI X0 hx Bd.returns (hb hby d2_5) hr
    · show Qsg Z q h0 n0 _ s₁.heap _
      rw [e0]
      exact ⟨by unfold sgn1; rw [if_pos c_2], N0, rfl⟩
  · skip
    have pre_5 : Rch p.tables e below (s₁.setTop (entryFrame m #[(.int q)] 1)) (s₁.setTop (mkF m 6 #[.val (.int q)] [])) := fun tgt ktg => pre_1 tgt (by
      show Steps p.tables e below (s₁.setTop (mkF m 1 #[.val (.int q)] [(.int q)])) _
      refine XS.ifYes X0.here hx rfl (pc0 := 1) (pc' := 6) rfl (hb hby d2_1) rfl ((if0 _ _).trans (flt c_2).2.2.2) (by decide) (by decide) ?_
      exact ktg)
    have pre_6 : Rch p.tables e below (s₁.setTop (entryFrame m #[(.int q)] 1)) (s₁.setTop (mkF m 7 #[.val (.int q)] [(.int q)])) := fun tgt ktg => pre_5 tgt (by
      show Steps p.tables e below (s₁.setTop (mkF m 6 #[.val (.int q)] [])) _
      refine XS.iloadN X0.here hx rfl (hb hby d2_6) rfl ?_
      exact ktg)
    by_cases c_7 : q < (0 : Int32)
    · skip
      have pre_8 : Rch p.tables e below (s₁.setTop (entryFrame m #[(.int q)] 1)) (s₁.setTop (mkF m 10 #[.val (.int q)] [])) := fun tgt ktg => pre_6 tgt (by
        show Steps p.tables e below (s₁.setTop (mkF m 7 #[.val (.int q)] [(.int q)])) _
        refine XS.ifNo X0.here hx rfl (hb hby d2_7) rfl ((if0 _ _).trans (tlt c_7).2.1) ?_
        exact ktg)
      have pre_9 : Rch p.tables e below (s₁.setTop (entryFrame m #[(.int q)] 1)) (s₁.setTop (mkF m 11 #[.val (.int q)] [(.int (-1 : Int32))])) := fun tgt ktg => pre_8 tgt (by
        show Steps p.tables e below (s₁.setTop (mkF m 10 #[.val (.int q)] [])) _
        refine XS.iconst X0.here hx rfl (hb hby d2_10) ?_
        exact ktg)
      obtain ⟨fs, hr, hrun, hended, hW, hsame⟩ := X0.leave (v := some (.int (-1 : Int32))) (fun h => by rw [Bd.returns] at h; cases h)
      refine ⟨_, _, pre_9 _ ?_, hrun, hended, _, _, rfl, ?_, ⟨_, rfl⟩, hW, hsame.mono (by decide) (by decide)⟩
      · show Steps p.tables e below (s₁.setTop (mkF m 11 #[.val (.int q)] [(.int (-1 : Int32))])) _
        exact retI X0 hx Bd.returns (hb hby d2_11) hr
      · show Qsg Z q h0 n0 _ s₁.heap _
        rw [e0]
        exact ⟨by unfold sgn1; rw [if_neg c_2, if_pos c_7], N0, rfl⟩
    · skip
      have pre_10 : Rch p.tables e below (s₁.setTop (entryFrame m #[(.int q)] 1)) (s₁.setTop (mkF m 12 #[.val (.int q)] [])) := fun tgt ktg => pre_6 tgt (by
        show Steps p.tables e below (s₁.setTop (mkF m 7 #[.val (.int q)] [(.int q)])) _
        refine XS.ifYes X0.here hx rfl (pc0 := 7) (pc' := 12) rfl (hb hby d2_7) rfl ((if0 _ _).trans (flt c_7).2.1) (by decide) (by decide) ?_
        exact ktg)
      have pre_11 : Rch p.tables e below (s₁.setTop (entryFrame m #[(.int q)] 1)) (s₁.setTop (mkF m 13 #[.val (.int q)] [(.int (0 : Int32))])) := fun tgt ktg => pre_10 tgt (by
        show Steps p.tables e below (s₁.setTop (mkF m 12 #[.val (.int q)] [])) _
        refine XS.iconst X0.here hx rfl (hb hby d2_12) ?_
        exact ktg)
      obtain ⟨fs, hr, hrun, hended, hW, hsame⟩ := X0.leave (v := some (.int (0 : Int32))) (fun h => by rw [Bd.returns] at h; cases h)
      refine ⟨_, _, pre_11 _ ?_, hrun, hended, _, _, rfl, ?_, ⟨_, rfl⟩, hW, hsame.mono (by decide) (by decide)⟩
      · show Steps p.tables e below (s₁.setTop (mkF m 13 #[.val (.int q)] [(.int (0 : Int32))])) _
        exact retI X0 hx Bd.returns (hb hby d2_13) hr
      · show Qsg Z q h0 n0 _ s₁.heap _
        rw [e0]
        exact ⟨by unfold sgn1; rw [if_neg c_2, if_neg c_7], N0, rfl⟩
theorem pd_0 : parseMethodDescriptor "(DD)I" = some ⟨[.double, .double], some .int⟩ := by decide +kernel
theorem pd_1 : parseMethodDescriptor "(I)I" = some ⟨[.int], some .int⟩ := by decide +kernel
theorem ef_0 (m : MethodId) (x0 : Int32) (x1 : Int32) (x2 : Int32) (x3 : Int32) : entryFrame m #[(.int x0), (.int x1), (.int x2), (.int x3)] maxLocals = mkF m 0 #[.val (.int x0), .val (.int x1), .val (.int x2), .val (.int x3), .unset, .unset, .unset, .unset, .unset, .unset, .unset, .unset, .unset] [] := by first | (simp [entryFrame, mkF, argsToLocals, Value.category, maxLocals]; done) | rfl
def Q0 (Z : State) (p0 : Int32) (p1 : Int32) (p2 : Int32) (p3 : Int32) (h0 : Heap) (n0 : Nat) (v : Option Value) (h : Heap) (L : List Loc) : Prop := v = some (.int 1) ∧ Fr n0 L
set_option maxRecDepth 65536 in
set_option maxHeartbeats 40000000 in
theorem rm0 (l : Launch) (Z : State) (a0 : Array Value) (hw : ∀ d ∈ tables_1, d.before a0 Z = true) (ws : List Jvm.Cond) (p0 : Int32) (p1 : Int32) (p2 : Int32) (p3 : Int32) (h0 : Heap) (n0 : Nat) (Z0 : n0 ≤ h0.size)  :
    MetFree l x (head1 (Jvm.Cond.code x code maxLocals ret :: ws) room_1) (fun aA U => aA = #[(.int p0), (.int p1), (.int p2), (.int p3)] ∧ Z.Warmed39 U.vm ∧ U.heap = h0) (fun _ _ _ _ _ => True) (fun _ U oO U' => ∃ vV LL, oO = .returned vV ∧ Q0 Z p0 p1 p2 p3 h0 n0 vV U'.heap LL ∧ FrameEnd U oO U' LL room_1.cells room_1.slots) := by
  refine MetFree.of_bodySF (plainFor_of_name pn_1) hisR ?_
  intro p e s m args below meth c s₁ Bd hml0 hP hK
  obtain ⟨rfl, hZ, hh⟩ := hP
  have hx := Bd.exec
  have hby := Bd.bytes
  have hml : c.maxLocals = 13 := hml0
  have hown : s.vm.findClass "com/example/anonimato/anonimato/method/ClassEntropyComparePinLaw" = some m.cls := findClass_of_methodNamed Bd.named
  have hnm := (name_of_methodNamed Bd.named Bd.method).1
  have X0 : Stand p l e room_1 s m #[(.int p0), (.int p1), (.int p2), (.int p3)] below meth c s₁ [] 0 0 := Stand.of_body Bd
  have e0 : s₁.heap = h0 := by rw [← hh, Bd.state]; rfl
  have N0 := Fr.nil n0
  have K0 : Keep h0 h0 [] := Keep.refl _ _
  have pre0 : Rch p.tables e below (s₁.setTop (entryFrame m #[(.int p0), (.int p1), (.int p2), (.int p3)] maxLocals)) (s₁.setTop (mkF m 0 #[.val (.int p0), .val (.int p1), .val (.int p2), .val (.int p3), .unset, .unset, .unset, .unset, .unset, .unset, .unset, .unset, .unset] [])) := fun tgt ktg => castTop (ef_0 m p0 p1 p2 p3) ktg
  have pre_1 : Rch p.tables e below (s₁.setTop (entryFrame m #[(.int p0), (.int p1), (.int p2), (.int p3)] maxLocals)) (s₁.setTop (mkF m 3 #[.val (.int p0), .val (.int p1), .val (.int p2), .val (.int p3), .unset, .unset, .unset, .unset, .unset, .unset, .unset, .unset, .unset] [(.int (p3 &&& (1 : Int32)))])) := fun tgt ktg => pre0 tgt (by
    show Steps p.tables e below (s₁.setTop (mkF m 0 #[.val (.int p0), .val (.int p1), .val (.int p2), .val (.int p3), .unset, .unset, .unset, .unset, .unset, .unset, .unset, .unset, .unset] [])) _
    refine XS.iloadN X0.here hx rfl (hb hby at_0) rfl ?_
    show Steps p.tables e below (s₁.setTop (mkF m 1 #[.val (.int p0), .val (.int p1), .val (.int p2), .val (.int p3), .unset, .unset, .unset, .unset, .unset, .unset, .unset, .unset, .unset] [(.int p3)])) _
    refine XS.iconst X0.here hx rfl (hb hby at_1) ?_
    show Steps p.tables e below (s₁.setTop (mkF m 2 #[.val (.int p0), .val (.int p1), .val (.int p2), .val (.int p3), .unset, .unset, .unset, .unset, .unset, .unset, .unset, .unset, .unset] [(.int (1 : Int32)), (.int p3)])) _
    refine XS.iand X0.here hx rfl (hb hby at_2) rfl ?_
    exact ktg)
  obtain ⟨ot, hv_ot⟩ : ∃ nm_ : Int64, nm_ = (if (p3 &&& (1 : Int32)) = (0 : Int32) then ((p0.toInt64) + ((p2 % (4096 : Int32)).toInt64)) else (p1.toInt64)) := ⟨_, rfl⟩
  have pre_3 : Rch p.tables e below (s₁.setTop (entryFrame m #[(.int p0), (.int p1), (.int p2), (.int p3)] maxLocals)) (s₁.setTop (mkF m 24 #[.val (.int p0), .val (.int p1), .val (.int p2), .val (.int p3), .val (.long ot), .second, .unset, .unset, .unset, .unset, .unset, .unset, .unset] [])) := fun tgt ktg => pre_1 tgt (by
    by_cases q_2 : (p3 &&& (1 : Int32)) = (0 : Int32)
    · skip
      show Steps p.tables e below (s₁.setTop (mkF m 3 #[.val (.int p0), .val (.int p1), .val (.int p2), .val (.int p3), .unset, .unset, .unset, .unset, .unset, .unset, .unset, .unset, .unset] [(.int (p3 &&& (1 : Int32)))])) _
      refine XS.ifYes X0.here hx rfl (pc0 := 3) (pc' := 13) rfl (hb hby at_3) rfl ((if0 _ _).trans (teq q_2).1) (by decide) (by decide) ?_
      show Steps p.tables e below (s₁.setTop (mkF m 13 #[.val (.int p0), .val (.int p1), .val (.int p2), .val (.int p3), .unset, .unset, .unset, .unset, .unset, .unset, .unset, .unset, .unset] [])) _
      refine XS.iloadN X0.here hx rfl (hb hby at_13) rfl ?_
      show Steps p.tables e below (s₁.setTop (mkF m 14 #[.val (.int p0), .val (.int p1), .val (.int p2), .val (.int p3), .unset, .unset, .unset, .unset, .unset, .unset, .unset, .unset, .unset] [(.int p0)])) _
      refine XT.i2l X0.here hx rfl (hb hby at_14) rfl ?_
      show Steps p.tables e below (s₁.setTop (mkF m 15 #[.val (.int p0), .val (.int p1), .val (.int p2), .val (.int p3), .unset, .unset, .unset, .unset, .unset, .unset, .unset, .unset, .unset] [(.long (p0.toInt64))])) _
      refine XS.iloadN X0.here hx rfl (hb hby at_15) rfl ?_
      show Steps p.tables e below (s₁.setTop (mkF m 16 #[.val (.int p0), .val (.int p1), .val (.int p2), .val (.int p3), .unset, .unset, .unset, .unset, .unset, .unset, .unset, .unset, .unset] [(.int p2), (.long (p0.toInt64))])) _
      refine XS.sipush X0.here hx rfl (hb hby at_16) ?_
      show Steps p.tables e below (s₁.setTop (mkF m 19 #[.val (.int p0), .val (.int p1), .val (.int p2), .val (.int p3), .unset, .unset, .unset, .unset, .unset, .unset, .unset, .unset, .unset] [(.int (4096 : Int32)), (.int p2), (.long (p0.toInt64))])) _
      refine iremM (g := (mkF m 19 #[.val (.int p0), .val (.int p1), .val (.int p2), .val (.int p3), .unset, .unset, .unset, .unset, .unset, .unset, .unset, .unset, .unset] [(.int (4096 : Int32)), (.int p2), (.long (p0.toInt64))])) X0 hx rfl (hb hby at_19) rfl (by decide) ?_
      show Steps p.tables e below (s₁.setTop (mkF m 20 #[.val (.int p0), .val (.int p1), .val (.int p2), .val (.int p3), .unset, .unset, .unset, .unset, .unset, .unset, .unset, .unset, .unset] [(.int (p2 % (4096 : Int32))), (.long (p0.toInt64))])) _
      refine XT.i2l X0.here hx rfl (hb hby at_20) rfl ?_
      show Steps p.tables e below (s₁.setTop (mkF m 21 #[.val (.int p0), .val (.int p1), .val (.int p2), .val (.int p3), .unset, .unset, .unset, .unset, .unset, .unset, .unset, .unset, .unset] [(.long ((p2 % (4096 : Int32)).toInt64)), (.long (p0.toInt64))])) _
      refine XT.ladd X0.here hx rfl (hb hby at_21) rfl ?_
      show Steps p.tables e below (s₁.setTop (mkF m 22 #[.val (.int p0), .val (.int p1), .val (.int p2), .val (.int p3), .unset, .unset, .unset, .unset, .unset, .unset, .unset, .unset, .unset] [(.long ((p0.toInt64) + ((p2 % (4096 : Int32)).toInt64)))])) _
      refine XT.lstore X0.here hx rfl (hb hby at_22) rfl (l' := #[.val (.int p0), .val (.int p1), .val (.int p2), .val (.int p3), .val (.long ((p0.toInt64) + ((p2 % (4096 : Int32)).toInt64))), .second, .unset, .unset, .unset, .unset, .unset, .unset, .unset]) rfl ?_
      have ev_ot : ot = ((p0.toInt64) + ((p2 % (4096 : Int32)).toInt64)) := by rw [hv_ot, if_pos q_2]
      rw [ev_ot] at ktg
      exact ktg
    · skip
      show Steps p.tables e below (s₁.setTop (mkF m 3 #[.val (.int p0), .val (.int p1), .val (.int p2), .val (.int p3), .unset, .unset, .unset, .unset, .unset, .unset, .unset, .unset, .unset] [(.int (p3 &&& (1 : Int32)))])) _
      refine XS.ifNo X0.here hx rfl (hb hby at_3) rfl ((if0 _ _).trans (feq q_2).1) ?_
      show Steps p.tables e below (s₁.setTop (mkF m 6 #[.val (.int p0), .val (.int p1), .val (.int p2), .val (.int p3), .unset, .unset, .unset, .unset, .unset, .unset, .unset, .unset, .unset] [])) _
      refine XS.iloadN X0.here hx rfl (hb hby at_6) rfl ?_
      show Steps p.tables e below (s₁.setTop (mkF m 7 #[.val (.int p0), .val (.int p1), .val (.int p2), .val (.int p3), .unset, .unset, .unset, .unset, .unset, .unset, .unset, .unset, .unset] [(.int p1)])) _
      refine XT.i2l X0.here hx rfl (hb hby at_7) rfl ?_
      show Steps p.tables e below (s₁.setTop (mkF m 8 #[.val (.int p0), .val (.int p1), .val (.int p2), .val (.int p3), .unset, .unset, .unset, .unset, .unset, .unset, .unset, .unset, .unset] [(.long (p1.toInt64))])) _
      refine XT.lstore X0.here hx rfl (hb hby at_8) rfl (l' := #[.val (.int p0), .val (.int p1), .val (.int p2), .val (.int p3), .val (.long (p1.toInt64)), .second, .unset, .unset, .unset, .unset, .unset, .unset, .unset]) rfl ?_
      show Steps p.tables e below (s₁.setTop (mkF m 10 #[.val (.int p0), .val (.int p1), .val (.int p2), .val (.int p3), .val (.long (p1.toInt64)), .second, .unset, .unset, .unset, .unset, .unset, .unset, .unset] [])) _
      refine XS.goto X0.here hx rfl (pc0 := 10) (pc' := 24) rfl (hb hby at_10) (by decide) (by decide) ?_
      have ev_ot : ot = (p1.toInt64) := by rw [hv_ot, if_neg q_2]
      rw [ev_ot] at ktg
      exact ktg
    done)
  have ho := own_ot hv_ot
  have pre_4 : Rch p.tables e below (s₁.setTop (entryFrame m #[(.int p0), (.int p1), (.int p2), (.int p3)] maxLocals)) (s₁.setTop (mkF m 25 #[.val (.int p0), .val (.int p1), .val (.int p2), .val (.int p3), .val (.long ot), .second, .unset, .unset, .unset, .unset, .unset, .unset, .unset] [(.int p0)])) := fun tgt ktg => pre_3 tgt (by
    show Steps p.tables e below (s₁.setTop (mkF m 24 #[.val (.int p0), .val (.int p1), .val (.int p2), .val (.int p3), .val (.long ot), .second, .unset, .unset, .unset, .unset, .unset, .unset, .unset] [])) _
    refine XS.iloadN X0.here hx rfl (hb hby at_24) rfl ?_
    exact ktg)
  have pre_5 : Rch p.tables e below (s₁.setTop (entryFrame m #[(.int p0), (.int p1), (.int p2), (.int p3)] maxLocals)) (s₁.setTop (mkF m 26 #[.val (.int p0), .val (.int p1), .val (.int p2), .val (.int p3), .val (.long ot), .second, .unset, .unset, .unset, .unset, .unset, .unset, .unset] [(.double (FP.i2d p0))])) := fun tgt ktg => pre_4 tgt (by
    show Steps p.tables e below (s₁.setTop (mkF m 25 #[.val (.int p0), .val (.int p1), .val (.int p2), .val (.int p3), .val (.long ot), .second, .unset, .unset, .unset, .unset, .unset, .unset, .unset] [(.int p0)])) _
    refine XS.i2dS X0.here hx rfl (hb hby at_25) rfl rfl ?_
    exact ktg)
  have ei : FP.i2d p0 = FP.l2d p0.toInt64 := i2d_w p0
  have pre_6 : Rch p.tables e below (s₁.setTop (entryFrame m #[(.int p0), (.int p1), (.int p2), (.int p3)] maxLocals)) (s₁.setTop (mkF m 26 #[.val (.int p0), .val (.int p1), .val (.int p2), .val (.int p3), .val (.long ot), .second, .unset, .unset, .unset, .unset, .unset, .unset, .unset] [(.double (FP.l2d p0.toInt64))])) := fun tgt ktg => pre_5 tgt (by rw [ei]; exact ktg)
  have pre_7 : Rch p.tables e below (s₁.setTop (entryFrame m #[(.int p0), (.int p1), (.int p2), (.int p3)] maxLocals)) (s₁.setTop (mkF m 54 #[.val (.int p0), .val (.int p1), .val (.int p2), .val (.int p3), .val (.long ot), .second, .val (.double (FP.ddiv (FP.l2d p0.toInt64) (4832362400168542208 : UInt64))), .second, .val (.double (FP.ddiv (FP.l2d ot) (4832362400168542208 : UInt64))), .second, .val (.long ((p0.toInt64) - ot)), .second, .unset] [(.int (XT.cmpL ((p0.toInt64) - ot) (1126 : Int64)))])) := fun tgt ktg => pre_6 tgt (by
    show Steps p.tables e below (s₁.setTop (mkF m 26 #[.val (.int p0), .val (.int p1), .val (.int p2), .val (.int p3), .val (.long ot), .second, .unset, .unset, .unset, .unset, .unset, .unset, .unset] [(.double (FP.l2d p0.toInt64))])) _
    refine X0.ldc2DoubleC hx hown (mvT hZ (hw _ (List.mem_of_getElem? (i := 0) rfl))) (g := (mkF m 26 #[.val (.int p0), .val (.int p1), .val (.int p2), .val (.int p3), .val (.long ot), .second, .unset, .unset, .unset, .unset, .unset, .unset, .unset] [(.double (FP.l2d p0.toInt64))])) rfl (hb hby at_26) _ ?_
    show Steps p.tables e below (s₁.setTop (mkF m 29 #[.val (.int p0), .val (.int p1), .val (.int p2), .val (.int p3), .val (.long ot), .second, .unset, .unset, .unset, .unset, .unset, .unset, .unset] [(.double (4832362400168542208 : UInt64)), (.double (FP.l2d p0.toInt64))])) _
    refine XS.ddivS X0.here hx rfl (hb hby at_29) rfl (own_nq (own_sm p0)) rfl ?_
    show Steps p.tables e below (s₁.setTop (mkF m 30 #[.val (.int p0), .val (.int p1), .val (.int p2), .val (.int p3), .val (.long ot), .second, .unset, .unset, .unset, .unset, .unset, .unset, .unset] [(.double (FP.ddiv (FP.l2d p0.toInt64) (4832362400168542208 : UInt64)))])) _
    refine XS.dstore X0.here hx rfl (hb hby at_30) rfl (l' := #[.val (.int p0), .val (.int p1), .val (.int p2), .val (.int p3), .val (.long ot), .second, .val (.double (FP.ddiv (FP.l2d p0.toInt64) (4832362400168542208 : UInt64))), .second, .unset, .unset, .unset, .unset, .unset]) rfl ?_
    show Steps p.tables e below (s₁.setTop (mkF m 32 #[.val (.int p0), .val (.int p1), .val (.int p2), .val (.int p3), .val (.long ot), .second, .val (.double (FP.ddiv (FP.l2d p0.toInt64) (4832362400168542208 : UInt64))), .second, .unset, .unset, .unset, .unset, .unset] [])) _
    refine XT.lload X0.here hx rfl (hb hby at_32) rfl ?_
    show Steps p.tables e below (s₁.setTop (mkF m 34 #[.val (.int p0), .val (.int p1), .val (.int p2), .val (.int p3), .val (.long ot), .second, .val (.double (FP.ddiv (FP.l2d p0.toInt64) (4832362400168542208 : UInt64))), .second, .unset, .unset, .unset, .unset, .unset] [(.long ot)])) _
    refine XS.l2dS X0.here hx rfl (hb hby at_34) rfl rfl ?_
    show Steps p.tables e below (s₁.setTop (mkF m 35 #[.val (.int p0), .val (.int p1), .val (.int p2), .val (.int p3), .val (.long ot), .second, .val (.double (FP.ddiv (FP.l2d p0.toInt64) (4832362400168542208 : UInt64))), .second, .unset, .unset, .unset, .unset, .unset] [(.double (FP.l2d ot))])) _
    refine X0.ldc2DoubleC hx hown (mvT hZ (hw _ (List.mem_of_getElem? (i := 0) rfl))) (g := (mkF m 35 #[.val (.int p0), .val (.int p1), .val (.int p2), .val (.int p3), .val (.long ot), .second, .val (.double (FP.ddiv (FP.l2d p0.toInt64) (4832362400168542208 : UInt64))), .second, .unset, .unset, .unset, .unset, .unset] [(.double (FP.l2d ot))])) rfl (hb hby at_35) _ ?_
    show Steps p.tables e below (s₁.setTop (mkF m 38 #[.val (.int p0), .val (.int p1), .val (.int p2), .val (.int p3), .val (.long ot), .second, .val (.double (FP.ddiv (FP.l2d p0.toInt64) (4832362400168542208 : UInt64))), .second, .unset, .unset, .unset, .unset, .unset] [(.double (4832362400168542208 : UInt64)), (.double (FP.l2d ot))])) _
    refine XS.ddivS X0.here hx rfl (hb hby at_38) rfl (own_nq ⟨by omega, by omega⟩) rfl ?_
    show Steps p.tables e below (s₁.setTop (mkF m 39 #[.val (.int p0), .val (.int p1), .val (.int p2), .val (.int p3), .val (.long ot), .second, .val (.double (FP.ddiv (FP.l2d p0.toInt64) (4832362400168542208 : UInt64))), .second, .unset, .unset, .unset, .unset, .unset] [(.double (FP.ddiv (FP.l2d ot) (4832362400168542208 : UInt64)))])) _
    refine XS.dstore X0.here hx rfl (hb hby at_39) rfl (l' := #[.val (.int p0), .val (.int p1), .val (.int p2), .val (.int p3), .val (.long ot), .second, .val (.double (FP.ddiv (FP.l2d p0.toInt64) (4832362400168542208 : UInt64))), .second, .val (.double (FP.ddiv (FP.l2d ot) (4832362400168542208 : UInt64))), .second, .unset, .unset, .unset]) rfl ?_
    show Steps p.tables e below (s₁.setTop (mkF m 41 #[.val (.int p0), .val (.int p1), .val (.int p2), .val (.int p3), .val (.long ot), .second, .val (.double (FP.ddiv (FP.l2d p0.toInt64) (4832362400168542208 : UInt64))), .second, .val (.double (FP.ddiv (FP.l2d ot) (4832362400168542208 : UInt64))), .second, .unset, .unset, .unset] [])) _
    refine XS.iloadN X0.here hx rfl (hb hby at_41) rfl ?_
    show Steps p.tables e below (s₁.setTop (mkF m 42 #[.val (.int p0), .val (.int p1), .val (.int p2), .val (.int p3), .val (.long ot), .second, .val (.double (FP.ddiv (FP.l2d p0.toInt64) (4832362400168542208 : UInt64))), .second, .val (.double (FP.ddiv (FP.l2d ot) (4832362400168542208 : UInt64))), .second, .unset, .unset, .unset] [(.int p0)])) _
    refine XT.i2l X0.here hx rfl (hb hby at_42) rfl ?_
    show Steps p.tables e below (s₁.setTop (mkF m 43 #[.val (.int p0), .val (.int p1), .val (.int p2), .val (.int p3), .val (.long ot), .second, .val (.double (FP.ddiv (FP.l2d p0.toInt64) (4832362400168542208 : UInt64))), .second, .val (.double (FP.ddiv (FP.l2d ot) (4832362400168542208 : UInt64))), .second, .unset, .unset, .unset] [(.long (p0.toInt64))])) _
    refine XT.lload X0.here hx rfl (hb hby at_43) rfl ?_
    show Steps p.tables e below (s₁.setTop (mkF m 45 #[.val (.int p0), .val (.int p1), .val (.int p2), .val (.int p3), .val (.long ot), .second, .val (.double (FP.ddiv (FP.l2d p0.toInt64) (4832362400168542208 : UInt64))), .second, .val (.double (FP.ddiv (FP.l2d ot) (4832362400168542208 : UInt64))), .second, .unset, .unset, .unset] [(.long ot), (.long (p0.toInt64))])) _
    refine XT.lsub X0.here hx rfl (hb hby at_45) rfl ?_
    show Steps p.tables e below (s₁.setTop (mkF m 46 #[.val (.int p0), .val (.int p1), .val (.int p2), .val (.int p3), .val (.long ot), .second, .val (.double (FP.ddiv (FP.l2d p0.toInt64) (4832362400168542208 : UInt64))), .second, .val (.double (FP.ddiv (FP.l2d ot) (4832362400168542208 : UInt64))), .second, .unset, .unset, .unset] [(.long ((p0.toInt64) - ot))])) _
    refine XT.lstore X0.here hx rfl (hb hby at_46) rfl (l' := #[.val (.int p0), .val (.int p1), .val (.int p2), .val (.int p3), .val (.long ot), .second, .val (.double (FP.ddiv (FP.l2d p0.toInt64) (4832362400168542208 : UInt64))), .second, .val (.double (FP.ddiv (FP.l2d ot) (4832362400168542208 : UInt64))), .second, .val (.long ((p0.toInt64) - ot)), .second, .unset]) rfl ?_
    show Steps p.tables e below (s₁.setTop (mkF m 48 #[.val (.int p0), .val (.int p1), .val (.int p2), .val (.int p3), .val (.long ot), .second, .val (.double (FP.ddiv (FP.l2d p0.toInt64) (4832362400168542208 : UInt64))), .second, .val (.double (FP.ddiv (FP.l2d ot) (4832362400168542208 : UInt64))), .second, .val (.long ((p0.toInt64) - ot)), .second, .unset] [])) _
    refine XT.lload X0.here hx rfl (hb hby at_48) rfl ?_
    show Steps p.tables e below (s₁.setTop (mkF m 50 #[.val (.int p0), .val (.int p1), .val (.int p2), .val (.int p3), .val (.long ot), .second, .val (.double (FP.ddiv (FP.l2d p0.toInt64) (4832362400168542208 : UInt64))), .second, .val (.double (FP.ddiv (FP.l2d ot) (4832362400168542208 : UInt64))), .second, .val (.long ((p0.toInt64) - ot)), .second, .unset] [(.long ((p0.toInt64) - ot))])) _
    refine X0.ldc2Long hx hown (mvT hZ (hw _ (List.mem_of_getElem? (i := 1) rfl))) (g := (mkF m 50 #[.val (.int p0), .val (.int p1), .val (.int p2), .val (.int p3), .val (.long ot), .second, .val (.double (FP.ddiv (FP.l2d p0.toInt64) (4832362400168542208 : UInt64))), .second, .val (.double (FP.ddiv (FP.l2d ot) (4832362400168542208 : UInt64))), .second, .val (.long ((p0.toInt64) - ot)), .second, .unset] [(.long ((p0.toInt64) - ot))])) rfl (hb hby at_50) _ ?_
    show Steps p.tables e below (s₁.setTop (mkF m 53 #[.val (.int p0), .val (.int p1), .val (.int p2), .val (.int p3), .val (.long ot), .second, .val (.double (FP.ddiv (FP.l2d p0.toInt64) (4832362400168542208 : UInt64))), .second, .val (.double (FP.ddiv (FP.l2d ot) (4832362400168542208 : UInt64))), .second, .val (.long ((p0.toInt64) - ot)), .second, .unset] [(.long (1126 : Int64)), (.long ((p0.toInt64) - ot))])) _
    refine XT.lcmp X0.here hx rfl (hb hby at_53) rfl ?_
    exact ktg)
  obtain ⟨ex, hv_ex⟩ : ∃ nm_ : Int32, nm_ = (if (XT.cmpL ((p0.toInt64) - ot) (1126 : Int64)) < (0 : Int32) then (if (0 : Int32) < (XT.cmpL ((p0.toInt64) - ot) (-1126 : Int64)) then (0 : Int32) else (-1 : Int32)) else (1 : Int32)) := ⟨_, rfl⟩
  have pre_10 : Rch p.tables e below (s₁.setTop (entryFrame m #[(.int p0), (.int p1), (.int p2), (.int p3)] maxLocals)) (s₁.setTop (mkF m 81 #[.val (.int p0), .val (.int p1), .val (.int p2), .val (.int p3), .val (.long ot), .second, .val (.double (FP.ddiv (FP.l2d p0.toInt64) (4832362400168542208 : UInt64))), .second, .val (.double (FP.ddiv (FP.l2d ot) (4832362400168542208 : UInt64))), .second, .val (.long ((p0.toInt64) - ot)), .second, .val (.int ex)] [])) := fun tgt ktg => pre_7 tgt (by
    by_cases q_8 : (XT.cmpL ((p0.toInt64) - ot) (1126 : Int64)) < (0 : Int32)
    · skip
      show Steps p.tables e below (s₁.setTop (mkF m 54 #[.val (.int p0), .val (.int p1), .val (.int p2), .val (.int p3), .val (.long ot), .second, .val (.double (FP.ddiv (FP.l2d p0.toInt64) (4832362400168542208 : UInt64))), .second, .val (.double (FP.ddiv (FP.l2d ot) (4832362400168542208 : UInt64))), .second, .val (.long ((p0.toInt64) - ot)), .second, .unset] [(.int (XT.cmpL ((p0.toInt64) - ot) (1126 : Int64)))])) _
      refine XS.ifYes X0.here hx rfl (pc0 := 54) (pc' := 63) rfl (hb hby at_54) rfl ((if0 _ _).trans (tlt q_8).1) (by decide) (by decide) ?_
      show Steps p.tables e below (s₁.setTop (mkF m 63 #[.val (.int p0), .val (.int p1), .val (.int p2), .val (.int p3), .val (.long ot), .second, .val (.double (FP.ddiv (FP.l2d p0.toInt64) (4832362400168542208 : UInt64))), .second, .val (.double (FP.ddiv (FP.l2d ot) (4832362400168542208 : UInt64))), .second, .val (.long ((p0.toInt64) - ot)), .second, .unset] [])) _
      refine XT.lload X0.here hx rfl (hb hby at_63) rfl ?_
      show Steps p.tables e below (s₁.setTop (mkF m 65 #[.val (.int p0), .val (.int p1), .val (.int p2), .val (.int p3), .val (.long ot), .second, .val (.double (FP.ddiv (FP.l2d p0.toInt64) (4832362400168542208 : UInt64))), .second, .val (.double (FP.ddiv (FP.l2d ot) (4832362400168542208 : UInt64))), .second, .val (.long ((p0.toInt64) - ot)), .second, .unset] [(.long ((p0.toInt64) - ot))])) _
      refine X0.ldc2Long hx hown (mvT hZ (hw _ (List.mem_of_getElem? (i := 2) rfl))) (g := (mkF m 65 #[.val (.int p0), .val (.int p1), .val (.int p2), .val (.int p3), .val (.long ot), .second, .val (.double (FP.ddiv (FP.l2d p0.toInt64) (4832362400168542208 : UInt64))), .second, .val (.double (FP.ddiv (FP.l2d ot) (4832362400168542208 : UInt64))), .second, .val (.long ((p0.toInt64) - ot)), .second, .unset] [(.long ((p0.toInt64) - ot))])) rfl (hb hby at_65) _ ?_
      show Steps p.tables e below (s₁.setTop (mkF m 68 #[.val (.int p0), .val (.int p1), .val (.int p2), .val (.int p3), .val (.long ot), .second, .val (.double (FP.ddiv (FP.l2d p0.toInt64) (4832362400168542208 : UInt64))), .second, .val (.double (FP.ddiv (FP.l2d ot) (4832362400168542208 : UInt64))), .second, .val (.long ((p0.toInt64) - ot)), .second, .unset] [(.long (-1126 : Int64)), (.long ((p0.toInt64) - ot))])) _
      refine XT.lcmp X0.here hx rfl (hb hby at_68) rfl ?_
      by_cases q_9 : (0 : Int32) < (XT.cmpL ((p0.toInt64) - ot) (-1126 : Int64))
      · skip
        show Steps p.tables e below (s₁.setTop (mkF m 69 #[.val (.int p0), .val (.int p1), .val (.int p2), .val (.int p3), .val (.long ot), .second, .val (.double (FP.ddiv (FP.l2d p0.toInt64) (4832362400168542208 : UInt64))), .second, .val (.double (FP.ddiv (FP.l2d ot) (4832362400168542208 : UInt64))), .second, .val (.long ((p0.toInt64) - ot)), .second, .unset] [(.int (XT.cmpL ((p0.toInt64) - ot) (-1126 : Int64)))])) _
        refine XS.ifYes X0.here hx rfl (pc0 := 69) (pc' := 78) rfl (hb hby at_69) rfl ((if0 _ _).trans (tlt q_9).2.2.1) (by decide) (by decide) ?_
        show Steps p.tables e below (s₁.setTop (mkF m 78 #[.val (.int p0), .val (.int p1), .val (.int p2), .val (.int p3), .val (.long ot), .second, .val (.double (FP.ddiv (FP.l2d p0.toInt64) (4832362400168542208 : UInt64))), .second, .val (.double (FP.ddiv (FP.l2d ot) (4832362400168542208 : UInt64))), .second, .val (.long ((p0.toInt64) - ot)), .second, .unset] [])) _
        refine XS.iconst X0.here hx rfl (hb hby at_78) ?_
        show Steps p.tables e below (s₁.setTop (mkF m 79 #[.val (.int p0), .val (.int p1), .val (.int p2), .val (.int p3), .val (.long ot), .second, .val (.double (FP.ddiv (FP.l2d p0.toInt64) (4832362400168542208 : UInt64))), .second, .val (.double (FP.ddiv (FP.l2d ot) (4832362400168542208 : UInt64))), .second, .val (.long ((p0.toInt64) - ot)), .second, .unset] [(.int (0 : Int32))])) _
        refine XS.istore X0.here hx rfl (hb hby at_79) rfl (l' := #[.val (.int p0), .val (.int p1), .val (.int p2), .val (.int p3), .val (.long ot), .second, .val (.double (FP.ddiv (FP.l2d p0.toInt64) (4832362400168542208 : UInt64))), .second, .val (.double (FP.ddiv (FP.l2d ot) (4832362400168542208 : UInt64))), .second, .val (.long ((p0.toInt64) - ot)), .second, .val (.int (0 : Int32))]) rfl ?_
        have ev_ex : ex = (0 : Int32) := by rw [hv_ex, if_pos q_8, if_pos q_9]
        rw [ev_ex] at ktg
        exact ktg
      · skip
        show Steps p.tables e below (s₁.setTop (mkF m 69 #[.val (.int p0), .val (.int p1), .val (.int p2), .val (.int p3), .val (.long ot), .second, .val (.double (FP.ddiv (FP.l2d p0.toInt64) (4832362400168542208 : UInt64))), .second, .val (.double (FP.ddiv (FP.l2d ot) (4832362400168542208 : UInt64))), .second, .val (.long ((p0.toInt64) - ot)), .second, .unset] [(.int (XT.cmpL ((p0.toInt64) - ot) (-1126 : Int64)))])) _
        refine XS.ifNo X0.here hx rfl (hb hby at_69) rfl ((if0 _ _).trans (flt q_9).2.2.1) ?_
        show Steps p.tables e below (s₁.setTop (mkF m 72 #[.val (.int p0), .val (.int p1), .val (.int p2), .val (.int p3), .val (.long ot), .second, .val (.double (FP.ddiv (FP.l2d p0.toInt64) (4832362400168542208 : UInt64))), .second, .val (.double (FP.ddiv (FP.l2d ot) (4832362400168542208 : UInt64))), .second, .val (.long ((p0.toInt64) - ot)), .second, .unset] [])) _
        refine XS.iconst X0.here hx rfl (hb hby at_72) ?_
        show Steps p.tables e below (s₁.setTop (mkF m 73 #[.val (.int p0), .val (.int p1), .val (.int p2), .val (.int p3), .val (.long ot), .second, .val (.double (FP.ddiv (FP.l2d p0.toInt64) (4832362400168542208 : UInt64))), .second, .val (.double (FP.ddiv (FP.l2d ot) (4832362400168542208 : UInt64))), .second, .val (.long ((p0.toInt64) - ot)), .second, .unset] [(.int (-1 : Int32))])) _
        refine XS.istore X0.here hx rfl (hb hby at_73) rfl (l' := #[.val (.int p0), .val (.int p1), .val (.int p2), .val (.int p3), .val (.long ot), .second, .val (.double (FP.ddiv (FP.l2d p0.toInt64) (4832362400168542208 : UInt64))), .second, .val (.double (FP.ddiv (FP.l2d ot) (4832362400168542208 : UInt64))), .second, .val (.long ((p0.toInt64) - ot)), .second, .val (.int (-1 : Int32))]) rfl ?_
        show Steps p.tables e below (s₁.setTop (mkF m 75 #[.val (.int p0), .val (.int p1), .val (.int p2), .val (.int p3), .val (.long ot), .second, .val (.double (FP.ddiv (FP.l2d p0.toInt64) (4832362400168542208 : UInt64))), .second, .val (.double (FP.ddiv (FP.l2d ot) (4832362400168542208 : UInt64))), .second, .val (.long ((p0.toInt64) - ot)), .second, .val (.int (-1 : Int32))] [])) _
        refine XS.goto X0.here hx rfl (pc0 := 75) (pc' := 81) rfl (hb hby at_75) (by decide) (by decide) ?_
        have ev_ex : ex = (-1 : Int32) := by rw [hv_ex, if_pos q_8, if_neg q_9]
        rw [ev_ex] at ktg
        exact ktg
    · skip
      show Steps p.tables e below (s₁.setTop (mkF m 54 #[.val (.int p0), .val (.int p1), .val (.int p2), .val (.int p3), .val (.long ot), .second, .val (.double (FP.ddiv (FP.l2d p0.toInt64) (4832362400168542208 : UInt64))), .second, .val (.double (FP.ddiv (FP.l2d ot) (4832362400168542208 : UInt64))), .second, .val (.long ((p0.toInt64) - ot)), .second, .unset] [(.int (XT.cmpL ((p0.toInt64) - ot) (1126 : Int64)))])) _
      refine XS.ifNo X0.here hx rfl (hb hby at_54) rfl ((if0 _ _).trans (flt q_8).1) ?_
      show Steps p.tables e below (s₁.setTop (mkF m 57 #[.val (.int p0), .val (.int p1), .val (.int p2), .val (.int p3), .val (.long ot), .second, .val (.double (FP.ddiv (FP.l2d p0.toInt64) (4832362400168542208 : UInt64))), .second, .val (.double (FP.ddiv (FP.l2d ot) (4832362400168542208 : UInt64))), .second, .val (.long ((p0.toInt64) - ot)), .second, .unset] [])) _
      refine XS.iconst X0.here hx rfl (hb hby at_57) ?_
      show Steps p.tables e below (s₁.setTop (mkF m 58 #[.val (.int p0), .val (.int p1), .val (.int p2), .val (.int p3), .val (.long ot), .second, .val (.double (FP.ddiv (FP.l2d p0.toInt64) (4832362400168542208 : UInt64))), .second, .val (.double (FP.ddiv (FP.l2d ot) (4832362400168542208 : UInt64))), .second, .val (.long ((p0.toInt64) - ot)), .second, .unset] [(.int (1 : Int32))])) _
      refine XS.istore X0.here hx rfl (hb hby at_58) rfl (l' := #[.val (.int p0), .val (.int p1), .val (.int p2), .val (.int p3), .val (.long ot), .second, .val (.double (FP.ddiv (FP.l2d p0.toInt64) (4832362400168542208 : UInt64))), .second, .val (.double (FP.ddiv (FP.l2d ot) (4832362400168542208 : UInt64))), .second, .val (.long ((p0.toInt64) - ot)), .second, .val (.int (1 : Int32))]) rfl ?_
      show Steps p.tables e below (s₁.setTop (mkF m 60 #[.val (.int p0), .val (.int p1), .val (.int p2), .val (.int p3), .val (.long ot), .second, .val (.double (FP.ddiv (FP.l2d p0.toInt64) (4832362400168542208 : UInt64))), .second, .val (.double (FP.ddiv (FP.l2d ot) (4832362400168542208 : UInt64))), .second, .val (.long ((p0.toInt64) - ot)), .second, .val (.int (1 : Int32))] [])) _
      refine XS.goto X0.here hx rfl (pc0 := 60) (pc' := 81) rfl (hb hby at_60) (by decide) (by decide) ?_
      have ev_ex : ex = (1 : Int32) := by rw [hv_ex, if_neg q_8]
      rw [ev_ex] at ktg
      exact ktg
    done)
  have pre_11 : Rch p.tables e below (s₁.setTop (entryFrame m #[(.int p0), (.int p1), (.int p2), (.int p3)] maxLocals)) (s₁.setTop (mkF m 85 #[.val (.int p0), .val (.int p1), .val (.int p2), .val (.int p3), .val (.long ot), .second, .val (.double (FP.ddiv (FP.l2d p0.toInt64) (4832362400168542208 : UInt64))), .second, .val (.double (FP.ddiv (FP.l2d ot) (4832362400168542208 : UInt64))), .second, .val (.long ((p0.toInt64) - ot)), .second, .val (.int ex)] [(.double (FP.ddiv (FP.l2d ot) (4832362400168542208 : UInt64))), (.double (FP.ddiv (FP.l2d p0.toInt64) (4832362400168542208 : UInt64)))])) := fun tgt ktg => pre_10 tgt (by
    show Steps p.tables e below (s₁.setTop (mkF m 81 #[.val (.int p0), .val (.int p1), .val (.int p2), .val (.int p3), .val (.long ot), .second, .val (.double (FP.ddiv (FP.l2d p0.toInt64) (4832362400168542208 : UInt64))), .second, .val (.double (FP.ddiv (FP.l2d ot) (4832362400168542208 : UInt64))), .second, .val (.long ((p0.toInt64) - ot)), .second, .val (.int ex)] [])) _
    refine XS.dload X0.here hx rfl (hb hby at_81) rfl ?_
    show Steps p.tables e below (s₁.setTop (mkF m 83 #[.val (.int p0), .val (.int p1), .val (.int p2), .val (.int p3), .val (.long ot), .second, .val (.double (FP.ddiv (FP.l2d p0.toInt64) (4832362400168542208 : UInt64))), .second, .val (.double (FP.ddiv (FP.l2d ot) (4832362400168542208 : UInt64))), .second, .val (.long ((p0.toInt64) - ot)), .second, .val (.int ex)] [(.double (FP.ddiv (FP.l2d p0.toInt64) (4832362400168542208 : UInt64)))])) _
    refine XS.dload X0.here hx rfl (hb hby at_83) rfl ?_
    exact ktg)
  obtain ⟨_, _, ⟨T_12, L_12, k_12, n_12⟩, -, X_12, ⟨Lc_12, hQ_12, l_12, y_12, z_12⟩, st_12⟩ := Jvm.LawKit.callS X0 hx (y := (⟨"com/example/anonimato/anonimato/method/ClassEntropy", "compare", "(DD)I"⟩ : MethodName)) hown (mvT hZ (hw _ (List.mem_of_getElem? (i := 3) rfl))) (mvT hZ (hw _ (List.mem_of_getElem? (i := 4) rfl))) (mvT hZ (hw _ (List.mem_of_getElem? (i := 5) rfl))) (mvT hZ (hw _ (List.mem_of_getElem? (i := 6) rfl))) (by decide) (backOf (W := 0) (rmcp l Z a0 hw [] (FP.ddiv (FP.l2d p0.toInt64) (4832362400168542208 : UInt64)) (FP.ddiv (FP.l2d ot) (4832362400168542208 : UInt64)) h0 n0 Z0 (own_ns ⟨by omega, by omega⟩) (own_ns (own_sm p0))) hZ (hw _ (List.mem_of_getElem? (i := 6) rfl)) (hw _ (List.mem_of_getElem? (i := 5) rfl)) (by decide) (by decide)) (g := (mkF m 85 #[.val (.int p0), .val (.int p1), .val (.int p2), .val (.int p3), .val (.long ot), .second, .val (.double (FP.ddiv (FP.l2d p0.toInt64) (4832362400168542208 : UInt64))), .second, .val (.double (FP.ddiv (FP.l2d ot) (4832362400168542208 : UInt64))), .second, .val (.long ((p0.toInt64) - ot)), .second, .val (.int ex)] [(.double (FP.ddiv (FP.l2d ot) (4832362400168542208 : UInt64))), (.double (FP.ddiv (FP.l2d p0.toInt64) (4832362400168542208 : UInt64)))])) rfl (by rw [hml]; rfl) (argsL := [(.double (FP.ddiv (FP.l2d p0.toInt64) (4832362400168542208 : UInt64))), (.double (FP.ddiv (FP.l2d ot) (4832362400168542208 : UInt64)))]) (rest := []) (lenOf pd_0 rfl) rfl (by show 2 * 0 + _ ≤ _; exact Nat.le_of_eq rfl) (hb hby at_85) (fun _ _ => ⟨rfl, e0, (by decide : 0 + 0 ≤ _), (by decide : 0 + 0 ≤ _)⟩)
  dsimp only [Pt.U, Pt.locs, Pt.cells, Pt.slots] at X_12 l_12 y_12 z_12 st_12 hQ_12
  subst l_12 y_12 z_12
  obtain ⟨rfl, Nq_12, eh_12⟩ := hQ_12
  have N_13 := Fr.app N0 Nq_12
  have pre_12 : Rch p.tables e below (s₁.setTop (entryFrame m #[(.int p0), (.int p1), (.int p2), (.int p3)] maxLocals)) (T_12.setTop (mkF m 88 #[.val (.int p0), .val (.int p1), .val (.int p2), .val (.int p3), .val (.long ot), .second, .val (.double (FP.ddiv (FP.l2d p0.toInt64) (4832362400168542208 : UInt64))), .second, .val (.double (FP.ddiv (FP.l2d ot) (4832362400168542208 : UInt64))), .second, .val (.long ((p0.toInt64) - ot)), .second, .val (.int ex)] [(.int (cpr (FP.ddiv (FP.l2d p0.toInt64) (4832362400168542208 : UInt64)) (FP.ddiv (FP.l2d ot) (4832362400168542208 : UInt64))))])) := fun tgt ktg => pre_11 tgt (st_12 tgt ktg)
  obtain ⟨_, _, ⟨T_14, L_14, k_14, n_14⟩, -, X_14, ⟨Lc_14, hQ_14, l_14, y_14, z_14⟩, st_14⟩ := Jvm.LawKit.callS X_12 hx (y := (⟨"com/example/anonimato/anonimato/method/ClassEntropyComparePinLaw", "sign", "(I)I"⟩ : MethodName)) hown (mvT hZ (hw _ (List.mem_of_getElem? (i := 8) rfl))) (mvT hZ (hw _ (List.mem_of_getElem? (i := 9) rfl))) (mvT hZ (hw _ (List.mem_of_getElem? (i := 10) rfl))) (mvT hZ (hw _ (List.mem_of_getElem? (i := 11) rfl))) (by decide) (backOf (W := 0) (rmsg l Z a0 hw [] (cpr (FP.ddiv (FP.l2d p0.toInt64) (4832362400168542208 : UInt64)) (FP.ddiv (FP.l2d ot) (4832362400168542208 : UInt64))) h0 n0 Z0) hZ (hw _ (List.mem_of_getElem? (i := 11) rfl)) (hw _ (List.mem_of_getElem? (i := 10) rfl)) (by decide) (by decide)) (g := (mkF m 88 #[.val (.int p0), .val (.int p1), .val (.int p2), .val (.int p3), .val (.long ot), .second, .val (.double (FP.ddiv (FP.l2d p0.toInt64) (4832362400168542208 : UInt64))), .second, .val (.double (FP.ddiv (FP.l2d ot) (4832362400168542208 : UInt64))), .second, .val (.long ((p0.toInt64) - ot)), .second, .val (.int ex)] [(.int (cpr (FP.ddiv (FP.l2d p0.toInt64) (4832362400168542208 : UInt64)) (FP.ddiv (FP.l2d ot) (4832362400168542208 : UInt64))))])) rfl (by rw [hml]; rfl) (argsL := [(.int (cpr (FP.ddiv (FP.l2d p0.toInt64) (4832362400168542208 : UInt64)) (FP.ddiv (FP.l2d ot) (4832362400168542208 : UInt64))))]) (rest := []) (lenOf pd_1 rfl) rfl (by show 2 * 0 + _ ≤ _; exact Nat.le_of_eq rfl) (hb hby at_88) (fun _ _ => ⟨rfl, eh_12, (by decide : 0 + 0 ≤ _), (by decide : 0 + 0 ≤ _)⟩)
  dsimp only [Pt.U, Pt.locs, Pt.cells, Pt.slots] at X_14 l_14 y_14 z_14 st_14 hQ_14
  subst l_14 y_14 z_14
  obtain ⟨rfl, Nq_14, eh_14⟩ := hQ_14
  have N_15 := Fr.app N_13 Nq_14
  have pre_14 : Rch p.tables e below (s₁.setTop (entryFrame m #[(.int p0), (.int p1), (.int p2), (.int p3)] maxLocals)) (T_14.setTop (mkF m 91 #[.val (.int p0), .val (.int p1), .val (.int p2), .val (.int p3), .val (.long ot), .second, .val (.double (FP.ddiv (FP.l2d p0.toInt64) (4832362400168542208 : UInt64))), .second, .val (.double (FP.ddiv (FP.l2d ot) (4832362400168542208 : UInt64))), .second, .val (.long ((p0.toInt64) - ot)), .second, .val (.int ex)] [(.int (sgn1 (cpr (FP.ddiv (FP.l2d p0.toInt64) (4832362400168542208 : UInt64)) (FP.ddiv (FP.l2d ot) (4832362400168542208 : UInt64)))))])) := fun tgt ktg => pre_12 tgt (st_14 tgt ktg)
  have pre_16 : Rch p.tables e below (s₁.setTop (entryFrame m #[(.int p0), (.int p1), (.int p2), (.int p3)] maxLocals)) (T_14.setTop (mkF m 101 #[.val (.int p0), .val (.int p1), .val (.int p2), .val (.int p3), .val (.long ot), .second, .val (.double (FP.ddiv (FP.l2d p0.toInt64) (4832362400168542208 : UInt64))), .second, .val (.double (FP.ddiv (FP.l2d ot) (4832362400168542208 : UInt64))), .second, .val (.long ((p0.toInt64) - ot)), .second, .val (.int ex)] [(.int (1 : Int32))])) := fun tgt ktg => pre_14 tgt (by
    show Steps p.tables e below (T_14.setTop (mkF m 91 #[.val (.int p0), .val (.int p1), .val (.int p2), .val (.int p3), .val (.long ot), .second, .val (.double (FP.ddiv (FP.l2d p0.toInt64) (4832362400168542208 : UInt64))), .second, .val (.double (FP.ddiv (FP.l2d ot) (4832362400168542208 : UInt64))), .second, .val (.long ((p0.toInt64) - ot)), .second, .val (.int ex)] [(.int (sgn1 (cpr (FP.ddiv (FP.l2d p0.toInt64) (4832362400168542208 : UInt64)) (FP.ddiv (FP.l2d ot) (4832362400168542208 : UInt64)))))])) _
    refine XS.iload X_14.here hx rfl (hb hby at_91) rfl ?_
    show Steps p.tables e below (T_14.setTop (mkF m 93 #[.val (.int p0), .val (.int p1), .val (.int p2), .val (.int p3), .val (.long ot), .second, .val (.double (FP.ddiv (FP.l2d p0.toInt64) (4832362400168542208 : UInt64))), .second, .val (.double (FP.ddiv (FP.l2d ot) (4832362400168542208 : UInt64))), .second, .val (.long ((p0.toInt64) - ot)), .second, .val (.int ex)] [(.int ex), (.int (sgn1 (cpr (FP.ddiv (FP.l2d p0.toInt64) (4832362400168542208 : UInt64)) (FP.ddiv (FP.l2d ot) (4832362400168542208 : UInt64)))))])) _
    refine XS.icmpNo X_14.here hx rfl (hb hby at_93) rfl (teq (own_law ho hv_ex)).2 ?_
    show Steps p.tables e below (T_14.setTop (mkF m 96 #[.val (.int p0), .val (.int p1), .val (.int p2), .val (.int p3), .val (.long ot), .second, .val (.double (FP.ddiv (FP.l2d p0.toInt64) (4832362400168542208 : UInt64))), .second, .val (.double (FP.ddiv (FP.l2d ot) (4832362400168542208 : UInt64))), .second, .val (.long ((p0.toInt64) - ot)), .second, .val (.int ex)] [])) _
    refine XS.iconst X_14.here hx rfl (hb hby at_96) ?_
    show Steps p.tables e below (T_14.setTop (mkF m 97 #[.val (.int p0), .val (.int p1), .val (.int p2), .val (.int p3), .val (.long ot), .second, .val (.double (FP.ddiv (FP.l2d p0.toInt64) (4832362400168542208 : UInt64))), .second, .val (.double (FP.ddiv (FP.l2d ot) (4832362400168542208 : UInt64))), .second, .val (.long ((p0.toInt64) - ot)), .second, .val (.int ex)] [(.int (1 : Int32))])) _
    refine XS.goto X_14.here hx rfl (pc0 := 97) (pc' := 101) rfl (hb hby at_97) (by decide) (by decide) ?_
    exact ktg)
  obtain ⟨fs, hr, hrun, hended, hW, hsame⟩ := X_14.leave (v := some (.int (1 : Int32))) (fun h => by rw [Bd.returns] at h; cases h)
  refine ⟨_, _, pre_16 _ ?_, hrun, hended, _, _, rfl, ?_, ⟨_, rfl⟩, hW, hsame.mono (by decide) (by decide)⟩
  · show Steps p.tables e below (T_14.setTop (mkF m 101 #[.val (.int p0), .val (.int p1), .val (.int p2), .val (.int p3), .val (.long ot), .second, .val (.double (FP.ddiv (FP.l2d p0.toInt64) (4832362400168542208 : UInt64))), .second, .val (.double (FP.ddiv (FP.l2d ot) (4832362400168542208 : UInt64))), .second, .val (.long ((p0.toInt64) - ot)), .second, .val (.int ex)] [(.int (1 : Int32))])) _
    exact retN X_14 hx (t := .boolean) Bd.returns (by simp) (hb hby at_101) hr
  · show Q0 Z p0 p1 p2 p3 h0 n0 _ T_14.heap _
    rw [eh_14]
    exact ⟨rfl, N_15⟩
set_option maxRecDepth 65536 in
set_option maxHeartbeats 40000000 in
theorem comes_1 {Post : Tables → Env → Array Value → State → Outcome → State → Prop} (hpost : ∀ tb e args s v u, (limb_1_1.after args s (.returned v) u = true ∧ limb_1_2.after args s (.returned v) u = true ∧ True) → FrameEnd s (.returned v) u (Jvm.fieldLocs frame_1_writes args s ++ Jvm.arrayLocs frame_1_arrays args s ++ Jvm.staticLocs frame_1_statics s) 0 0 → Post tb e args s (.returned v) u) :
    ArmFor flags0 classFile x code maxLocals ret World_1 tables_1 room_1 Calls_1 rest_1 Pre_1 Post := by
  intro l hfl _ _ p e ha hc hk s m args below hf hA hF happ hP
  obtain ⟨hcalls, hrest, hpre⟩ := hP
  obtain ⟨-, -, -, hnamed, -, -, -, hat⟩ := (Spec.applies_iff hf).mp happ
  obtain ⟨hg, hn⟩ := and_e (Cond.before_iff.mp (show (Jvm.Cond.and given_1 narrow_1).before args s = true from hpre))
  obtain ⟨gc, g0⟩ := and_e hg
  obtain ⟨ga0, g1⟩ := and_e g0
  obtain ⟨ga1, g2⟩ := and_e g1
  obtain ⟨ga2, g3⟩ := and_e g2
  obtain ⟨w0, w1, w2, w3, rfl⟩ : ∃ w0 w1 w2 w3 : Value, args = #[w0, w1, w2, w3] := by
    have hs : args.size = 4 := by simpa [Cond.value, given_1] using gc
    obtain ⟨L⟩ := args
    match L, hs with
    | [w0, w1, w2, w3], _ => exact ⟨w0, w1, w2, w3, rfl⟩
  have hw := fun d (hd : d ∈ tables_1) => atoms_spec (ws := Jvm.Cond.code x code maxLocals ret :: tables_1) hat d (List.mem_cons_of_mem _ hd)
  have hfit : Fit s := fun {y c} hc i hi => by
    obtain ⟨ha, rfl⟩ := Array.getElem?_eq_some_iff.mp hc
    have q := List.all_eq_true.mp ((Array.all_eq_true_iff_forall_mem.mp hF) _ (Array.getElem_mem ha)) i (List.mem_range.mpr hi)
    simpa [Array.getElem?_eq_getElem hi] using q
  obtain ⟨i0, ei0⟩ := is_v ga0
  obtain rfl : w0 = (.int i0) := Option.some.inj ei0
  obtain ⟨i1, ei1⟩ := is_v ga1
  obtain rfl : w1 = (.int i1) := Option.some.inj ei1
  obtain ⟨i2, ei2⟩ := is_v ga2
  obtain rfl : w2 = (.int i2) := Option.some.inj ei2
  obtain ⟨i3, ei3⟩ := is_v g3
  obtain rfl : w3 = (.int i3) := Option.some.inj ei3
  obtain ⟨n, o, h1, h2, h3, _, L, rfl, ⟨rfl, N⟩, hq⟩ := rm0 l s _ hw tables_1 i0 i1 i2 i3 s.heap s.heap.size (Nat.le_refl _) p e ha hc hk s m _ below hf ((Spec.applies_iff_loose hf).mp happ).1 ⟨rfl, State.Warmed39.refl s, rfl⟩ trivial
  refine ⟨n, _, h1, h2, h3, hpost _ _ _ _ _ _ ⟨Cond.after_iff.mpr rfl, Cond.after_iff.mpr (eq_i res_at (Term.int_eval (1)) rfl), trivial⟩ ⟨hq.1, hq.2.1, (hq.2.2.sift fun y hy => Or.inr (N y hy)).mono (by decide) (by decide)⟩⟩
theorem main_1_1 : Claimed_1_1 := comes_1 fun _ _ _ _ _ _ h hF => ⟨h.1, hF⟩
theorem main_1_2 : Claimed_1_2 := comes_1 fun _ _ _ _ _ _ h hF => ⟨h.2.1, hF⟩
end Jvm.Pilot.@@N@@
namespace Jvm.Pilot.@@N@@
open Jvm Jvm.ClassFile Sem Op Lib Jvm.Free Jvm.Stand Jvm.Pilot.@@N@@.Jvm.D
/-! MADE BY PROGRAM (witnessworld.py) out of the Statement's table words and the real class files: 9 classes; the members and pool entries that the words name. The judged class is class 1, her method 2. -/
namespace start1
open Jvm.ClassFile
def u (s : String) : CpInfo := .utf8 (stringToUtf16 s)
/-- a pool by its gaps: so many unusable entries, then the entry; so many at the end -/
def gap : Nat → List CpInfo → List CpInfo
  | 0, r => r
  | n + 1, r => .unusable :: gap n r
def poolList (es : List (Nat × CpInfo)) (last : Nat) : List CpInfo := es.foldr (fun e r => gap e.1 (e.2 :: r)) (gap last [])
def pool (es : List (Nat × CpInfo)) (last : Nat) : Array CpInfo := ⟨poolList es last⟩
def fileOf (pool : Array CpInfo) (this : Nat) (attrs : Array Attribute := #[]) (ms : Array MethodInfo := #[]) (fl : Nat := 33) (sup : Nat := 0) (ifs : Array Nat := #[]) (fds : Array FieldInfo := #[]) : ClassFile where
  minorVersion := 0
  majorVersion := 65
  constantPool := pool
  accessFlags := fl
  thisClass := this
  superClass := sup
  interfaces := ifs
  fields := fds
  methods := ms
  attributes := attrs
def plain (name : String) (sup : Option ClassId) : Class where
  name := name
  kind := .ordinary
  loader := none
  accessFlags := 33
  super := sup
  interfaces := #[]
  cf := none
  fields := #[]
  methods := #[]
  instanceTypes := #[]
  staticTypes := #[]
  resolved := #[]
  callSites := []
  init := .initialized
  statics := none
  mirror := none

def pool0 : Array CpInfo := pool [(5, u "<init>"), (0, u "()V"), (1, .class_ 10), (1, u "java/lang/Object")] 113

def k0m0 : Method := { name := "<init>", desc := "()V", sig := { parameters := [], returnType := none }, accessFlags := 1, code := none }
/-- java/lang/Object -/
def k0 : Class := { plain "java/lang/Object" none with
  accessFlags := 33
  interfaces := #[]
  cf := some (fileOf pool0 8 #[] #[{ accessFlags := 1, nameIndex := 5, descriptorIndex := 6, attributes := #[] }] 33 0 #[] #[])
  fields := #[]
  methods := #[k0m0]
  instanceTypes := #[]
  staticTypes := #[]
  resolved := Array.replicate 124 none
  statics := none }

def pool1 : Array CpInfo := pool [(2, .class_ 4), (1, u "java/lang/Object"), (0, u "<init>"), (0, u "()V"), (0, .double 4832362400168542208), (1, .long 1126), (1, .long 18446744073709550490), (1, .methodref 14 15), (0, .class_ 16), (0, .nameAndType 17 18), (0, u "com/example/anonimato/anonimato/method/ClassEntropy"), (0, u "compare"), (0, u "(DD)I"), (0, .methodref 20 21), (0, .class_ 22), (0, .nameAndType 23 24), (0, u "com/example/anonimato/anonimato/method/ClassEntropyComparePinLaw"), (0, u "sign"), (0, u "(I)I"), (3, u "law"), (0, u "(IIII)Z")] 2

def k1m0 : Method := { name := "<init>", desc := "()V", sig := { parameters := [], returnType := none }, accessFlags := 1, code := none }
def k1c1 : Code := { maxStack := 1, maxLocals := 1, code := method_2_code, exceptionTable := #[], attributes := #[] }
def k1m1 : Method := { name := "sign", desc := "(I)I", sig := { parameters := [.int], returnType := some .int }, accessFlags := 10, code := some k1c1 }
def k1c2 : Code := { maxStack := 4, maxLocals := 13, code := code, exceptionTable := #[], attributes := #[] }
def k1m2 : Method := { name := "law", desc := "(IIII)Z", sig := { parameters := [.int, .int, .int, .int], returnType := some .boolean }, accessFlags := 9, code := some k1c2 }
/-- com/example/anonimato/anonimato/method/ClassEntropyComparePinLaw -/
def k1 : Class := { plain "com/example/anonimato/anonimato/method/ClassEntropyComparePinLaw" (some 0) with
  accessFlags := 49
  interfaces := #[]
  cf := some (fileOf pool1 20 #[] #[{ accessFlags := 1, nameIndex := 5, descriptorIndex := 6, attributes := #[] }, { accessFlags := 10, nameIndex := 23, descriptorIndex := 24, attributes := #[] }, { accessFlags := 9, nameIndex := 28, descriptorIndex := 29, attributes := #[] }] 49 2 #[] #[])
  fields := #[]
  methods := #[k1m0, k1m1, k1m2]
  instanceTypes := #[]
  staticTypes := #[]
  resolved := Array.replicate 32 none
  statics := none }

def pool2 : Array CpInfo := pool [(2, .class_ 4), (1, u "java/lang/Object"), (0, u "<init>"), (0, u "()V"), (1, .class_ 10), (1, u "com/example/anonimato/anonimato/method/ClassEntropy"), (18, .double 4427486594234968593), (1, u "TOLERANCE"), (0, u "D"), (10, u "compare"), (0, u "(DD)I")] 2

def k2m0 : Method := { name := "<init>", desc := "()V", sig := { parameters := [], returnType := none }, accessFlags := 2, code := none }
def k2c1 : Code := { maxStack := 6, maxLocals := 5, code := prog_34_method_4_code, exceptionTable := #[], attributes := #[] }
def k2m1 : Method := { name := "compare", desc := "(DD)I", sig := { parameters := [.double, .double], returnType := some .int }, accessFlags := 8, code := some k2c1 }
/-- com/example/anonimato/anonimato/method/ClassEntropy -/
def k2 : Class := { plain "com/example/anonimato/anonimato/method/ClassEntropy" (some 0) with
  accessFlags := 48
  interfaces := #[]
  cf := some (fileOf pool2 8 #[] #[{ accessFlags := 2, nameIndex := 5, descriptorIndex := 6, attributes := #[] }, { accessFlags := 8, nameIndex := 43, descriptorIndex := 44, attributes := #[] }] 48 2 #[] #[{ accessFlags := 26, nameIndex := 31, descriptorIndex := 32, attributes := #[] }])
  fields := #[{ name := "TOLERANCE", type := .double, accessFlags := 26, slot := 0, constantValue := 0 }]
  methods := #[k2m0, k2m1]
  instanceTypes := #[]
  staticTypes := #[.double]
  resolved := Array.replicate 47 none
  statics := none }

def pool3 : Array CpInfo := pool [(1, u "java/lang/Cloneable"), (0, .class_ 1), (0, u "java/lang/Object"), (0, .class_ 3)] 3

/-- java/lang/Cloneable -/
def k3 : Class := { plain "java/lang/Cloneable" (some 0) with
  accessFlags := 1537
  interfaces := #[]
  cf := some (fileOf pool3 2 #[] #[] 1537 4 #[] #[])
  fields := #[]
  methods := #[]
  instanceTypes := #[]
  staticTypes := #[]
  resolved := Array.replicate 8 none
  statics := none }

def pool4 : Array CpInfo := pool [(1, u "java/io/Serializable"), (0, .class_ 1), (0, u "java/lang/Object"), (0, .class_ 3)] 3

/-- java/io/Serializable -/
def k4 : Class := { plain "java/io/Serializable" (some 0) with
  accessFlags := 1537
  interfaces := #[]
  cf := some (fileOf pool4 2 #[] #[] 1537 4 #[] #[])
  fields := #[]
  methods := #[]
  instanceTypes := #[]
  staticTypes := #[]
  resolved := Array.replicate 8 none
  statics := none }

/-- the primitive byte -/
def k5 : Class := { plain "byte" none with kind := .primitive 'B', accessFlags := 0x411 }
/-- [B -/
def k6 : Class := { plain "[B" (some 0) with kind := .array 5 .byte, interfaces := #[3, 4], accessFlags := 1041 }

/-- the primitive int -/
def k7 : Class := { plain "int" none with kind := .primitive 'I', accessFlags := 0x411 }
/-- [I -/
def k8 : Class := { plain "[I" (some 0) with kind := .array 7 .int, interfaces := #[3, 4], accessFlags := 1041 }

def heap : Heap := #[]
def classes : Array Class := #[k0, k1, k2, k3, k4, k5, k6, k7, k8]
def interned : List (Array UInt16 × Addr) := []
def slotsUsed : Nat := 0
def theMethod : MethodId := ⟨1, 2⟩
def args0 : Array Value := #[.int 5, .int 6, .int 7, .int 1]
def aboutOver (below : List Frame) : State where
  vm := { classes := classes, interned := interned.toArray }
  heap := heap
  slotsUsed := slotsUsed
  threads := #[{ frames := .invoking theMethod args0 :: below }]
def below0 : List Frame := [.native { method := ⟨0, 0⟩, args := #[] }]
def about1 : State := aboutOver below0
def p0 : Program := .bare "" "" ""
def e0 : Env := launch0.env 0 0 0
theorem w_frames : about1.frames = Frame.invoking theMethod args0 :: below0 := rfl
set_option maxRecDepth 65536 in
theorem w_args : argsFit about1.vm theMethod args0 = true := by decide +kernel
set_option maxRecDepth 65536 in
theorem w_heap : heapFits about1 = true := by decide +kernel
set_option maxRecDepth 65536 in
theorem w_runnable : about1.curStatus? = some .runnable := by decide +kernel
set_option maxRecDepth 65536 in
theorem w_alone : about1.alone = true := by decide +kernel
set_option maxRecDepth 65536 in
theorem w_named : about1.methodNamed? x = some theMethod := by decide +kernel
set_option maxRecDepth 65536 in
theorem w_hears : about1.hears theMethod below0 = true := by decide +kernel
set_option maxRecDepth 65536 in
theorem w_ripe : about1.ripe theMethod args0 below0 = true := by decide +kernel
theorem w_running : about1.status = .running := rfl
set_option maxRecDepth 65536 in
theorem w_room : about1.hasRoom e0.platform room_1 = true :=
  launch0.hasRoom_least _ room_1 (by decide +kernel) (by decide +kernel) (by decide +kernel) (by decide +kernel) (by decide +kernel) (by decide +kernel)
theorem allAtoms_all (ts : List Jvm.Cond) (a : Array Jvm.Value) (st : Jvm.State) : (allAtoms ts).before a st = ts.all (fun c => c.before a st) := by
  induction ts with
  | nil => rfl
  | cons c t ih =>
    show (Jvm.Cond.and c (allAtoms t)).before a st = _
    rw [Jvm.Cond.before_and, ih, List.all_cons]
def words1 : List Jvm.Cond := Jvm.Cond.code x code maxLocals ret :: tables_1
/-- a 'code' word, met by the world's own term for the bytes: nothing is compared byte by byte -/
theorem code_word {y : MethodName} {bytes : ByteArray} {mx : Nat} {rt : Option FieldType} {a : Array Value} {s : State} {m : MethodId} {meth : Method} {c : Code} (h1 : s.methodNamed? y = some m) (h2 : s.vm.method? m = some meth) (h3 : meth.code = some c) (h4 : c.code = bytes)
    (h5 : (c.maxLocals == mx && c.exceptionTable.isEmpty && decide (c.maxStack ≤ mostOperands) && decide (meth.sig.returnType = rt) && !meth.locks && decide (parseMethodDescriptor y.desc = some meth.sig)) = true) : (Jvm.Cond.code y bytes mx rt).before a s = true := by
  simp only [Bool.and_eq_true, beq_iff_eq, Bool.not_eq_true', decide_eq_true_eq] at h5
  obtain ⟨⟨⟨⟨⟨g1, g2⟩, g3⟩, g4⟩, g5⟩, g6⟩ := h5
  simp [Cond.before, Cond.holds, Cond.value, h1, h2, h3, h4, g1, g2, g3, g4, g5, g6]
def isCode : Jvm.Cond → Bool
  | .code _ _ _ _ => true
  | _ => false
theorem all_split {L : List Jvm.Cond} {P : Jvm.Cond → Bool} (h1 : L.all (fun c => isCode c || P c) = true) (h2 : ∀ c ∈ L.filter isCode, P c = true) : L.all P = true := by
  refine List.all_eq_true.mpr fun c hc => ?_
  have h := List.all_eq_true.mp h1 c hc
  rcases Bool.eq_false_or_eq_true (isCode c) with hi | hi
  · exact h2 c (List.mem_filter.mpr ⟨hc, hi⟩)
  · simpa [hi] using h
set_option maxRecDepth 65536 in
theorem w_c0 : (Jvm.Cond.code x code maxLocals ret).before args0 about1 = true := code_word (m := ⟨1, 2⟩) (meth := k1m2) (c := k1c2) (by decide +kernel) rfl rfl rfl (by decide +kernel)
set_option maxRecDepth 65536 in
theorem w_c1 : (Jvm.Cond.code ({ cls := "com/example/anonimato/anonimato/method/ClassEntropy", name := "compare", desc := "(DD)I" } : Jvm.MethodName) prog_34_method_4_code (5 : Nat) (Option.some Jvm.ClassFile.FieldType.int)).before args0 about1 = true := code_word (m := ⟨2, 1⟩) (meth := k2m1) (c := k2c1) (by decide +kernel) rfl rfl rfl (by decide +kernel)
set_option maxRecDepth 65536 in
theorem w_c2 : (Jvm.Cond.code ({ cls := "com/example/anonimato/anonimato/method/ClassEntropyComparePinLaw", name := "sign", desc := "(I)I" } : Jvm.MethodName) method_2_code (1 : Nat) (Option.some Jvm.ClassFile.FieldType.int)).before args0 about1 = true := code_word (m := ⟨1, 1⟩) (meth := k1m1) (c := k1c1) (by decide +kernel) rfl rfl rfl (by decide +kernel)
def codes1 : List Jvm.Cond := [Jvm.Cond.code x code maxLocals ret, Jvm.Cond.code ({ cls := "com/example/anonimato/anonimato/method/ClassEntropy", name := "compare", desc := "(DD)I" } : Jvm.MethodName) prog_34_method_4_code (5 : Nat) (Option.some Jvm.ClassFile.FieldType.int), Jvm.Cond.code ({ cls := "com/example/anonimato/anonimato/method/ClassEntropyComparePinLaw", name := "sign", desc := "(I)I" } : Jvm.MethodName) method_2_code (1 : Nat) (Option.some Jvm.ClassFile.FieldType.int)]
set_option maxRecDepth 65536 in
theorem codes_eq : words1.filter isCode = codes1 := rfl
theorem w_codes : ∀ c ∈ words1.filter isCode, c.before args0 about1 = true := by
  rw [codes_eq]
  intro c hc
  simp only [codes1, List.mem_cons, List.not_mem_nil, or_false] at hc
  rcases hc with rfl | rfl | rfl
  · exact w_c0
  · exact w_c1
  · exact w_c2
set_option maxRecDepth 65536 in
theorem w_t1 : words1.all (fun c => isCode c || c.before args0 about1) = true := by decide +kernel
theorem w_tables : (allAtoms (Jvm.Cond.code x code maxLocals ret :: tables_1)).before args0 about1 = true := by
  rw [allAtoms_all]
  show words1.all (fun c => c.before args0 about1) = true
  refine all_split ?_ w_codes
  rw [w_t1]
set_option maxRecDepth 65536 in
theorem w_case : (Jvm.Cond.and given_1 narrow_1).before args0 about1 = true := by decide +kernel
theorem w_applies : (headSpec (Jvm.Cond.code x code maxLocals ret :: tables_1) room_1).applies x e0.platform about1 = true :=
  (Spec.applies_iff w_frames).mpr ⟨w_running, w_runnable, w_alone, w_named, w_hears, w_ripe, w_room, w_tables⟩
theorem atStart : AtStart classFile x code maxLocals ret World_1 tables_1 room_1 Calls_1 rest_1 Pre_1 launch0 p0 e0 about1 theMethod args0 below0 :=
  ⟨lists_1, trivial, launch0.admits_env _ _ _, launch0.least_env, fairChoices_fair.cas, fairChoices_fair.clock, w_frames, w_args, w_heap, w_applies, trivial, trivial, w_case⟩
end start1
theorem witness_1 : WitnessClaimed_1 := ⟨start1.p0, start1.e0, start1.about1, start1.theMethod, start1.args0, start1.below0, start1.atStart⟩
end Jvm.Pilot.@@N@@
