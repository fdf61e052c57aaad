import JvmDerived
import JvmDerived.Pilot.@@N@@Statement
import JvmDerived.Pilot.@@N@@Code
set_option linter.unusedVariables false
set_option linter.unusedSimpArgs false
@@BLOCK:NumsL.lean.txt@@
namespace Jvm.RoadKit
open Sem ClassFile Op Lib Jvm.Stand Jvm.Free Jvm.LawKit
section New
variable {p : Program} {l : Launch} {e : Env} {R : Room} {s : State} {m : MethodId} {args : Array Value} {below : List Frame} {meth : Method} {c : Code} {T : State} {locs : List Loc} {cells slots : Nat}
theorem retI (X : Stand p l e R s m args below meth c T locs cells slots) (hx : p.tables.exec = Jvm.exec) {pc : Nat} {Ls : Array Slot} {z : Int32} {rest : List Value} (hret : meth.sig.returnType = some .int) (hd : decode c.code pc = .ok (.ireturn, 1)) {fs : List Frame}
    (hl : ∀ (f : JFrame) (acts : List Action), f.method = m → f.locked = none → f.entered = [] → (doReturn e (T.setTop f) acts (some (.int z))).1 = T.setFrames fs) : Steps p.tables e below (T.setTop (mkF m pc Ls (.int z :: rest))) (T.setFrames fs) := by
  have hm' : T.vm.method? m = some meth := X.method'
  have hn : narrow .int (.int z) = .int z := rfl
  show Steps p.tables e below (T.setTop { method := m, pc := pc, locals := Ls, stack := _ :: rest, locked := none }) _
  jvm_step X.here [X.here.top, hx, hd, hm', hret, hn]
  first | (intro acts; rw [hl _ acts rfl rfl rfl]) | rw [hl _ _ rfl rfl rfl]
  exact Steps.refl _
end New
theorem own_sta_keep {Z : State} {h h' : Heap} {C n d : String} {v : Value} {ws : List Addr} (F : Sta Z h C n d v) (K : Keep h h' ws) (q : ∀ x ∈ ws, ∀ cell : Cell, h[x]? = some cell → cell.vm.isStatics = false) : Sta Z h' C n d v := by
  obtain ⟨cf, i, k, f, st, cell, h1, h2, h3, h4, h5, h6, h7⟩ := F
  exact ⟨cf, i, k, f, st, cell, h1, h2, h3, h4, K.2.1 st cell h5 (fun hm => by rw [q st hm cell h5] at h6; cases h6), h6, h7⟩
/-- a class that is none of the interfaces -/
def NoFace (Z : State) (N : String) : Prop := ∃ (c : ClassId) (k : Class), Z.vm.findClass N = some c ∧ Z.vm.classes[c]? = some k ∧ k.isInterface = false
theorem own_noface {Z : State} {a0 : Array Value} {C : String} {y : MethodName} (w : (Cond.selects C y y).before a0 Z = true) : NoFace Z y.cls := by
  obtain ⟨c2, r2, m2, q1, q2, q3, q4, kP, hkP, hkPi⟩ := Cond.selects_spec w
  exact ⟨m2.cls, kP, findClass_of_methodNamed q3, hkP, hkPi⟩
theorem own_same {Z : State} {a0 : Array Value} {y : MethodName} (F : NoFace Z y.cls) (wi : (Cond.instanceMethod y).before a0 Z = true) (hy : y.cls ≠ "java/lang/invoke/MethodHandle" ∧ y.cls ≠ "java/lang/invoke/VarHandle") : (Cond.sameMethod y.cls y.cls y.name y.desc).before a0 Z = true := by
  obtain ⟨c, k, h1, h2, h3⟩ := F
  obtain ⟨mk, methM, hnamed, hmethM, -, -⟩ := Cond.instanceMethod_spec wi
  have hfound : Z.methodFound? y.cls y.name y.desc = some mk := State.methodFound?_of_named hnamed hy
  have hn : Z.methodNamed? ⟨y.cls, y.name, y.desc⟩ = some mk := hnamed
  simp only [Cond.before, Cond.holds, Cond.value, h1, hfound, hn, h2]
  simp; exact h3
theorem own_psel {Z : State} {a0 : Array Value} {y : MethodName} (F : NoFace Z y.cls) (wi : (Cond.instanceMethod y).before a0 Z = true) (wp : (Cond.privateMethod y).before a0 Z = true) (hy : y.cls ≠ "java/lang/invoke/MethodHandle" ∧ y.cls ≠ "java/lang/invoke/VarHandle") : (Cond.selects y.cls y y).before a0 Z = true := by
  obtain ⟨c, k, h1, h2, h3⟩ := F
  exact selects_self_of_private h1 h2 h3 (Cond.privateMethod_at wp) wi hy
/-- from A the run goes on as from B -/
def Rch (tb : Tables) (e : Env) (below : List Frame) (A B : State) : Prop := ∀ t, Steps tb e below B t → Steps tb e below A t
end Jvm.RoadKit
namespace Jvm.Pilot.@@N@@
open Jvm Jvm.ClassFile Sem Op Lib Jvm.Free Jvm.Stand Jvm.LawKit Jvm.RoadKit Bundle Jvm.Pilot.@@N@@.Jvm.D
def bg (a n : Int32) : Int32 := if a = 0 then (if 0 < n then 1 else 0) else 1
def vld (c : Int32) : Int32 := if c = 9 then 1 else if c < 32 then 0 else if c = 127 then 0 else 1
def stp (c go tk mo : Int32) : Int32 := if go = 0 then tk else if vld c = 0 then tk else if tk < mo then tk + 1 else tk
/-- a StringBuilder of 16 places, n of them used, of LATIN1 -/
def SBs (Z : State) (h : Heap) (sb va : Addr) (kv : ClassId) (n cs : Int32) : Prop := Exa Z h sb "java/lang/StringBuilder" ∧ Fld Z h sb "java/lang/AbstractStringBuilder" "value" "[B" (.ref va) ∧ Fld Z h sb "java/lang/AbstractStringBuilder" "coder" "B" (.int (0 : Int32)) ∧ Fld Z h sb "java/lang/AbstractStringBuilder" "count" "I" (.int n) ∧ (∃ vs : List Value, Arv Z h va kv .byte (16 : Int32) vs (.int (0 : Int32)) ∧ vs.length = 16) ∧ Sta Z h "java/lang/String" "COMPACT_STRINGS" "Z" (.int cs)
/-- a MessageLine: the CR seen or not (a), n signs taken, mo at most -/
def MLs (Z : State) (h : Heap) (ml sb va : Addr) (kv : ClassId) (a n mo cs : Int32) : Prop := Exa Z h ml "com/example/subjectline/subjectline/server/MessageLine" ∧ Fld Z h ml "com/example/subjectline/subjectline/server/MessageLine" "text" "Ljava/lang/StringBuilder;" (.ref sb) ∧ Fld Z h ml "com/example/subjectline/subjectline/server/MessageLine" "most" "I" (.int mo) ∧ Fld Z h ml "com/example/subjectline/subjectline/server/MessageLine" "afterCr" "Z" (.int a) ∧ SBs Z h sb va kv n cs ∧ ml ≠ sb ∧ ml ≠ va ∧ sb ≠ va
theorem own_ec {n : Int32} (h : ¬ n < 0 ∧ n < 15) : ¬ (0 : Int32) < ((n + (1 : Int32)) - (16 : Int32)) := by
  obtain ⟨h1, h2⟩ := h
  have e1 : (1 : Int32).toInt = 1 := by decide
  have e0 : (0 : Int32).toInt = 0 := by decide
  have e15 : (15 : Int32).toInt = 15 := by decide
  have e16 : (16 : Int32).toInt = 16 := by decide
  rw [Int32.lt_iff_toInt_lt] at *
  have a : (n + (1 : Int32)).toInt = n.toInt + 1 := by rw [← e1]; exact Jvm.Kit.i32_add (by omega) (by omega)
  have b : ((n + (1 : Int32)) - (16 : Int32)).toInt = (n + (1 : Int32)).toInt - 16 := by rw [← e16]; exact Jvm.Kit.i32_sub (by omega) (by omega)
  omega
theorem own_in {n : Int32} (h : ¬ n < 0 ∧ n < 15) : ¬ n < 0 ∧ n < (16 : Int32) := ⟨h.1, Int32.lt_trans h.2 (by decide)⟩
theorem own_pl {n : Int32} {vs : List Value} (h : ¬ n < 0 ∧ n < 15) (hv : vs.length = 16) : n.toNatClampNeg < vs.length := by
  obtain ⟨h1, h2⟩ := h
  have q := nat_of h1
  have e15 : (15 : Int32).toInt = 15 := by decide
  rw [Int32.lt_iff_toInt_lt] at h2
  omega
theorem own_v10 {q : Int32} (h : vld q = 1) : ¬ q = (10 : Int32) := fun e => by subst e; revert h; decide
theorem own_v13 {q : Int32} (h : vld q = 1) : ¬ q = (13 : Int32) := fun e => by subst e; revert h; decide
theorem own_v127 {q : Int32} (h : vld q = 1) : ¬ q = (127 : Int32) := fun e => by subst e; revert h; decide
theorem own_v32 {q : Int32} (h : vld q = 1) (c : ¬ q = (9 : Int32)) : ¬ q < (32 : Int32) := fun e => by simp [vld, c, e] at h
theorem own_v1 {q : Int32} (h : ¬ vld q = 0) : vld q = 1 := by
  unfold vld at *
  split at * <;> (try split at *) <;> (try split at *) <;> simp_all
theorem own_ne {n m : Int32} (h : n < m) : ¬ n = m := fun e => by subst e; exact Int32.lt_irrefl h
theorem own_byte {x q : Int32} (h : q = (x &&& (255 : Int32))) : ¬ q < 0 ∧ ¬ (255 : Int32) < q := by
  subst h
  have e := Jvm.Kit.i32_mask x 255 (k := 8) (by decide) (by decide)
  have e0 : (0 : Int32).toInt = 0 := by decide
  have e255 : (255 : Int32).toInt = 255 := by decide
  rw [Int32.lt_iff_toInt_lt, Int32.lt_iff_toInt_lt]; omega
theorem own_mask {q : Int32} (h0 : ¬ q < 0) (h : ¬ (255 : Int32) < q) : q &&& (255 : Int32) = q := by
  have e := Jvm.Kit.i32_mask q 255 (k := 8) (by decide) (by decide)
  have e0 : (0 : Int32).toInt = 0 := by decide
  have e255 : (255 : Int32).toInt = 255 := by decide
  rw [Int32.lt_iff_toInt_lt] at *
  refine Int32.toInt_inj.mp ?_
  omega
theorem own_i2c {q : Int32} (h0 : ¬ q < 0) (h : ¬ (255 : Int32) < q) : q.toUInt32.toUInt16.toUInt32.toInt32 = q := by
  have e := i2c_mask q
  rw [own_mask h0 h] at e; exact e
theorem own_stp {q go n mo t b : Int32} (hb : b < (14 : Int32)) (h : ¬ n < 0 ∧ n < b) (e : t = (stp q go n mo)) : ¬ t < 0 ∧ t < b + 1 := by
  obtain ⟨h1, h2⟩ := h
  have e1 : (1 : Int32).toInt = 1 := by decide
  have e0 : (0 : Int32).toInt = 0 := by decide
  have e14 : (14 : Int32).toInt = 14 := by decide
  rw [Int32.lt_iff_toInt_lt] at h1 h2 hb
  have a : (n + (1 : Int32)).toInt = n.toInt + 1 := by rw [← e1]; exact Jvm.Kit.i32_add (by omega) (by omega)
  have b' : (b + (1 : Int32)).toInt = b.toInt + 1 := by rw [← e1]; exact Jvm.Kit.i32_add (by omega) (by omega)
  have c : t = n ∨ t = n + 1 := by
    subst e; unfold stp
    split
    · exact Or.inl rfl
    · split
      · exact Or.inl rfl
      · split
        · exact Or.inr rfl
        · exact Or.inl rfl
  rw [Int32.lt_iff_toInt_lt, Int32.lt_iff_toInt_lt]
  rcases c with c | c <;> subst c <;> omega
theorem own_15 {n b : Int32} (h : ¬ n < 0 ∧ n < b) (hb : b < (15 : Int32)) : ¬ n < 0 ∧ n < 15 := ⟨h.1, Int32.lt_trans h.2 hb⟩
theorem own_af {t v : Int32} (h : v = (if (0 : Int32) < t then (1 : Int32) else (0 : Int32))) : (bg 0 t) = v := by subst h; rfl
theorem own_ex {t v : Int32} (h : v = (if (0 : Int32) < t then (1 : Int32) else (0 : Int32))) : (bg 0 t) = v := by subst h; rfl
theorem own_ex1 (t : Int32) : (bg 1 t) = (1 : Int32) := rfl
theorem d4_0 : decode jdk_68_method_2_code 0 = .ok (.aload_n 0, 1) := by decide +kernel
theorem d4_1 : decode jdk_68_method_2_code 1 = .ok (.invokespecial 3, 3) := by decide +kernel
theorem d4_4 : decode jdk_68_method_2_code 4 = .ok (.getstatic 18, 3) := by decide +kernel
theorem d4_7 : decode jdk_68_method_2_code 7 = .ok (.ifCond .eq 18, 3) := by decide +kernel
theorem d4_10 : decode jdk_68_method_2_code 10 = .ok (.aload_n 0, 1) := by decide +kernel
theorem d4_11 : decode jdk_68_method_2_code 11 = .ok (.iload_n 1, 1) := by decide +kernel
theorem d4_12 : decode jdk_68_method_2_code 12 = .ok (.newarray .byte, 2) := by decide +kernel
theorem d4_14 : decode jdk_68_method_2_code 14 = .ok (.putfield 15, 3) := by decide +kernel
theorem d4_17 : decode jdk_68_method_2_code 17 = .ok (.aload_n 0, 1) := by decide +kernel
theorem d4_18 : decode jdk_68_method_2_code 18 = .ok (.iconst 0, 1) := by decide +kernel
theorem d4_19 : decode jdk_68_method_2_code 19 = .ok (.putfield 22, 3) := by decide +kernel
theorem d4_22 : decode jdk_68_method_2_code 22 = .ok (.goto 16, 3) := by decide +kernel
theorem d4_38 : decode jdk_68_method_2_code 38 = .ok (.return_, 1) := by decide +kernel
theorem pn_0 : plainName "java/lang/AbstractStringBuilder" = true := by first | (simp [plainName, overriddenIn]; done) | decide +kernel
theorem ef_4 (m : MethodId) (x0 : Addr) (x1 : Int32) : entryFrame m #[(.ref x0), (.int x1)] 2 = mkF m 0 #[.val (.ref x0), .val (.int x1)] [] := by first | (simp [entryFrame, mkF, argsToLocals, Value.category]; done) | rfl
def Q4 (Z : State) (sb : Addr) (cs : Int32) (h0 : Heap) (n0 : Nat) (v : Option Value) (h : Heap) (L : List Loc) : Prop := ∃ (va : Addr) (kv : ClassId), v = none ∧ Fr n0 L ∧ Keep h0 h [sb] ∧ SBs Z h sb va kv 0 cs ∧ n0 ≤ va ∧ h0.size ≤ va ∧ sb ≠ va
set_option maxRecDepth 65536 in
set_option maxHeartbeats 40000000 in
theorem rm4 (l : Launch) (Z : State) (a0 : Array Value) (hw : ∀ d ∈ tables_1, d.before a0 Z = true) (ws : List Jvm.Cond) (sb : Addr) (cs : Int32) (h0 : Heap) (n0 : Nat) (Z0 : n0 ≤ h0.size) (E1 : Exa Z h0 sb "java/lang/StringBuilder") (F1 : Fld Z h0 sb "java/lang/AbstractStringBuilder" "value" "[B" .null) (F2 : Fld Z h0 sb "java/lang/AbstractStringBuilder" "coder" "B" (.int (0 : Int32))) (F3 : Fld Z h0 sb "java/lang/AbstractStringBuilder" "count" "I" (.int (0 : Int32))) (S1 : Sta Z h0 "java/lang/String" "COMPACT_STRINGS" "Z" (.int cs)) (gs : n0 ≤ sb) (hcs : ¬ cs = 0) :
    MetFree l (⟨"java/lang/AbstractStringBuilder", "<init>", "(I)V"⟩ : MethodName) (head1 (Jvm.Cond.code (⟨"java/lang/AbstractStringBuilder", "<init>", "(I)V"⟩ : MethodName) jdk_68_method_2_code 2 none :: ws) ({ frames := 1, cells := 1, slots := 16, locals := 13 } : Room)) (fun aA U => aA = #[(.ref sb), (.int (16 : Int32))] ∧ Z.Warmed39 U.vm ∧ U.heap = h0) (fun _ _ _ _ _ => True) (fun _ U oO U' => ∃ vV LL, oO = .returned vV ∧ Q4 Z sb cs h0 n0 vV U'.heap LL ∧ FrameEnd U oO U' LL ({ frames := 1, cells := 1, slots := 16, locals := 13 } : Room).cells ({ frames := 1, cells := 1, slots := 16, locals := 13 } : Room).slots) := by
  refine MetFree.of_bodySF (plainFor_of_name pn_0) hisR ?_
  intro p e s m args below meth c s₁ Bd hml0 hP hK
  obtain ⟨rfl, hZ, hh⟩ := hP
  have hx := Bd.exec
  have hby := Bd.bytes
  have hml : c.maxLocals = 2 := hml0
  have hown : s.vm.findClass "java/lang/AbstractStringBuilder" = some m.cls := findClass_of_methodNamed Bd.named
  have hnm := (name_of_methodNamed Bd.named Bd.method).1
  have X0 : Stand p l e ({ frames := 1, cells := 1, slots := 16, locals := 13 } : Room) s m #[(.ref sb), (.int (16 : Int32))] below meth c s₁ [] 0 0 := Stand.of_body Bd
  have e0 : s₁.heap = h0 := by rw [← hh, Bd.state]; rfl
  have N0 := Fr.nil n0
  have K0 : Keep h0 h0 [sb] := Keep.refl _ _
  have pre0 : Rch p.tables e below (s₁.setTop (entryFrame m #[(.ref sb), (.int (16 : Int32))] 2)) (s₁.setTop (mkF m 0 #[.val (.ref sb), .val (.int (16 : Int32))] [])) := fun tgt ktg => castTop (ef_4 m sb (16 : Int32)) ktg
  have pre1 : Rch p.tables e below (s₁.setTop (entryFrame m #[(.ref sb), (.int (16 : Int32))] 2)) (s₁.setTop (mkF m 1 #[.val (.ref sb), .val (.int (16 : Int32))] [(.ref sb)])) := fun tgt ktg => pre0 tgt (by
    show Steps p.tables e below (s₁.setTop (mkF m 0 #[.val (.ref sb), .val (.int (16 : Int32))] [])) _
    refine XS.aloadN X0.here hx rfl (hb hby d4_0) rfl rfl ?_
    exact ktg)
  obtain ⟨T2, X2, e2, st2⟩ := initO X0 hx hZ hown (hw _ (List.mem_of_getElem? (i := 21) rfl)) (hw _ (List.mem_of_getElem? (i := 7) rfl)) (hw _ (List.mem_of_getElem? (i := 8) rfl)) e0 (g := (mkF m 1 #[.val (.ref sb), .val (.int (16 : Int32))] [(.ref sb)])) rfl (by rw [hml]; rfl) rfl (hb hby d4_1) (by decide) (W := 0) (by show 2 * 0 + _ ≤ _; exact Nat.le_of_eq rfl) (by decide)
  have pre2 : Rch p.tables e below (s₁.setTop (entryFrame m #[(.ref sb), (.int (16 : Int32))] 2)) (T2.setTop (mkF m 4 #[.val (.ref sb), .val (.int (16 : Int32))] [])) := fun tgt ktg => pre1 tgt (st2 tgt ktg)
  obtain ⟨T3, X3, e3, st3⟩ := getS2 X2 hx hZ hown (host := "") (Or.inl (hw _ (List.mem_of_getElem? (i := 22) rfl))) Via.refl e2 S1 (g := (mkF m 4 #[.val (.ref sb), .val (.int (16 : Int32))] [])) rfl (hb hby d4_4)
  have pre3 : Rch p.tables e below (s₁.setTop (entryFrame m #[(.ref sb), (.int (16 : Int32))] 2)) (T3.setTop (mkF m 7 #[.val (.ref sb), .val (.int (16 : Int32))] [(.int cs)])) := fun tgt ktg => pre2 tgt (st3 tgt ktg)
  have pre4 : Rch p.tables e below (s₁.setTop (entryFrame m #[(.ref sb), (.int (16 : Int32))] 2)) (T3.setTop (mkF m 12 #[.val (.ref sb), .val (.int (16 : Int32))] [(.int (16 : Int32)), (.ref sb)])) := fun tgt ktg => pre3 tgt (by
    show Steps p.tables e below (T3.setTop (mkF m 7 #[.val (.ref sb), .val (.int (16 : Int32))] [(.int cs)])) _
    refine XS.ifNo X3.here hx rfl (hb hby d4_7) rfl ((if0 _ _).trans (feq hcs).1) ?_
    show Steps p.tables e below (T3.setTop (mkF m 10 #[.val (.ref sb), .val (.int (16 : Int32))] [])) _
    refine XS.aloadN X3.here hx rfl (hb hby d4_10) rfl rfl ?_
    show Steps p.tables e below (T3.setTop (mkF m 11 #[.val (.ref sb), .val (.int (16 : Int32))] [(.ref sb)])) _
    refine XS.iloadN X3.here hx rfl (hb hby d4_11) rfl ?_
    exact ktg)
  obtain ⟨T5, h5, k5, X5, e5, E5, A5, st5⟩ := newP X3 hx hZ (hw _ (List.mem_of_getElem? (i := 24) rfl)) e3 (g := (mkF m 12 #[.val (.ref sb), .val (.int (16 : Int32))] [(.int (16 : Int32)), (.ref sb)])) rfl (hb hby d4_12) rfl (by decide) (cap := 16) (by decide) (by decide) (by decide) (by decide)
  obtain ⟨va, g5⟩ : ∃ nm_, nm_ = h0.size := ⟨_, rfl⟩
  rw [← g5] at A5 st5
  have ne_sb_va : sb ≠ va := Nat.ne_of_lt (Nat.lt_of_lt_of_le E1.lt (Nat.le_of_eq g5.symm))
  have g_va : n0 ≤ va := Nat.le_trans Z0 (Nat.le_of_eq g5.symm)
  have sz_va : h0.size ≤ va := Nat.le_trans K0.1 (Nat.le_of_eq g5.symm)
  have pre5 : Rch p.tables e below (s₁.setTop (entryFrame m #[(.ref sb), (.int (16 : Int32))] 2)) (T5.setTop (mkF m 14 #[.val (.ref sb), .val (.int (16 : Int32))] [(.ref va), (.ref sb)])) := fun tgt ktg => pre4 tgt (st5 tgt ktg)
  have f6 : Exa Z h5 sb "java/lang/StringBuilder" := E1.ext E5
  have f7 : Fld Z h5 sb "java/lang/AbstractStringBuilder" "value" "[B" .null := F1.ext E5
  have f8 : Fld Z h5 sb "java/lang/AbstractStringBuilder" "coder" "B" (.int (0 : Int32)) := F2.ext E5
  have f9 : Fld Z h5 sb "java/lang/AbstractStringBuilder" "count" "I" (.int (0 : Int32)) := F3.ext E5
  have f10 : Sta Z h5 "java/lang/String" "COMPACT_STRINGS" "Z" (.int cs) := S1.ext E5
  have z11 : n0 ≤ h5.size := Nat.le_trans Z0 E5.1
  have K12 : Keep h0 h5 [sb] := K0.ext E5
  have f13 : Arv Z h5 va k5 .byte (16 : Int32) [(.int (0 : Int32)), (.int (0 : Int32)), (.int (0 : Int32)), (.int (0 : Int32)), (.int (0 : Int32)), (.int (0 : Int32)), (.int (0 : Int32)), (.int (0 : Int32)), (.int (0 : Int32)), (.int (0 : Int32)), (.int (0 : Int32)), (.int (0 : Int32)), (.int (0 : Int32)), (.int (0 : Int32)), (.int (0 : Int32)), (.int (0 : Int32))] (.int (0 : Int32)) := (Arv.new A5 (by decide)).pad (pad_rep [] (.int (0 : Int32)) 16)
  obtain ⟨T14, h14, X14, e14, W14, st14⟩ := putF X5 hx hZ hown (host := "") (Or.inl (hw _ (List.mem_of_getElem? (i := 25) rfl))) Via.refl e5 f7 f6 (Or.inl (hw _ (List.mem_of_getElem? (i := 26) rfl))) (hw _ (List.mem_of_getElem? (i := 10) rfl)) (ty := (.array .byte)) (by decide) rfl rfl (g := (mkF m 14 #[.val (.ref sb), .val (.int (16 : Int32))] [(.ref va), (.ref sb)])) rfl rfl (hb hby d4_14)
  have pre14 : Rch p.tables e below (s₁.setTop (entryFrame m #[(.ref sb), (.int (16 : Int32))] 2)) (T14.setTop (mkF m 17 #[.val (.ref sb), .val (.int (16 : Int32))] [])) := fun tgt ktg => pre5 tgt (st14 tgt ktg)
  have f15 : Exa Z h14 sb "java/lang/StringBuilder" := f6.wr W14
  have f16 : Fld Z h14 sb "java/lang/AbstractStringBuilder" "coder" "B" (.int (0 : Int32)) := f8.other W14 (Or.inr (slot_ne (Or.inl (hw _ (List.mem_of_getElem? (i := 28) rfl))) (Or.inl (hw _ (List.mem_of_getElem? (i := 26) rfl))) (by decide) (t := .byte) (t' := (.array .byte)) (by decide) (by decide)))
  have f17 : Fld Z h14 sb "java/lang/AbstractStringBuilder" "count" "I" (.int (0 : Int32)) := f9.other W14 (Or.inr (slot_ne (Or.inl (hw _ (List.mem_of_getElem? (i := 51) rfl))) (Or.inl (hw _ (List.mem_of_getElem? (i := 26) rfl))) (by decide) (t := .int) (t' := (.array .byte)) (by decide) (by decide)))
  have f18 : Sta Z h14 "java/lang/String" "COMPACT_STRINGS" "Z" (.int cs) := f10.wr W14
  have f19 : Arv Z h14 va k5 .byte (16 : Int32) [(.int (0 : Int32)), (.int (0 : Int32)), (.int (0 : Int32)), (.int (0 : Int32)), (.int (0 : Int32)), (.int (0 : Int32)), (.int (0 : Int32)), (.int (0 : Int32)), (.int (0 : Int32)), (.int (0 : Int32)), (.int (0 : Int32)), (.int (0 : Int32)), (.int (0 : Int32)), (.int (0 : Int32)), (.int (0 : Int32)), (.int (0 : Int32))] (.int (0 : Int32)) := f13.other W14 (Ne.symm ne_sb_va)
  have z20 : n0 ≤ h14.size := Nat.le_trans z11 (Keep.of_wr W14).1
  have K21 : Keep h0 h14 [sb] := K12.wr W14 (Or.inl (List.mem_of_getElem? (i := 0) rfl))
  have f22 : Fld Z h14 sb "java/lang/AbstractStringBuilder" "value" "[B" (.ref va) := f7.same W14
  have N23 := Fr.snoc X14 N0 gs
  have pre24 : Rch p.tables e below (s₁.setTop (entryFrame m #[(.ref sb), (.int (16 : Int32))] 2)) (T14.setTop (mkF m 19 #[.val (.ref sb), .val (.int (16 : Int32))] [(.int (0 : Int32)), (.ref sb)])) := fun tgt ktg => pre14 tgt (by
    show Steps p.tables e below (T14.setTop (mkF m 17 #[.val (.ref sb), .val (.int (16 : Int32))] [])) _
    refine XS.aloadN X14.here hx rfl (hb hby d4_17) rfl rfl ?_
    show Steps p.tables e below (T14.setTop (mkF m 18 #[.val (.ref sb), .val (.int (16 : Int32))] [(.ref sb)])) _
    refine XS.iconst X14.here hx rfl (hb hby d4_18) ?_
    exact ktg)
  obtain ⟨T25, h25, X25, e25, W25, st25⟩ := putFN X14 hx hZ hown (hw _ (List.mem_of_getElem? (i := 27) rfl)) Via.refl e14 f16 f15 (Or.inl (hw _ (List.mem_of_getElem? (i := 28) rfl))) (hw _ (List.mem_of_getElem? (i := 10) rfl)) (ty := .byte) (v' := (.int (0 : Int32))) (by decide) rfl (by decide) (g := (mkF m 19 #[.val (.ref sb), .val (.int (16 : Int32))] [(.int (0 : Int32)), (.ref sb)])) rfl rfl (hb hby d4_19)
  have pre25 : Rch p.tables e below (s₁.setTop (entryFrame m #[(.ref sb), (.int (16 : Int32))] 2)) (T25.setTop (mkF m 22 #[.val (.ref sb), .val (.int (16 : Int32))] [])) := fun tgt ktg => pre24 tgt (st25 tgt ktg)
  have f26 : Exa Z h25 sb "java/lang/StringBuilder" := f15.wr W25
  have f27 : Fld Z h25 sb "java/lang/AbstractStringBuilder" "count" "I" (.int (0 : Int32)) := f17.other W25 (Or.inr (slot_ne (Or.inl (hw _ (List.mem_of_getElem? (i := 51) rfl))) (Or.inl (hw _ (List.mem_of_getElem? (i := 28) rfl))) (by decide) (t := .int) (t' := .byte) (by decide) (by decide)))
  have f28 : Sta Z h25 "java/lang/String" "COMPACT_STRINGS" "Z" (.int cs) := f18.wr W25
  have f29 : Arv Z h25 va k5 .byte (16 : Int32) [(.int (0 : Int32)), (.int (0 : Int32)), (.int (0 : Int32)), (.int (0 : Int32)), (.int (0 : Int32)), (.int (0 : Int32)), (.int (0 : Int32)), (.int (0 : Int32)), (.int (0 : Int32)), (.int (0 : Int32)), (.int (0 : Int32)), (.int (0 : Int32)), (.int (0 : Int32)), (.int (0 : Int32)), (.int (0 : Int32)), (.int (0 : Int32))] (.int (0 : Int32)) := f19.other W25 (Ne.symm ne_sb_va)
  have f30 : Fld Z h25 sb "java/lang/AbstractStringBuilder" "value" "[B" (.ref va) := f22.other W25 (Or.inr (slot_ne (Or.inl (hw _ (List.mem_of_getElem? (i := 26) rfl))) (Or.inl (hw _ (List.mem_of_getElem? (i := 28) rfl))) (by decide) (t := (.array .byte)) (t' := .byte) (by decide) (by decide)))
  have z31 : n0 ≤ h25.size := Nat.le_trans z20 (Keep.of_wr W25).1
  have K32 : Keep h0 h25 [sb] := K21.wr W25 (Or.inl (List.mem_of_getElem? (i := 0) rfl))
  have f33 : Fld Z h25 sb "java/lang/AbstractStringBuilder" "coder" "B" (.int (0 : Int32)) := f16.same W25
  have N34 := Fr.snoc X25 N23 gs
  have pre35 : Rch p.tables e below (s₁.setTop (entryFrame m #[(.ref sb), (.int (16 : Int32))] 2)) (T25.setTop (mkF m 38 #[.val (.ref sb), .val (.int (16 : Int32))] [])) := fun tgt ktg => pre25 tgt (by
    show Steps p.tables e below (T25.setTop (mkF m 22 #[.val (.ref sb), .val (.int (16 : Int32))] [])) _
    refine XS.goto X25.here hx rfl (pc0 := 22) (pc' := 38) rfl (hb hby d4_22) (by decide) (by decide) ?_
    exact ktg)
  obtain ⟨fs, hr, hrun, hended, hW, hsame⟩ := X25.leave (v := none) (fun _ => rfl)
  refine ⟨_, _, pre35 _ ?_, hrun, hended, _, _, rfl, ?_, ⟨_, rfl⟩, hW, hsame.mono (by decide) (by decide)⟩
  · show Steps p.tables e below (T25.setTop (mkF m 38 #[.val (.ref sb), .val (.int (16 : Int32))] [])) _
    exact X25.returnOut hx Bd.returns (hb hby d4_38) hr
  · show Q4 Z sb cs h0 n0 _ T25.heap _
    rw [e25]
    exact ⟨va, k5, rfl, N34, K32, ⟨f26, f30, f33, f27, ⟨_, f29, rfl⟩, f28⟩, g_va, sz_va, ne_sb_va⟩
theorem d3_0 : decode jdk_67_method_1_code 0 = .ok (.aload_n 0, 1) := by decide +kernel
theorem d3_1 : decode jdk_67_method_1_code 1 = .ok (.bipush 16, 2) := by decide +kernel
theorem d3_3 : decode jdk_67_method_1_code 3 = .ok (.invokespecial 1, 3) := by decide +kernel
theorem pd_0 : parseMethodDescriptor "(I)V" = some ⟨[.int], none⟩ := by decide +kernel
theorem d3_6 : decode jdk_67_method_1_code 6 = .ok (.return_, 1) := by decide +kernel
theorem pn_1 : plainName "java/lang/StringBuilder" = true := by first | (simp [plainName, overriddenIn]; done) | decide +kernel
theorem ef_3 (m : MethodId) (x0 : Addr) : entryFrame m #[(.ref x0)] 1 = mkF m 0 #[.val (.ref x0)] [] := by first | (simp [entryFrame, mkF, argsToLocals, Value.category]; done) | rfl
def Q3 (Z : State) (sb : Addr) (cs : Int32) (h0 : Heap) (n0 : Nat) (v : Option Value) (h : Heap) (L : List Loc) : Prop := ∃ (va : Addr) (kv : ClassId), v = none ∧ Fr n0 L ∧ Keep h0 h [sb] ∧ SBs Z h sb va kv 0 cs ∧ n0 ≤ va ∧ h0.size ≤ va ∧ sb ≠ va
set_option maxRecDepth 65536 in
set_option maxHeartbeats 40000000 in
theorem rm3 (l : Launch) (Z : State) (a0 : Array Value) (hw : ∀ d ∈ tables_1, d.before a0 Z = true) (ws : List Jvm.Cond) (sb : Addr) (cs : Int32) (h0 : Heap) (n0 : Nat) (Z0 : n0 ≤ h0.size) (E1 : Exa Z h0 sb "java/lang/StringBuilder") (F1 : Fld Z h0 sb "java/lang/AbstractStringBuilder" "value" "[B" .null) (F2 : Fld Z h0 sb "java/lang/AbstractStringBuilder" "coder" "B" (.int (0 : Int32))) (F3 : Fld Z h0 sb "java/lang/AbstractStringBuilder" "count" "I" (.int (0 : Int32))) (S1 : Sta Z h0 "java/lang/String" "COMPACT_STRINGS" "Z" (.int cs)) (gs : n0 ≤ sb) (hcs : ¬ cs = 0) :
    MetFree l (⟨"java/lang/StringBuilder", "<init>", "()V"⟩ : MethodName) (head1 (Jvm.Cond.code (⟨"java/lang/StringBuilder", "<init>", "()V"⟩ : MethodName) jdk_67_method_1_code 1 none :: ws) ({ frames := 2, cells := 1, slots := 16, locals := 26 } : Room)) (fun aA U => aA = #[(.ref sb)] ∧ Z.Warmed39 U.vm ∧ U.heap = h0) (fun _ _ _ _ _ => True) (fun _ U oO U' => ∃ vV LL, oO = .returned vV ∧ Q3 Z sb cs h0 n0 vV U'.heap LL ∧ FrameEnd U oO U' LL ({ frames := 2, cells := 1, slots := 16, locals := 26 } : Room).cells ({ frames := 2, cells := 1, slots := 16, locals := 26 } : Room).slots) := by
  refine MetFree.of_bodySF (plainFor_of_name pn_1) hisR ?_
  intro p e s m args below meth c s₁ Bd hml0 hP hK
  obtain ⟨rfl, hZ, hh⟩ := hP
  have hx := Bd.exec
  have hby := Bd.bytes
  have hml : c.maxLocals = 1 := hml0
  have hown : s.vm.findClass "java/lang/StringBuilder" = some m.cls := findClass_of_methodNamed Bd.named
  have hnm := (name_of_methodNamed Bd.named Bd.method).1
  have X0 : Stand p l e ({ frames := 2, cells := 1, slots := 16, locals := 26 } : Room) s m #[(.ref sb)] below meth c s₁ [] 0 0 := Stand.of_body Bd
  have e0 : s₁.heap = h0 := by rw [← hh, Bd.state]; rfl
  have N0 := Fr.nil n0
  have K0 : Keep h0 h0 [sb] := Keep.refl _ _
  have pre0 : Rch p.tables e below (s₁.setTop (entryFrame m #[(.ref sb)] 1)) (s₁.setTop (mkF m 0 #[.val (.ref sb)] [])) := fun tgt ktg => castTop (ef_3 m sb) ktg
  have pre1 : Rch p.tables e below (s₁.setTop (entryFrame m #[(.ref sb)] 1)) (s₁.setTop (mkF m 3 #[.val (.ref sb)] [(.int (16 : Int32)), (.ref sb)])) := fun tgt ktg => pre0 tgt (by
    show Steps p.tables e below (s₁.setTop (mkF m 0 #[.val (.ref sb)] [])) _
    refine XS.aloadN X0.here hx rfl (hb hby d3_0) rfl rfl ?_
    show Steps p.tables e below (s₁.setTop (mkF m 1 #[.val (.ref sb)] [(.ref sb)])) _
    refine XS.bipush X0.here hx rfl (hb hby d3_1) ?_
    exact ktg)
  obtain ⟨_, _, ⟨T2, L2, k2, n2⟩, -, X2, ⟨Lc2, hQ2, l2, y2, z2⟩, st2⟩ := X0.specialBack hx (y := (⟨"java/lang/AbstractStringBuilder", "<init>", "(I)V"⟩ : MethodName)) rfl hown (mvT hZ (hw _ (List.mem_of_getElem? (i := 15) rfl))) (mvT hZ (hw _ (List.mem_of_getElem? (i := 16) rfl))) (mvT hZ (hw _ (List.mem_of_getElem? (i := 20) rfl))) (by decide) (backOf (W := 0) (rm4 l Z a0 hw [] sb cs h0 n0 Z0 E1 F1 F2 F3 S1 gs hcs) hZ (hw _ (List.mem_of_getElem? (i := 20) rfl)) (hw _ (List.mem_of_getElem? (i := 19) rfl)) (by decide) (by decide)) (g := (mkF m 3 #[.val (.ref sb)] [(.int (16 : Int32)), (.ref sb)])) rfl (by rw [hml]; rfl) (Steps.refl _) (a := sb) (argsL := [(.int (16 : Int32))]) (rest := []) (lenOf pd_0 rfl) rfl (by show 2 * 0 + _ ≤ _; exact Nat.le_of_eq rfl) (hb hby d3_3) (fun _ _ => ⟨rfl, e0, (by decide : 0 + 1 ≤ _), (by decide : 0 + 16 ≤ _)⟩)
  dsimp only [Pt.U, Pt.locs, Pt.cells, Pt.slots] at X2 l2 y2 z2 st2 hQ2
  subst l2 y2 z2
  obtain ⟨va, kv, rfl, Nq2, Kq2, b1, b2, b3, b4⟩ := hQ2
  have N3 := Fr.app N0 Nq2
  have pre2 : Rch p.tables e below (s₁.setTop (entryFrame m #[(.ref sb)] 1)) (T2.setTop (mkF m 6 #[.val (.ref sb)] [])) := fun tgt ktg => pre1 tgt (st2.trans ktg)
  have z4 : n0 ≤ T2.heap.size := Nat.le_trans Z0 Kq2.1
  have K5 : Keep h0 T2.heap [sb] := K0.trans Kq2 (allS (P := fun x => x ∈ [sb] ∨ h0.size ≤ x) (Or.inl (List.mem_of_getElem? (i := 0) rfl)) (all0 (P := fun x => x ∈ [sb] ∨ h0.size ≤ x)))
  obtain ⟨fs, hr, hrun, hended, hW, hsame⟩ := X2.leave (v := none) (fun _ => rfl)
  refine ⟨_, _, pre2 _ ?_, hrun, hended, _, _, rfl, ?_, ⟨_, rfl⟩, hW, hsame.mono (by decide) (by decide)⟩
  · show Steps p.tables e below (T2.setTop (mkF m 6 #[.val (.ref sb)] [])) _
    exact X2.returnOut hx Bd.returns (hb hby d3_6) hr
  · show Q3 Z sb cs h0 n0 _ T2.heap _
    exact ⟨va, kv, rfl, N3, K5, b1, b2, b3, b4⟩
theorem d1_0 : decode prog_44_method_1_code 0 = .ok (.aload_n 0, 1) := by decide +kernel
theorem d1_1 : decode prog_44_method_1_code 1 = .ok (.invokespecial 1, 3) := by decide +kernel
theorem d1_4 : decode prog_44_method_1_code 4 = .ok (.aload_n 0, 1) := by decide +kernel
theorem d1_5 : decode prog_44_method_1_code 5 = .ok (.new 7, 3) := by decide +kernel
theorem d1_8 : decode prog_44_method_1_code 8 = .ok (.dup, 1) := by decide +kernel
theorem d1_9 : decode prog_44_method_1_code 9 = .ok (.invokespecial 9, 3) := by decide +kernel
theorem pd_1 : parseMethodDescriptor "()V" = some ⟨[], none⟩ := by decide +kernel
theorem d1_12 : decode prog_44_method_1_code 12 = .ok (.putfield 10, 3) := by decide +kernel
theorem d1_15 : decode prog_44_method_1_code 15 = .ok (.aload_n 0, 1) := by decide +kernel
theorem d1_16 : decode prog_44_method_1_code 16 = .ok (.iload_n 1, 1) := by decide +kernel
theorem d1_17 : decode prog_44_method_1_code 17 = .ok (.putfield 16, 3) := by decide +kernel
theorem d1_20 : decode prog_44_method_1_code 20 = .ok (.return_, 1) := by decide +kernel
theorem pn_2 : plainName "com/example/subjectline/subjectline/server/MessageLine" = true := by first | (simp [plainName, overriddenIn]; done) | decide +kernel
theorem ef_1 (m : MethodId) (x0 : Addr) (x1 : Int32) : entryFrame m #[(.ref x0), (.int x1)] 2 = mkF m 0 #[.val (.ref x0), .val (.int x1)] [] := by first | (simp [entryFrame, mkF, argsToLocals, Value.category]; done) | rfl
def Q1 (Z : State) (ml : Addr) (mo : Int32) (cs : Int32) (h0 : Heap) (n0 : Nat) (v : Option Value) (h : Heap) (L : List Loc) : Prop := ∃ (sb va : Addr) (kv : ClassId), v = none ∧ Fr n0 L ∧ Keep h0 h [ml] ∧ MLs Z h ml sb va kv 0 0 mo cs ∧ n0 ≤ sb ∧ n0 ≤ va
set_option maxRecDepth 65536 in
set_option maxHeartbeats 40000000 in
theorem rm1 (l : Launch) (Z : State) (a0 : Array Value) (hw : ∀ d ∈ tables_1, d.before a0 Z = true) (ws : List Jvm.Cond) (ml : Addr) (mo : Int32) (cs : Int32) (h0 : Heap) (n0 : Nat) (Z0 : n0 ≤ h0.size) (E1 : Exa Z h0 ml "com/example/subjectline/subjectline/server/MessageLine") (F1 : Fld Z h0 ml "com/example/subjectline/subjectline/server/MessageLine" "text" "Ljava/lang/StringBuilder;" .null) (F2 : Fld Z h0 ml "com/example/subjectline/subjectline/server/MessageLine" "most" "I" (.int (0 : Int32))) (F3 : Fld Z h0 ml "com/example/subjectline/subjectline/server/MessageLine" "afterCr" "Z" (.int (0 : Int32))) (S1 : Sta Z h0 "java/lang/String" "COMPACT_STRINGS" "Z" (.int cs)) (gm : n0 ≤ ml) (hcs : ¬ cs = 0) :
    MetFree l (⟨"com/example/subjectline/subjectline/server/MessageLine", "<init>", "(I)V"⟩ : MethodName) (head1 (Jvm.Cond.code (⟨"com/example/subjectline/subjectline/server/MessageLine", "<init>", "(I)V"⟩ : MethodName) prog_44_method_1_code 2 none :: ws) ({ frames := 3, cells := 2, slots := 20, locals := 42 } : Room)) (fun aA U => aA = #[(.ref ml), (.int mo)] ∧ Z.Warmed39 U.vm ∧ U.heap = h0) (fun _ _ _ _ _ => True) (fun _ U oO U' => ∃ vV LL, oO = .returned vV ∧ Q1 Z ml mo cs h0 n0 vV U'.heap LL ∧ FrameEnd U oO U' LL ({ frames := 3, cells := 2, slots := 20, locals := 42 } : Room).cells ({ frames := 3, cells := 2, slots := 20, locals := 42 } : Room).slots) := by
  refine MetFree.of_bodySF (plainFor_of_name pn_2) hisR ?_
  intro p e s m args below meth c s₁ Bd hml0 hP hK
  obtain ⟨rfl, hZ, hh⟩ := hP
  have hx := Bd.exec
  have hby := Bd.bytes
  have hml : c.maxLocals = 2 := hml0
  have hown : s.vm.findClass "com/example/subjectline/subjectline/server/MessageLine" = some m.cls := findClass_of_methodNamed Bd.named
  have hnm := (name_of_methodNamed Bd.named Bd.method).1
  have X0 : Stand p l e ({ frames := 3, cells := 2, slots := 20, locals := 42 } : Room) s m #[(.ref ml), (.int mo)] below meth c s₁ [] 0 0 := Stand.of_body Bd
  have e0 : s₁.heap = h0 := by rw [← hh, Bd.state]; rfl
  have N0 := Fr.nil n0
  have K0 : Keep h0 h0 [ml] := Keep.refl _ _
  have pre0 : Rch p.tables e below (s₁.setTop (entryFrame m #[(.ref ml), (.int mo)] 2)) (s₁.setTop (mkF m 0 #[.val (.ref ml), .val (.int mo)] [])) := fun tgt ktg => castTop (ef_1 m ml mo) ktg
  have pre1 : Rch p.tables e below (s₁.setTop (entryFrame m #[(.ref ml), (.int mo)] 2)) (s₁.setTop (mkF m 1 #[.val (.ref ml), .val (.int mo)] [(.ref ml)])) := fun tgt ktg => pre0 tgt (by
    show Steps p.tables e below (s₁.setTop (mkF m 0 #[.val (.ref ml), .val (.int mo)] [])) _
    refine XS.aloadN X0.here hx rfl (hb hby d1_0) rfl rfl ?_
    exact ktg)
  obtain ⟨T2, X2, e2, st2⟩ := initO X0 hx hZ hown (hw _ (List.mem_of_getElem? (i := 6) rfl)) (hw _ (List.mem_of_getElem? (i := 7) rfl)) (hw _ (List.mem_of_getElem? (i := 8) rfl)) e0 (g := (mkF m 1 #[.val (.ref ml), .val (.int mo)] [(.ref ml)])) rfl (by rw [hml]; rfl) rfl (hb hby d1_1) (by decide) (W := 0) (by show 2 * 0 + _ ≤ _; exact Nat.le_of_eq rfl) (by decide)
  have pre2 : Rch p.tables e below (s₁.setTop (entryFrame m #[(.ref ml), (.int mo)] 2)) (T2.setTop (mkF m 4 #[.val (.ref ml), .val (.int mo)] [])) := fun tgt ktg => pre1 tgt (st2 tgt ktg)
  have pre3 : Rch p.tables e below (s₁.setTop (entryFrame m #[(.ref ml), (.int mo)] 2)) (T2.setTop (mkF m 5 #[.val (.ref ml), .val (.int mo)] [(.ref ml)])) := fun tgt ktg => pre2 tgt (by
    show Steps p.tables e below (T2.setTop (mkF m 4 #[.val (.ref ml), .val (.int mo)] [])) _
    refine XS.aloadN X2.here hx rfl (hb hby d1_4) rfl rfl ?_
    exact ktg)
  obtain ⟨T4, h4, X4, e4, E4, A4, D4, U4, st4⟩ := newO X2 hx hZ hown (hw _ (List.mem_of_getElem? (i := 9) rfl)) (hw _ (List.mem_of_getElem? (i := 10) rfl)) (hw _ (List.mem_of_getElem? (i := 11) rfl)) e2 (g := (mkF m 5 #[.val (.ref ml), .val (.int mo)] [(.ref ml)])) rfl (hb hby d1_5) (by decide) (by decide)
  obtain ⟨sb, g4⟩ : ∃ nm_, nm_ = h0.size := ⟨_, rfl⟩
  rw [← g4] at A4 D4 U4 st4
  have ne_ml_sb : ml ≠ sb := Nat.ne_of_lt (Nat.lt_of_lt_of_le E1.lt (Nat.le_of_eq g4.symm))
  have g_sb : n0 ≤ sb := Nat.le_trans Z0 (Nat.le_of_eq g4.symm)
  have sz_sb : h0.size ≤ sb := Nat.le_trans K0.1 (Nat.le_of_eq g4.symm)
  have pre4 : Rch p.tables e below (s₁.setTop (entryFrame m #[(.ref ml), (.int mo)] 2)) (T4.setTop (mkF m 8 #[.val (.ref ml), .val (.int mo)] [(.ref sb), (.ref ml)])) := fun tgt ktg => pre3 tgt (st4 tgt ktg)
  have f5 : Exa Z h4 ml "com/example/subjectline/subjectline/server/MessageLine" := E1.ext E4
  have f6 : Fld Z h4 ml "com/example/subjectline/subjectline/server/MessageLine" "text" "Ljava/lang/StringBuilder;" .null := F1.ext E4
  have f7 : Fld Z h4 ml "com/example/subjectline/subjectline/server/MessageLine" "most" "I" (.int (0 : Int32)) := F2.ext E4
  have f8 : Fld Z h4 ml "com/example/subjectline/subjectline/server/MessageLine" "afterCr" "Z" (.int (0 : Int32)) := F3.ext E4
  have f9 : Sta Z h4 "java/lang/String" "COMPACT_STRINGS" "Z" (.int cs) := S1.ext E4
  have z10 : n0 ≤ h4.size := Nat.le_trans Z0 E4.1
  have K11 : Keep h0 h4 [ml] := K0.ext E4
  have f12 : Exa Z h4 sb "java/lang/StringBuilder" := A4
  have f13 : Fld Z h4 sb "java/lang/AbstractStringBuilder" "value" "[B" .null := D4 (Or.inl (hw _ (List.mem_of_getElem? (i := 26) rfl))) (ty := (.array .byte)) (by decide)
  have f14 : Fld Z h4 sb "java/lang/AbstractStringBuilder" "coder" "B" (.int (0 : Int32)) := D4 (Or.inl (hw _ (List.mem_of_getElem? (i := 28) rfl))) (ty := .byte) (by decide)
  have f15 : Fld Z h4 sb "java/lang/AbstractStringBuilder" "count" "I" (.int (0 : Int32)) := D4 (Or.inl (hw _ (List.mem_of_getElem? (i := 51) rfl))) (ty := .int) (by decide)
  have pre16 : Rch p.tables e below (s₁.setTop (entryFrame m #[(.ref ml), (.int mo)] 2)) (T4.setTop (mkF m 9 #[.val (.ref ml), .val (.int mo)] [(.ref sb), (.ref sb), (.ref ml)])) := fun tgt ktg => pre4 tgt (by
    show Steps p.tables e below (T4.setTop (mkF m 8 #[.val (.ref ml), .val (.int mo)] [(.ref sb), (.ref ml)])) _
    refine XS.dup X4.here hx rfl (hb hby d1_8) rfl rfl ?_
    exact ktg)
  have mlt := f5.lt
  obtain ⟨_, _, ⟨T17, L17, k17, n17⟩, -, X17, ⟨Lc17, hQ17, l17, y17, z17⟩, st17⟩ := X4.specialBack hx (y := (⟨"java/lang/StringBuilder", "<init>", "()V"⟩ : MethodName)) rfl hown (mvT hZ (hw _ (List.mem_of_getElem? (i := 12) rfl))) (mvT hZ (hw _ (List.mem_of_getElem? (i := 13) rfl))) (mvT hZ (hw _ (List.mem_of_getElem? (i := 14) rfl))) (by decide) (backOf (W := 2) (rm3 l Z a0 hw [] sb cs h4 n0 z10 f12 f13 f14 f15 f9 g_sb hcs) hZ (hw _ (List.mem_of_getElem? (i := 14) rfl)) (hw _ (List.mem_of_getElem? (i := 11) rfl)) (by decide) (by decide)) (g := (mkF m 9 #[.val (.ref ml), .val (.int mo)] [(.ref sb), (.ref sb), (.ref ml)])) rfl (by rw [hml]; rfl) (Steps.refl _) (a := sb) (argsL := []) (rest := [(.ref sb), (.ref ml)]) (lenOf pd_1 rfl) rfl (by show 2 * 0 + _ ≤ _; exact Nat.le_of_eq rfl) (hb hby d1_9) (fun _ _ => ⟨rfl, e4, (by decide : 1 + 1 ≤ _), (by decide : 4 + 16 ≤ _)⟩)
  dsimp only [Pt.U, Pt.locs, Pt.cells, Pt.slots] at X17 l17 y17 z17 st17 hQ17
  subst l17 y17 z17
  obtain ⟨va, kv, rfl, Nq17, Kq17, b0, gva, sva, nsv⟩ := hQ17
  have N18 := Fr.app N0 Nq17
  have pre17 : Rch p.tables e below (s₁.setTop (entryFrame m #[(.ref ml), (.int mo)] 2)) (T17.setTop (mkF m 12 #[.val (.ref ml), .val (.int mo)] [(.ref sb), (.ref ml)])) := fun tgt ktg => pre16 tgt (st17.trans ktg)
  have f19 : Exa Z T17.heap ml "com/example/subjectline/subjectline/server/MessageLine" := f5.keep Kq17
  have f20 : Fld Z T17.heap ml "com/example/subjectline/subjectline/server/MessageLine" "text" "Ljava/lang/StringBuilder;" .null := f6.keep Kq17 (ninS ne_ml_sb nin0)
  have f21 : Fld Z T17.heap ml "com/example/subjectline/subjectline/server/MessageLine" "most" "I" (.int (0 : Int32)) := f7.keep Kq17 (ninS ne_ml_sb nin0)
  have f22 : Fld Z T17.heap ml "com/example/subjectline/subjectline/server/MessageLine" "afterCr" "Z" (.int (0 : Int32)) := f8.keep Kq17 (ninS ne_ml_sb nin0)
  have z23 : n0 ≤ T17.heap.size := Nat.le_trans z10 Kq17.1
  have K24 : Keep h0 T17.heap [ml] := K11.trans Kq17 (allS (P := fun x => x ∈ [ml] ∨ h0.size ≤ x) (Or.inr sz_sb) (all0 (P := fun x => x ∈ [ml] ∨ h0.size ≤ x)))
  have nmv : ml ≠ va := Nat.ne_of_lt (Nat.lt_of_lt_of_le mlt sva)
  obtain ⟨b1, b2, b3, b4, ⟨vs, b5, hvs⟩, b6⟩ := b0
  obtain ⟨T25, h25, X25, e25, W25, st25⟩ := putF X17 hx hZ hown (host := "") (Or.inl (hw _ (List.mem_of_getElem? (i := 29) rfl))) Via.refl rfl f20 f19 (Or.inr ⟨(hw _ (List.mem_of_getElem? (i := 30) rfl)), rfl, hnm⟩) (hw _ (List.mem_of_getElem? (i := 1) rfl)) (ty := (.object "java/lang/StringBuilder")) (by decide) rfl rfl (g := (mkF m 12 #[.val (.ref ml), .val (.int mo)] [(.ref sb), (.ref ml)])) rfl rfl (hb hby d1_12)
  have pre25 : Rch p.tables e below (s₁.setTop (entryFrame m #[(.ref ml), (.int mo)] 2)) (T25.setTop (mkF m 15 #[.val (.ref ml), .val (.int mo)] [])) := fun tgt ktg => pre17 tgt (st25 tgt ktg)
  have f26 : Exa Z h25 ml "com/example/subjectline/subjectline/server/MessageLine" := f19.wr W25
  have f27 : Fld Z h25 ml "com/example/subjectline/subjectline/server/MessageLine" "most" "I" (.int (0 : Int32)) := f21.other W25 (Or.inr (slot_ne (Or.inr (hw _ (List.mem_of_getElem? (i := 32) rfl))) (Or.inr (hw _ (List.mem_of_getElem? (i := 30) rfl))) (by decide) (t := .int) (t' := (.object "java/lang/StringBuilder")) (by decide) (by decide)))
  have f28 : Fld Z h25 ml "com/example/subjectline/subjectline/server/MessageLine" "afterCr" "Z" (.int (0 : Int32)) := f22.other W25 (Or.inr (slot_ne (Or.inl (hw _ (List.mem_of_getElem? (i := 39) rfl))) (Or.inr (hw _ (List.mem_of_getElem? (i := 30) rfl))) (by decide) (t := .boolean) (t' := (.object "java/lang/StringBuilder")) (by decide) (by decide)))
  have f29 : Exa Z h25 sb "java/lang/StringBuilder" := b1.wr W25
  have f30 : Fld Z h25 sb "java/lang/AbstractStringBuilder" "value" "[B" (.ref va) := b2.other W25 (Or.inl (Ne.symm ne_ml_sb))
  have f31 : Fld Z h25 sb "java/lang/AbstractStringBuilder" "coder" "B" (.int (0 : Int32)) := b3.other W25 (Or.inl (Ne.symm ne_ml_sb))
  have f32 : Fld Z h25 sb "java/lang/AbstractStringBuilder" "count" "I" (.int (0 : Int32)) := b4.other W25 (Or.inl (Ne.symm ne_ml_sb))
  have f33 : Arv Z h25 va kv .byte (16 : Int32) vs (.int (0 : Int32)) := b5.other W25 (Ne.symm nmv)
  have f34 : Sta Z h25 "java/lang/String" "COMPACT_STRINGS" "Z" (.int cs) := b6.wr W25
  have z35 : n0 ≤ h25.size := Nat.le_trans z23 (Keep.of_wr W25).1
  have K36 : Keep h0 h25 [ml] := K24.wr W25 (Or.inl (List.mem_of_getElem? (i := 0) rfl))
  have f37 : Fld Z h25 ml "com/example/subjectline/subjectline/server/MessageLine" "text" "Ljava/lang/StringBuilder;" (.ref sb) := f20.same W25
  have N38 := Fr.snoc X25 N18 gm
  have pre39 : Rch p.tables e below (s₁.setTop (entryFrame m #[(.ref ml), (.int mo)] 2)) (T25.setTop (mkF m 17 #[.val (.ref ml), .val (.int mo)] [(.int mo), (.ref ml)])) := fun tgt ktg => pre25 tgt (by
    show Steps p.tables e below (T25.setTop (mkF m 15 #[.val (.ref ml), .val (.int mo)] [])) _
    refine XS.aloadN X25.here hx rfl (hb hby d1_15) rfl rfl ?_
    show Steps p.tables e below (T25.setTop (mkF m 16 #[.val (.ref ml), .val (.int mo)] [(.ref ml)])) _
    refine XS.iloadN X25.here hx rfl (hb hby d1_16) rfl ?_
    exact ktg)
  obtain ⟨T40, h40, X40, e40, W40, st40⟩ := putF X25 hx hZ hown (host := "") (Or.inl (hw _ (List.mem_of_getElem? (i := 31) rfl))) Via.refl e25 f27 f26 (Or.inr ⟨(hw _ (List.mem_of_getElem? (i := 32) rfl)), rfl, hnm⟩) (hw _ (List.mem_of_getElem? (i := 1) rfl)) (ty := .int) (by decide) rfl rfl (g := (mkF m 17 #[.val (.ref ml), .val (.int mo)] [(.int mo), (.ref ml)])) rfl rfl (hb hby d1_17)
  have pre40 : Rch p.tables e below (s₁.setTop (entryFrame m #[(.ref ml), (.int mo)] 2)) (T40.setTop (mkF m 20 #[.val (.ref ml), .val (.int mo)] [])) := fun tgt ktg => pre39 tgt (st40 tgt ktg)
  have f41 : Exa Z h40 ml "com/example/subjectline/subjectline/server/MessageLine" := f26.wr W40
  have f42 : Fld Z h40 ml "com/example/subjectline/subjectline/server/MessageLine" "afterCr" "Z" (.int (0 : Int32)) := f28.other W40 (Or.inr (slot_ne (Or.inl (hw _ (List.mem_of_getElem? (i := 39) rfl))) (Or.inr (hw _ (List.mem_of_getElem? (i := 32) rfl))) (by decide) (t := .boolean) (t' := .int) (by decide) (by decide)))
  have f43 : Exa Z h40 sb "java/lang/StringBuilder" := f29.wr W40
  have f44 : Fld Z h40 sb "java/lang/AbstractStringBuilder" "value" "[B" (.ref va) := f30.other W40 (Or.inl (Ne.symm ne_ml_sb))
  have f45 : Fld Z h40 sb "java/lang/AbstractStringBuilder" "coder" "B" (.int (0 : Int32)) := f31.other W40 (Or.inl (Ne.symm ne_ml_sb))
  have f46 : Fld Z h40 sb "java/lang/AbstractStringBuilder" "count" "I" (.int (0 : Int32)) := f32.other W40 (Or.inl (Ne.symm ne_ml_sb))
  have f47 : Arv Z h40 va kv .byte (16 : Int32) vs (.int (0 : Int32)) := f33.other W40 (Ne.symm nmv)
  have f48 : Sta Z h40 "java/lang/String" "COMPACT_STRINGS" "Z" (.int cs) := f34.wr W40
  have f49 : Fld Z h40 ml "com/example/subjectline/subjectline/server/MessageLine" "text" "Ljava/lang/StringBuilder;" (.ref sb) := f37.other W40 (Or.inr (slot_ne (Or.inr (hw _ (List.mem_of_getElem? (i := 30) rfl))) (Or.inr (hw _ (List.mem_of_getElem? (i := 32) rfl))) (by decide) (t := (.object "java/lang/StringBuilder")) (t' := .int) (by decide) (by decide)))
  have z50 : n0 ≤ h40.size := Nat.le_trans z35 (Keep.of_wr W40).1
  have K51 : Keep h0 h40 [ml] := K36.wr W40 (Or.inl (List.mem_of_getElem? (i := 0) rfl))
  have f52 : Fld Z h40 ml "com/example/subjectline/subjectline/server/MessageLine" "most" "I" (.int mo) := f27.same W40
  have N53 := Fr.snoc X40 N38 gm
  obtain ⟨fs, hr, hrun, hended, hW, hsame⟩ := X40.leave (v := none) (fun _ => rfl)
  refine ⟨_, _, pre40 _ ?_, hrun, hended, _, _, rfl, ?_, ⟨_, rfl⟩, hW, hsame.mono (by decide) (by decide)⟩
  · show Steps p.tables e below (T40.setTop (mkF m 20 #[.val (.ref ml), .val (.int mo)] [])) _
    exact X40.returnOut hx Bd.returns (hb hby d1_20) hr
  · show Q1 Z ml mo cs h0 n0 _ T40.heap _
    rw [e40]
    exact ⟨sb, va, kv, rfl, N53, K51, ⟨f41, f49, f52, f42, ⟨f43, f44, f45, f46, ⟨_, f47, hvs⟩, f48⟩, ne_ml_sb, nmv, nsv⟩, g_sb, gva⟩
theorem d7_0 : decode jdk_68_method_6_code 0 = .ok (.aload_n 0, 1) := by decide +kernel
theorem d7_1 : decode jdk_68_method_6_code 1 = .ok (.getfield 79, 3) := by decide +kernel
theorem d7_4 : decode jdk_68_method_6_code 4 = .ok (.ireturn, 1) := by decide +kernel
theorem ef_7 (m : MethodId) (x0 : Addr) : entryFrame m #[(.ref x0)] 1 = mkF m 0 #[.val (.ref x0)] [] := by first | (simp [entryFrame, mkF, argsToLocals, Value.category]; done) | rfl
def Q7 (Z : State) (sb : Addr) (n : Int32) (h0 : Heap) (n0 : Nat) (v : Option Value) (h : Heap) (L : List Loc) : Prop := v = some (.int n) ∧ Fr n0 L ∧ h = h0
set_option maxRecDepth 65536 in
set_option maxHeartbeats 40000000 in
theorem rm7 (l : Launch) (Z : State) (a0 : Array Value) (hw : ∀ d ∈ tables_1, d.before a0 Z = true) (ws : List Jvm.Cond) (sb : Addr) (n : Int32) (h0 : Heap) (n0 : Nat) (Z0 : n0 ≤ h0.size) (F1 : Fld Z h0 sb "java/lang/AbstractStringBuilder" "count" "I" (.int n)) :
    MetFree l (⟨"java/lang/AbstractStringBuilder", "length", "()I"⟩ : MethodName) (head1 (Jvm.Cond.code (⟨"java/lang/AbstractStringBuilder", "length", "()I"⟩ : MethodName) jdk_68_method_6_code 1 (some .int) :: ws) ({ frames := 0, cells := 0, slots := 0, locals := 0 } : Room)) (fun aA U => aA = #[(.ref sb)] ∧ Z.Warmed39 U.vm ∧ U.heap = h0) (fun _ _ _ _ _ => True) (fun _ U oO U' => ∃ vV LL, oO = .returned vV ∧ Q7 Z sb n h0 n0 vV U'.heap LL ∧ FrameEnd U oO U' LL ({ frames := 0, cells := 0, slots := 0, locals := 0 } : Room).cells ({ frames := 0, cells := 0, slots := 0, locals := 0 } : Room).slots) := by
  refine MetFree.of_bodySF (plainFor_of_name pn_0) hisR ?_
  intro p e s m args below meth c s₁ Bd hml0 hP hK
  obtain ⟨rfl, hZ, hh⟩ := hP
  have hx := Bd.exec
  have hby := Bd.bytes
  have hml : c.maxLocals = 1 := hml0
  have hown : s.vm.findClass "java/lang/AbstractStringBuilder" = some m.cls := findClass_of_methodNamed Bd.named
  have hnm := (name_of_methodNamed Bd.named Bd.method).1
  have X0 : Stand p l e ({ frames := 0, cells := 0, slots := 0, locals := 0 } : Room) s m #[(.ref sb)] below meth c s₁ [] 0 0 := Stand.of_body Bd
  have e0 : s₁.heap = h0 := by rw [← hh, Bd.state]; rfl
  have N0 := Fr.nil n0
  have K0 : Keep h0 h0 [] := Keep.refl _ _
  have pre0 : Rch p.tables e below (s₁.setTop (entryFrame m #[(.ref sb)] 1)) (s₁.setTop (mkF m 0 #[.val (.ref sb)] [])) := fun tgt ktg => castTop (ef_7 m sb) ktg
  have pre1 : Rch p.tables e below (s₁.setTop (entryFrame m #[(.ref sb)] 1)) (s₁.setTop (mkF m 1 #[.val (.ref sb)] [(.ref sb)])) := fun tgt ktg => pre0 tgt (by
    show Steps p.tables e below (s₁.setTop (mkF m 0 #[.val (.ref sb)] [])) _
    refine XS.aloadN X0.here hx rfl (hb hby d7_0) rfl rfl ?_
    exact ktg)
  obtain ⟨T2, X2, e2, st2⟩ := getF X0 hx hZ hown (host := "") (Or.inl (hw _ (List.mem_of_getElem? (i := 50) rfl))) Via.refl e0 F1 (g := (mkF m 1 #[.val (.ref sb)] [(.ref sb)])) rfl rfl (hb hby d7_1)
  have pre2 : Rch p.tables e below (s₁.setTop (entryFrame m #[(.ref sb)] 1)) (T2.setTop (mkF m 4 #[.val (.ref sb)] [(.int n)])) := fun tgt ktg => pre1 tgt (st2 tgt ktg)
  obtain ⟨fs, hr, hrun, hended, hW, hsame⟩ := X2.leave (v := some (.int n)) (fun h => by rw [Bd.returns] at h; cases h)
  refine ⟨_, _, pre2 _ ?_, hrun, hended, _, _, rfl, ?_, ⟨_, rfl⟩, hW, hsame.mono (by decide) (by decide)⟩
  · show Steps p.tables e below (T2.setTop (mkF m 4 #[.val (.ref sb)] [(.int n)])) _
    exact retI X2 hx Bd.returns (hb hby d7_4) hr
  · show Q7 Z sb n h0 n0 _ T2.heap _
    rw [e2]
    exact ⟨rfl, N0, rfl⟩
theorem d6_0 : decode jdk_67_method_93_code 0 = .ok (.aload_n 0, 1) := by decide +kernel
theorem d6_1 : decode jdk_67_method_93_code 1 = .ok (.invokespecial 343, 3) := by decide +kernel
theorem pd_2 : parseMethodDescriptor "()I" = some ⟨[], some .int⟩ := by decide +kernel
theorem d6_4 : decode jdk_67_method_93_code 4 = .ok (.ireturn, 1) := by decide +kernel
theorem ef_6 (m : MethodId) (x0 : Addr) : entryFrame m #[(.ref x0)] 1 = mkF m 0 #[.val (.ref x0)] [] := by first | (simp [entryFrame, mkF, argsToLocals, Value.category]; done) | rfl
def Q6 (Z : State) (sb : Addr) (n : Int32) (h0 : Heap) (n0 : Nat) (v : Option Value) (h : Heap) (L : List Loc) : Prop := v = some (.int n) ∧ Fr n0 L ∧ h = h0
set_option maxRecDepth 65536 in
set_option maxHeartbeats 40000000 in
theorem rm6 (l : Launch) (Z : State) (a0 : Array Value) (hw : ∀ d ∈ tables_1, d.before a0 Z = true) (ws : List Jvm.Cond) (sb : Addr) (n : Int32) (h0 : Heap) (n0 : Nat) (Z0 : n0 ≤ h0.size) (E1 : Exa Z h0 sb "java/lang/StringBuilder") (F1 : Fld Z h0 sb "java/lang/AbstractStringBuilder" "count" "I" (.int n)) :
    MetFree l (⟨"java/lang/StringBuilder", "length", "()I"⟩ : MethodName) (head1 (Jvm.Cond.code (⟨"java/lang/StringBuilder", "length", "()I"⟩ : MethodName) jdk_67_method_93_code 1 (some .int) :: ws) ({ frames := 1, cells := 0, slots := 0, locals := 12 } : Room)) (fun aA U => aA = #[(.ref sb)] ∧ Z.Warmed39 U.vm ∧ U.heap = h0) (fun _ _ _ _ _ => True) (fun _ U oO U' => ∃ vV LL, oO = .returned vV ∧ Q6 Z sb n h0 n0 vV U'.heap LL ∧ FrameEnd U oO U' LL ({ frames := 1, cells := 0, slots := 0, locals := 12 } : Room).cells ({ frames := 1, cells := 0, slots := 0, locals := 12 } : Room).slots) := by
  refine MetFree.of_bodySF (plainFor_of_name pn_1) hisR ?_
  intro p e s m args below meth c s₁ Bd hml0 hP hK
  obtain ⟨rfl, hZ, hh⟩ := hP
  have hx := Bd.exec
  have hby := Bd.bytes
  have hml : c.maxLocals = 1 := hml0
  have hown : s.vm.findClass "java/lang/StringBuilder" = some m.cls := findClass_of_methodNamed Bd.named
  have hnm := (name_of_methodNamed Bd.named Bd.method).1
  have X0 : Stand p l e ({ frames := 1, cells := 0, slots := 0, locals := 12 } : Room) s m #[(.ref sb)] below meth c s₁ [] 0 0 := Stand.of_body Bd
  have e0 : s₁.heap = h0 := by rw [← hh, Bd.state]; rfl
  have N0 := Fr.nil n0
  have K0 : Keep h0 h0 [] := Keep.refl _ _
  have pre0 : Rch p.tables e below (s₁.setTop (entryFrame m #[(.ref sb)] 1)) (s₁.setTop (mkF m 0 #[.val (.ref sb)] [])) := fun tgt ktg => castTop (ef_6 m sb) ktg
  have pre1 : Rch p.tables e below (s₁.setTop (entryFrame m #[(.ref sb)] 1)) (s₁.setTop (mkF m 1 #[.val (.ref sb)] [(.ref sb)])) := fun tgt ktg => pre0 tgt (by
    show Steps p.tables e below (s₁.setTop (mkF m 0 #[.val (.ref sb)] [])) _
    refine XS.aloadN X0.here hx rfl (hb hby d6_0) rfl rfl ?_
    exact ktg)
  obtain ⟨_, _, ⟨T2, L2, k2, n2⟩, -, X2, ⟨Lc2, hQ2, l2, y2, z2⟩, st2⟩ := superBack X0 hx hZ (y := (⟨"java/lang/AbstractStringBuilder", "length", "()I"⟩ : MethodName)) hown (hw _ (List.mem_of_getElem? (i := 45) rfl)) (own_same (y := (⟨"java/lang/AbstractStringBuilder", "length", "()I"⟩ : MethodName)) (own_noface (C := "java/lang/StringBuilder") (y := (⟨"java/lang/AbstractStringBuilder", "isLatin1", "()Z"⟩ : MethodName)) (hw _ (List.mem_of_getElem? (i := 81) rfl))) (hw _ (List.mem_of_getElem? (i := 46) rfl)) (by decide)) (hw _ (List.mem_of_getElem? (i := 46) rfl)) (hw _ (List.mem_of_getElem? (i := 47) rfl)) (by decide) (backOf (W := 0) (rm7 l Z a0 hw [] sb n h0 n0 Z0 F1) hZ (hw _ (List.mem_of_getElem? (i := 49) rfl)) (hw _ (List.mem_of_getElem? (i := 19) rfl)) (by decide) (by decide)) e0 (Ins.self E1) (g := (mkF m 1 #[.val (.ref sb)] [(.ref sb)])) rfl (by rw [hml]; rfl) (hw _ (List.mem_of_getElem? (i := 49) rfl)) (argsL := []) (rest := []) (lenOf pd_2 rfl) rfl (by show 2 * 0 + _ ≤ _; exact Nat.le_of_eq rfl) (hb hby d6_1) (fun _ _ => ⟨rfl, e0, (by decide : 0 + 0 ≤ _), (by decide : 0 + 0 ≤ _)⟩)
  dsimp only [Pt.U, Pt.locs, Pt.cells, Pt.slots] at X2 l2 y2 z2 st2 hQ2
  subst l2 y2 z2
  obtain ⟨rfl, Nq2, eh2⟩ := hQ2
  have N3 := Fr.app N0 Nq2
  have pre2 : Rch p.tables e below (s₁.setTop (entryFrame m #[(.ref sb)] 1)) (T2.setTop (mkF m 4 #[.val (.ref sb)] [(.int n)])) := fun tgt ktg => pre1 tgt (st2.trans ktg)
  obtain ⟨fs, hr, hrun, hended, hW, hsame⟩ := X2.leave (v := some (.int n)) (fun h => by rw [Bd.returns] at h; cases h)
  refine ⟨_, _, pre2 _ ?_, hrun, hended, _, _, rfl, ?_, ⟨_, rfl⟩, hW, hsame.mono (by decide) (by decide)⟩
  · show Steps p.tables e below (T2.setTop (mkF m 4 #[.val (.ref sb)] [(.int n)])) _
    exact retI X2 hx Bd.returns (hb hby d6_4) hr
  · show Q6 Z sb n h0 n0 _ T2.heap _
    rw [eh2]
    exact ⟨rfl, N3, rfl⟩
theorem d5_0 : decode prog_44_method_3_code 0 = .ok (.aload_n 0, 1) := by decide +kernel
theorem d5_1 : decode prog_44_method_3_code 1 = .ok (.getfield 20, 3) := by decide +kernel
theorem d5_4 : decode prog_44_method_3_code 4 = .ok (.ifCond .ne 13, 3) := by decide +kernel
theorem d5_7 : decode prog_44_method_3_code 7 = .ok (.aload_n 0, 1) := by decide +kernel
theorem d5_8 : decode prog_44_method_3_code 8 = .ok (.getfield 10, 3) := by decide +kernel
theorem d5_11 : decode prog_44_method_3_code 11 = .ok (.invokevirtual 35, 3) := by decide +kernel
theorem d5_14 : decode prog_44_method_3_code 14 = .ok (.ifCond .le 7, 3) := by decide +kernel
theorem d5_17 : decode prog_44_method_3_code 17 = .ok (.iconst 1, 1) := by decide +kernel
theorem d5_18 : decode prog_44_method_3_code 18 = .ok (.goto 4, 3) := by decide +kernel
theorem d5_22 : decode prog_44_method_3_code 22 = .ok (.ireturn, 1) := by decide +kernel
theorem d5_21 : decode prog_44_method_3_code 21 = .ok (.iconst 0, 1) := by decide +kernel
theorem ef_5 (m : MethodId) (x0 : Addr) : entryFrame m #[(.ref x0)] 1 = mkF m 0 #[.val (.ref x0)] [] := by first | (simp [entryFrame, mkF, argsToLocals, Value.category]; done) | rfl
def Q5 (Z : State) (ml : Addr) (sb va : Addr) (kv : ClassId) (a n mo cs : Int32) (h0 : Heap) (n0 : Nat) (v : Option Value) (h : Heap) (L : List Loc) : Prop := v = some (.int (bg a n)) ∧ Fr n0 L ∧ h = h0
set_option maxRecDepth 65536 in
set_option maxHeartbeats 40000000 in
theorem rm5 (l : Launch) (Z : State) (a0 : Array Value) (hw : ∀ d ∈ tables_1, d.before a0 Z = true) (ws : List Jvm.Cond) (ml : Addr) (sb va : Addr) (kv : ClassId) (a n mo cs : Int32) (h0 : Heap) (n0 : Nat) (Z0 : n0 ≤ h0.size) (M : MLs Z h0 ml sb va kv a n mo cs) :
    MetFree l (⟨"com/example/subjectline/subjectline/server/MessageLine", "begun", "()Z"⟩ : MethodName) (head1 (Jvm.Cond.code (⟨"com/example/subjectline/subjectline/server/MessageLine", "begun", "()Z"⟩ : MethodName) prog_44_method_3_code 1 (some .boolean) :: ws) ({ frames := 2, cells := 0, slots := 0, locals := 24 } : Room)) (fun aA U => aA = #[(.ref ml)] ∧ Z.Warmed39 U.vm ∧ U.heap = h0) (fun _ _ _ _ _ => True) (fun _ U oO U' => ∃ vV LL, oO = .returned vV ∧ Q5 Z ml sb va kv a n mo cs h0 n0 vV U'.heap LL ∧ FrameEnd U oO U' LL ({ frames := 2, cells := 0, slots := 0, locals := 24 } : Room).cells ({ frames := 2, cells := 0, slots := 0, locals := 24 } : Room).slots) := by
  refine MetFree.of_bodySF (plainFor_of_name pn_2) hisR ?_
  intro p e s m args below meth c s₁ Bd hml0 hP hK
  obtain ⟨rfl, hZ, hh⟩ := hP
  have hx := Bd.exec
  have hby := Bd.bytes
  have hml : c.maxLocals = 1 := hml0
  have hown : s.vm.findClass "com/example/subjectline/subjectline/server/MessageLine" = some m.cls := findClass_of_methodNamed Bd.named
  have hnm := (name_of_methodNamed Bd.named Bd.method).1
  have X0 : Stand p l e ({ frames := 2, cells := 0, slots := 0, locals := 24 } : Room) s m #[(.ref ml)] below meth c s₁ [] 0 0 := Stand.of_body Bd
  have e0 : s₁.heap = h0 := by rw [← hh, Bd.state]; rfl
  have N0 := Fr.nil n0
  have K0 : Keep h0 h0 [] := Keep.refl _ _
  have pre0 : Rch p.tables e below (s₁.setTop (entryFrame m #[(.ref ml)] 1)) (s₁.setTop (mkF m 0 #[.val (.ref ml)] [])) := fun tgt ktg => castTop (ef_5 m ml) ktg
  obtain ⟨l1, l2, l3, l4, l5, nms, nmv, nsv⟩ := M
  have pre1 : Rch p.tables e below (s₁.setTop (entryFrame m #[(.ref ml)] 1)) (s₁.setTop (mkF m 1 #[.val (.ref ml)] [(.ref ml)])) := fun tgt ktg => pre0 tgt (by
    show Steps p.tables e below (s₁.setTop (mkF m 0 #[.val (.ref ml)] [])) _
    refine XS.aloadN X0.here hx rfl (hb hby d5_0) rfl rfl ?_
    exact ktg)
  obtain ⟨T2, X2, e2, st2⟩ := getF X0 hx hZ hown (host := "") (Or.inl (hw _ (List.mem_of_getElem? (i := 38) rfl))) Via.refl e0 l4 (g := (mkF m 1 #[.val (.ref ml)] [(.ref ml)])) rfl rfl (hb hby d5_1)
  have pre2 : Rch p.tables e below (s₁.setTop (entryFrame m #[(.ref ml)] 1)) (T2.setTop (mkF m 4 #[.val (.ref ml)] [(.int a)])) := fun tgt ktg => pre1 tgt (st2 tgt ktg)
  by_cases c3 : a = (0 : Int32)
  · skip
    have pre4 : Rch p.tables e below (s₁.setTop (entryFrame m #[(.ref ml)] 1)) (T2.setTop (mkF m 7 #[.val (.ref ml)] [])) := fun tgt ktg => pre2 tgt (by
      show Steps p.tables e below (T2.setTop (mkF m 4 #[.val (.ref ml)] [(.int a)])) _
      refine XS.ifNo X2.here hx rfl (hb hby d5_4) rfl ((if0 _ _).trans (teq c3).2) ?_
      exact ktg)
    have pre5 : Rch p.tables e below (s₁.setTop (entryFrame m #[(.ref ml)] 1)) (T2.setTop (mkF m 8 #[.val (.ref ml)] [(.ref ml)])) := fun tgt ktg => pre4 tgt (by
      show Steps p.tables e below (T2.setTop (mkF m 7 #[.val (.ref ml)] [])) _
      refine XS.aloadN X2.here hx rfl (hb hby d5_7) rfl rfl ?_
      exact ktg)
    obtain ⟨T6, X6, e6, st6⟩ := getF X2 hx hZ hown (host := "") (Or.inl (hw _ (List.mem_of_getElem? (i := 29) rfl))) Via.refl e2 l2 (g := (mkF m 8 #[.val (.ref ml)] [(.ref ml)])) rfl rfl (hb hby d5_8)
    have pre6 : Rch p.tables e below (s₁.setTop (entryFrame m #[(.ref ml)] 1)) (T6.setTop (mkF m 11 #[.val (.ref ml)] [(.ref sb)])) := fun tgt ktg => pre5 tgt (st6 tgt ktg)
    obtain ⟨cq7, kq7, q7a, q7b, q7c⟩ := isOf hZ e6 l5.1
    obtain ⟨_, _, ⟨T7, L7, k7, n7⟩, -, X7, ⟨Lc7, hQ7, l7, y7, z7⟩, st7⟩ := X6.virtualBack hx (y := (⟨"java/lang/StringBuilder", "length", "()I"⟩ : MethodName)) (z := (⟨"java/lang/StringBuilder", "length", "()I"⟩ : MethodName)) hown (mvT hZ (hw _ (List.mem_of_getElem? (i := 40) rfl))) (mvT hZ (hw _ (List.mem_of_getElem? (i := 41) rfl))) (notFace_of_selects (args := #[]) (mvT hZ (hw _ (List.mem_of_getElem? (i := 43) rfl)))) (mvT hZ (hw _ (List.mem_of_getElem? (i := 43) rfl))) (mvT hZ (hw _ (List.mem_of_getElem? (i := 42) rfl))) (by decide) (backOf (W := 0) (rm6 l Z a0 hw [] sb n h0 n0 Z0 l5.1 l5.2.2.2.1) hZ (hw _ (List.mem_of_getElem? (i := 44) rfl)) (hw _ (List.mem_of_getElem? (i := 11) rfl)) (by decide) (by decide)) q7a q7c (g := (mkF m 11 #[.val (.ref ml)] [(.ref sb)])) rfl (by rw [hml]; rfl) (Steps.refl _) (argsL := []) (rest := []) (lenOf pd_2 rfl) rfl (by show 2 * 0 + _ ≤ _; exact Nat.le_of_eq rfl) (hb hby d5_11) (fun _ _ => ⟨rfl, e6, (by decide : 0 + 0 ≤ _), (by decide : 0 + 0 ≤ _)⟩)
    dsimp only [Pt.U, Pt.locs, Pt.cells, Pt.slots] at X7 l7 y7 z7 st7 hQ7
    subst l7 y7 z7
    obtain ⟨rfl, Nq7, eh7⟩ := hQ7
    have N8 := Fr.app N0 Nq7
    have pre7 : Rch p.tables e below (s₁.setTop (entryFrame m #[(.ref ml)] 1)) (T7.setTop (mkF m 14 #[.val (.ref ml)] [(.int n)])) := fun tgt ktg => pre6 tgt (st7.trans ktg)
    by_cases c9 : (0 : Int32) < n
    · skip
      have pre10 : Rch p.tables e below (s₁.setTop (entryFrame m #[(.ref ml)] 1)) (T7.setTop (mkF m 17 #[.val (.ref ml)] [])) := fun tgt ktg => pre7 tgt (by
        show Steps p.tables e below (T7.setTop (mkF m 14 #[.val (.ref ml)] [(.int n)])) _
        refine XS.ifNo X7.here hx rfl (hb hby d5_14) rfl ((if0 _ _).trans (tlt c9).2.2.2) ?_
        exact ktg)
      have pre11 : Rch p.tables e below (s₁.setTop (entryFrame m #[(.ref ml)] 1)) (T7.setTop (mkF m 22 #[.val (.ref ml)] [(.int (1 : Int32))])) := fun tgt ktg => pre10 tgt (by
        show Steps p.tables e below (T7.setTop (mkF m 17 #[.val (.ref ml)] [])) _
        refine XS.iconst X7.here hx rfl (hb hby d5_17) ?_
        show Steps p.tables e below (T7.setTop (mkF m 18 #[.val (.ref ml)] [(.int (1 : Int32))])) _
        refine XS.goto X7.here hx rfl (pc0 := 18) (pc' := 22) rfl (hb hby d5_18) (by decide) (by decide) ?_
        exact ktg)
      obtain ⟨fs, hr, hrun, hended, hW, hsame⟩ := X7.leave (v := some (.int (1 : Int32))) (fun h => by rw [Bd.returns] at h; cases h)
      refine ⟨_, _, pre11 _ ?_, hrun, hended, _, _, rfl, ?_, ⟨_, rfl⟩, hW, hsame.mono (by decide) (by decide)⟩
      · show Steps p.tables e below (T7.setTop (mkF m 22 #[.val (.ref ml)] [(.int (1 : Int32))])) _
        exact retN X7 hx (t := .boolean) Bd.returns (by simp) (hb hby d5_22) hr
      · show Q5 Z ml sb va kv a n mo cs h0 n0 _ T7.heap _
        rw [eh7]
        exact ⟨by simp [bg, c3, c9], N8, rfl⟩
    · skip
      have pre12 : Rch p.tables e below (s₁.setTop (entryFrame m #[(.ref ml)] 1)) (T7.setTop (mkF m 21 #[.val (.ref ml)] [])) := fun tgt ktg => pre7 tgt (by
        show Steps p.tables e below (T7.setTop (mkF m 14 #[.val (.ref ml)] [(.int n)])) _
        refine XS.ifYes X7.here hx rfl (pc0 := 14) (pc' := 21) rfl (hb hby d5_14) rfl ((if0 _ _).trans (flt c9).2.2.2) (by decide) (by decide) ?_
        exact ktg)
      have pre13 : Rch p.tables e below (s₁.setTop (entryFrame m #[(.ref ml)] 1)) (T7.setTop (mkF m 22 #[.val (.ref ml)] [(.int (0 : Int32))])) := fun tgt ktg => pre12 tgt (by
        show Steps p.tables e below (T7.setTop (mkF m 21 #[.val (.ref ml)] [])) _
        refine XS.iconst X7.here hx rfl (hb hby d5_21) ?_
        exact ktg)
      obtain ⟨fs, hr, hrun, hended, hW, hsame⟩ := X7.leave (v := some (.int (0 : Int32))) (fun h => by rw [Bd.returns] at h; cases h)
      refine ⟨_, _, pre13 _ ?_, hrun, hended, _, _, rfl, ?_, ⟨_, rfl⟩, hW, hsame.mono (by decide) (by decide)⟩
      · show Steps p.tables e below (T7.setTop (mkF m 22 #[.val (.ref ml)] [(.int (0 : Int32))])) _
        exact retN X7 hx (t := .boolean) Bd.returns (by simp) (hb hby d5_22) hr
      · show Q5 Z ml sb va kv a n mo cs h0 n0 _ T7.heap _
        rw [eh7]
        exact ⟨by simp [bg, c3, c9], N8, rfl⟩
  · skip
    have pre14 : Rch p.tables e below (s₁.setTop (entryFrame m #[(.ref ml)] 1)) (T2.setTop (mkF m 17 #[.val (.ref ml)] [])) := fun tgt ktg => pre2 tgt (by
      show Steps p.tables e below (T2.setTop (mkF m 4 #[.val (.ref ml)] [(.int a)])) _
      refine XS.ifYes X2.here hx rfl (pc0 := 4) (pc' := 17) rfl (hb hby d5_4) rfl ((if0 _ _).trans (feq c3).2) (by decide) (by decide) ?_
      exact ktg)
    have pre15 : Rch p.tables e below (s₁.setTop (entryFrame m #[(.ref ml)] 1)) (T2.setTop (mkF m 22 #[.val (.ref ml)] [(.int (1 : Int32))])) := fun tgt ktg => pre14 tgt (by
      show Steps p.tables e below (T2.setTop (mkF m 17 #[.val (.ref ml)] [])) _
      refine XS.iconst X2.here hx rfl (hb hby d5_17) ?_
      show Steps p.tables e below (T2.setTop (mkF m 18 #[.val (.ref ml)] [(.int (1 : Int32))])) _
      refine XS.goto X2.here hx rfl (pc0 := 18) (pc' := 22) rfl (hb hby d5_18) (by decide) (by decide) ?_
      exact ktg)
    obtain ⟨fs, hr, hrun, hended, hW, hsame⟩ := X2.leave (v := some (.int (1 : Int32))) (fun h => by rw [Bd.returns] at h; cases h)
    refine ⟨_, _, pre15 _ ?_, hrun, hended, _, _, rfl, ?_, ⟨_, rfl⟩, hW, hsame.mono (by decide) (by decide)⟩
    · show Steps p.tables e below (T2.setTop (mkF m 22 #[.val (.ref ml)] [(.int (1 : Int32))])) _
      exact retN X2 hx (t := .boolean) Bd.returns (by simp) (hb hby d5_22) hr
    · show Q5 Z ml sb va kv a n mo cs h0 n0 _ T2.heap _
      rw [e2]
      exact ⟨by simp [bg, c3], N0, rfl⟩
theorem d14_0 : decode jdk_68_method_68_code 0 = .ok (.getstatic 18, 3) := by decide +kernel
theorem d14_3 : decode jdk_68_method_68_code 3 = .ok (.ifCond .eq 14, 3) := by decide +kernel
theorem d14_6 : decode jdk_68_method_68_code 6 = .ok (.aload_n 0, 1) := by decide +kernel
theorem d14_7 : decode jdk_68_method_68_code 7 = .ok (.getfield 22, 3) := by decide +kernel
theorem d14_10 : decode jdk_68_method_68_code 10 = .ok (.ifCond .ne 7, 3) := by decide +kernel
theorem d14_13 : decode jdk_68_method_68_code 13 = .ok (.iconst 1, 1) := by decide +kernel
theorem d14_14 : decode jdk_68_method_68_code 14 = .ok (.goto 4, 3) := by decide +kernel
theorem d14_18 : decode jdk_68_method_68_code 18 = .ok (.ireturn, 1) := by decide +kernel
theorem ef_14 (m : MethodId) (x0 : Addr) : entryFrame m #[(.ref x0)] 1 = mkF m 0 #[.val (.ref x0)] [] := by first | (simp [entryFrame, mkF, argsToLocals, Value.category]; done) | rfl
def Q14 (Z : State) (sb : Addr) (cs : Int32) (h0 : Heap) (n0 : Nat) (v : Option Value) (h : Heap) (L : List Loc) : Prop := v = some (.int 1) ∧ Fr n0 L ∧ h = h0
set_option maxRecDepth 65536 in
set_option maxHeartbeats 40000000 in
theorem rm14 (l : Launch) (Z : State) (a0 : Array Value) (hw : ∀ d ∈ tables_1, d.before a0 Z = true) (ws : List Jvm.Cond) (sb : Addr) (cs : Int32) (h0 : Heap) (n0 : Nat) (Z0 : n0 ≤ h0.size) (F1 : Fld Z h0 sb "java/lang/AbstractStringBuilder" "coder" "B" (.int (0 : Int32))) (S1 : Sta Z h0 "java/lang/String" "COMPACT_STRINGS" "Z" (.int cs)) (hcs : ¬ cs = 0) :
    MetFree l (⟨"java/lang/AbstractStringBuilder", "isLatin1", "()Z"⟩ : MethodName) (head1 (Jvm.Cond.code (⟨"java/lang/AbstractStringBuilder", "isLatin1", "()Z"⟩ : MethodName) jdk_68_method_68_code 1 (some .boolean) :: ws) ({ frames := 0, cells := 0, slots := 0, locals := 0 } : Room)) (fun aA U => aA = #[(.ref sb)] ∧ Z.Warmed39 U.vm ∧ U.heap = h0) (fun _ _ _ _ _ => True) (fun _ U oO U' => ∃ vV LL, oO = .returned vV ∧ Q14 Z sb cs h0 n0 vV U'.heap LL ∧ FrameEnd U oO U' LL ({ frames := 0, cells := 0, slots := 0, locals := 0 } : Room).cells ({ frames := 0, cells := 0, slots := 0, locals := 0 } : Room).slots) := by
  refine MetFree.of_bodySF (plainFor_of_name pn_0) hisR ?_
  intro p e s m args below meth c s₁ Bd hml0 hP hK
  obtain ⟨rfl, hZ, hh⟩ := hP
  have hx := Bd.exec
  have hby := Bd.bytes
  have hml : c.maxLocals = 1 := hml0
  have hown : s.vm.findClass "java/lang/AbstractStringBuilder" = some m.cls := findClass_of_methodNamed Bd.named
  have hnm := (name_of_methodNamed Bd.named Bd.method).1
  have X0 : Stand p l e ({ frames := 0, cells := 0, slots := 0, locals := 0 } : Room) s m #[(.ref sb)] below meth c s₁ [] 0 0 := Stand.of_body Bd
  have e0 : s₁.heap = h0 := by rw [← hh, Bd.state]; rfl
  have N0 := Fr.nil n0
  have K0 : Keep h0 h0 [] := Keep.refl _ _
  have pre0 : Rch p.tables e below (s₁.setTop (entryFrame m #[(.ref sb)] 1)) (s₁.setTop (mkF m 0 #[.val (.ref sb)] [])) := fun tgt ktg => castTop (ef_14 m sb) ktg
  obtain ⟨T1, X1, e1, st1⟩ := getS2 X0 hx hZ hown (host := "") (Or.inl (hw _ (List.mem_of_getElem? (i := 22) rfl))) Via.refl e0 S1 (g := (mkF m 0 #[.val (.ref sb)] [])) rfl (hb hby d14_0)
  have pre1 : Rch p.tables e below (s₁.setTop (entryFrame m #[(.ref sb)] 1)) (T1.setTop (mkF m 3 #[.val (.ref sb)] [(.int cs)])) := fun tgt ktg => pre0 tgt (st1 tgt ktg)
  have pre2 : Rch p.tables e below (s₁.setTop (entryFrame m #[(.ref sb)] 1)) (T1.setTop (mkF m 7 #[.val (.ref sb)] [(.ref sb)])) := fun tgt ktg => pre1 tgt (by
    show Steps p.tables e below (T1.setTop (mkF m 3 #[.val (.ref sb)] [(.int cs)])) _
    refine XS.ifNo X1.here hx rfl (hb hby d14_3) rfl ((if0 _ _).trans (feq hcs).1) ?_
    show Steps p.tables e below (T1.setTop (mkF m 6 #[.val (.ref sb)] [])) _
    refine XS.aloadN X1.here hx rfl (hb hby d14_6) rfl rfl ?_
    exact ktg)
  obtain ⟨T3, X3, e3, st3⟩ := getF X1 hx hZ hown (host := "") (Or.inl (hw _ (List.mem_of_getElem? (i := 27) rfl))) Via.refl e1 F1 (g := (mkF m 7 #[.val (.ref sb)] [(.ref sb)])) rfl rfl (hb hby d14_7)
  have pre3 : Rch p.tables e below (s₁.setTop (entryFrame m #[(.ref sb)] 1)) (T3.setTop (mkF m 10 #[.val (.ref sb)] [(.int (0 : Int32))])) := fun tgt ktg => pre2 tgt (st3 tgt ktg)
  have pre4 : Rch p.tables e below (s₁.setTop (entryFrame m #[(.ref sb)] 1)) (T3.setTop (mkF m 18 #[.val (.ref sb)] [(.int (1 : Int32))])) := fun tgt ktg => pre3 tgt (by
    show Steps p.tables e below (T3.setTop (mkF m 10 #[.val (.ref sb)] [(.int (0 : Int32))])) _
    refine XS.ifNo X3.here hx rfl (hb hby d14_10) rfl ((if0 _ _).trans (teq (rfl : (0 : Int32) = (0 : Int32))).2) ?_
    show Steps p.tables e below (T3.setTop (mkF m 13 #[.val (.ref sb)] [])) _
    refine XS.iconst X3.here hx rfl (hb hby d14_13) ?_
    show Steps p.tables e below (T3.setTop (mkF m 14 #[.val (.ref sb)] [(.int (1 : Int32))])) _
    refine XS.goto X3.here hx rfl (pc0 := 14) (pc' := 18) rfl (hb hby d14_14) (by decide) (by decide) ?_
    exact ktg)
  obtain ⟨fs, hr, hrun, hended, hW, hsame⟩ := X3.leave (v := some (.int (1 : Int32))) (fun h => by rw [Bd.returns] at h; cases h)
  refine ⟨_, _, pre4 _ ?_, hrun, hended, _, _, rfl, ?_, ⟨_, rfl⟩, hW, hsame.mono (by decide) (by decide)⟩
  · show Steps p.tables e below (T3.setTop (mkF m 18 #[.val (.ref sb)] [(.int (1 : Int32))])) _
    exact retN X3 hx (t := .boolean) Bd.returns (by simp) (hb hby d14_18) hr
  · show Q14 Z sb cs h0 n0 _ T3.heap _
    rw [e3]
    exact ⟨rfl, N0, rfl⟩
theorem d15_0 : decode jdk_43_method_3_code 0 = .ok (.iload_n 0, 1) := by decide +kernel
theorem d15_1 : decode jdk_43_method_3_code 1 = .ok (.sipush 255, 3) := by decide +kernel
theorem d15_4 : decode jdk_43_method_3_code 4 = .ok (.if_icmp .gt 7, 3) := by decide +kernel
theorem d15_7 : decode jdk_43_method_3_code 7 = .ok (.iconst 1, 1) := by decide +kernel
theorem d15_8 : decode jdk_43_method_3_code 8 = .ok (.goto 4, 3) := by decide +kernel
theorem d15_12 : decode jdk_43_method_3_code 12 = .ok (.ireturn, 1) := by decide +kernel
theorem pn_3 : plainName "java/lang/StringLatin1" = true := by first | (simp [plainName, overriddenIn]; done) | decide +kernel
theorem ef_15 (m : MethodId) (x0 : Int32) : entryFrame m #[(.int x0)] 1 = mkF m 0 #[.val (.int x0)] [] := by first | (simp [entryFrame, mkF, argsToLocals, Value.category]; done) | rfl
def Q15 (Z : State) (q : Int32) (h0 : Heap) (n0 : Nat) (v : Option Value) (h : Heap) (L : List Loc) : Prop := v = some (.int 1) ∧ Fr n0 L ∧ h = h0
set_option maxRecDepth 65536 in
set_option maxHeartbeats 40000000 in
theorem rm15 (l : Launch) (Z : State) (a0 : Array Value) (hw : ∀ d ∈ tables_1, d.before a0 Z = true) (ws : List Jvm.Cond) (q : Int32) (h0 : Heap) (n0 : Nat) (Z0 : n0 ≤ h0.size) (hq : ¬ (255 : Int32) < q) :
    MetFree l (⟨"java/lang/StringLatin1", "canEncode", "(C)Z"⟩ : MethodName) (head1 (Jvm.Cond.code (⟨"java/lang/StringLatin1", "canEncode", "(C)Z"⟩ : MethodName) jdk_43_method_3_code 1 (some .boolean) :: ws) ({ frames := 0, cells := 0, slots := 0, locals := 0 } : Room)) (fun aA U => aA = #[(.int q)] ∧ Z.Warmed39 U.vm ∧ U.heap = h0) (fun _ _ _ _ _ => True) (fun _ U oO U' => ∃ vV LL, oO = .returned vV ∧ Q15 Z q h0 n0 vV U'.heap LL ∧ FrameEnd U oO U' LL ({ frames := 0, cells := 0, slots := 0, locals := 0 } : Room).cells ({ frames := 0, cells := 0, slots := 0, locals := 0 } : Room).slots) := by
  refine MetFree.of_bodySF (plainFor_of_name pn_3) hisR ?_
  intro p e s m args below meth c s₁ Bd hml0 hP hK
  obtain ⟨rfl, hZ, hh⟩ := hP
  have hx := Bd.exec
  have hby := Bd.bytes
  have hml : c.maxLocals = 1 := hml0
  have hown : s.vm.findClass "java/lang/StringLatin1" = some m.cls := findClass_of_methodNamed Bd.named
  have hnm := (name_of_methodNamed Bd.named Bd.method).1
  have X0 : Stand p l e ({ frames := 0, cells := 0, slots := 0, locals := 0 } : Room) s m #[(.int q)] below meth c s₁ [] 0 0 := Stand.of_body Bd
  have e0 : s₁.heap = h0 := by rw [← hh, Bd.state]; rfl
  have N0 := Fr.nil n0
  have K0 : Keep h0 h0 [] := Keep.refl _ _
  have pre0 : Rch p.tables e below (s₁.setTop (entryFrame m #[(.int q)] 1)) (s₁.setTop (mkF m 0 #[.val (.int q)] [])) := fun tgt ktg => castTop (ef_15 m q) ktg
  have pre1 : Rch p.tables e below (s₁.setTop (entryFrame m #[(.int q)] 1)) (s₁.setTop (mkF m 12 #[.val (.int q)] [(.int (1 : Int32))])) := fun tgt ktg => pre0 tgt (by
    show Steps p.tables e below (s₁.setTop (mkF m 0 #[.val (.int q)] [])) _
    refine XS.iloadN X0.here hx rfl (hb hby d15_0) rfl ?_
    show Steps p.tables e below (s₁.setTop (mkF m 1 #[.val (.int q)] [(.int q)])) _
    refine XS.sipush X0.here hx rfl (hb hby d15_1) ?_
    show Steps p.tables e below (s₁.setTop (mkF m 4 #[.val (.int q)] [(.int (255 : Int32)), (.int q)])) _
    refine XS.icmpNo X0.here hx rfl (hb hby d15_4) rfl (flt hq).2.2.1 ?_
    show Steps p.tables e below (s₁.setTop (mkF m 7 #[.val (.int q)] [])) _
    refine XS.iconst X0.here hx rfl (hb hby d15_7) ?_
    show Steps p.tables e below (s₁.setTop (mkF m 8 #[.val (.int q)] [(.int (1 : Int32))])) _
    refine XS.goto X0.here hx rfl (pc0 := 8) (pc' := 12) rfl (hb hby d15_8) (by decide) (by decide) ?_
    exact ktg)
  obtain ⟨fs, hr, hrun, hended, hW, hsame⟩ := X0.leave (v := some (.int (1 : Int32))) (fun h => by rw [Bd.returns] at h; cases h)
  refine ⟨_, _, pre1 _ ?_, hrun, hended, _, _, rfl, ?_, ⟨_, rfl⟩, hW, hsame.mono (by decide) (by decide)⟩
  · show Steps p.tables e below (s₁.setTop (mkF m 12 #[.val (.int q)] [(.int (1 : Int32))])) _
    exact retN X0 hx (t := .boolean) Bd.returns (by simp) (hb hby d15_12) hr
  · show Q15 Z q h0 n0 _ s₁.heap _
    rw [e0]
    exact ⟨rfl, N0, rfl⟩
theorem d13_0 : decode jdk_68_method_9_code 0 = .ok (.aload_n 0, 1) := by decide +kernel
theorem d13_1 : decode jdk_68_method_9_code 1 = .ok (.getfield 15, 3) := by decide +kernel
theorem d13_4 : decode jdk_68_method_9_code 4 = .ok (.arraylength, 1) := by decide +kernel
theorem d13_5 : decode jdk_68_method_9_code 5 = .ok (.aload_n 0, 1) := by decide +kernel
theorem d13_6 : decode jdk_68_method_9_code 6 = .ok (.getfield 22, 3) := by decide +kernel
theorem d13_9 : decode jdk_68_method_9_code 9 = .ok (.ishr, 1) := by decide +kernel
theorem d13_10 : decode jdk_68_method_9_code 10 = .ok (.istore_n 2, 1) := by decide +kernel
theorem d13_11 : decode jdk_68_method_9_code 11 = .ok (.iload_n 1, 1) := by decide +kernel
theorem d13_12 : decode jdk_68_method_9_code 12 = .ok (.iload_n 2, 1) := by decide +kernel
theorem d13_13 : decode jdk_68_method_9_code 13 = .ok (.isub, 1) := by decide +kernel
theorem d13_14 : decode jdk_68_method_9_code 14 = .ok (.ifCond .le 24, 3) := by decide +kernel
theorem d13_38 : decode jdk_68_method_9_code 38 = .ok (.return_, 1) := by decide +kernel
theorem ef_13 (m : MethodId) (x0 : Addr) (x1 : Int32) : entryFrame m #[(.ref x0), (.int x1)] 3 = mkF m 0 #[.val (.ref x0), .val (.int x1), .unset] [] := by first | (simp [entryFrame, mkF, argsToLocals, Value.category]; done) | rfl
def Q13 (Z : State) (sb : Addr) (mi : Int32) (va : Addr) (kv : ClassId) (vs : List Value) (h0 : Heap) (n0 : Nat) (v : Option Value) (h : Heap) (L : List Loc) : Prop := v = none ∧ Fr n0 L ∧ h = h0
set_option maxRecDepth 65536 in
set_option maxHeartbeats 40000000 in
theorem rm13 (l : Launch) (Z : State) (a0 : Array Value) (hw : ∀ d ∈ tables_1, d.before a0 Z = true) (ws : List Jvm.Cond) (sb : Addr) (mi : Int32) (va : Addr) (kv : ClassId) (vs : List Value) (h0 : Heap) (n0 : Nat) (Z0 : n0 ≤ h0.size) (F1 : Fld Z h0 sb "java/lang/AbstractStringBuilder" "value" "[B" (.ref va)) (F2 : Fld Z h0 sb "java/lang/AbstractStringBuilder" "coder" "B" (.int (0 : Int32))) (A1 : Arv Z h0 va kv .byte (16 : Int32) vs (.int (0 : Int32))) (hmi : ¬ (0 : Int32) < (mi - (16 : Int32))) :
    MetFree l (⟨"java/lang/AbstractStringBuilder", "ensureCapacityInternal", "(I)V"⟩ : MethodName) (head1 (Jvm.Cond.code (⟨"java/lang/AbstractStringBuilder", "ensureCapacityInternal", "(I)V"⟩ : MethodName) jdk_68_method_9_code 3 none :: ws) ({ frames := 0, cells := 0, slots := 0, locals := 0 } : Room)) (fun aA U => aA = #[(.ref sb), (.int mi)] ∧ Z.Warmed39 U.vm ∧ U.heap = h0) (fun _ _ _ _ _ => True) (fun _ U oO U' => ∃ vV LL, oO = .returned vV ∧ Q13 Z sb mi va kv vs h0 n0 vV U'.heap LL ∧ FrameEnd U oO U' LL ({ frames := 0, cells := 0, slots := 0, locals := 0 } : Room).cells ({ frames := 0, cells := 0, slots := 0, locals := 0 } : Room).slots) := by
  refine MetFree.of_bodySF (plainFor_of_name pn_0) hisR ?_
  intro p e s m args below meth c s₁ Bd hml0 hP hK
  obtain ⟨rfl, hZ, hh⟩ := hP
  have hx := Bd.exec
  have hby := Bd.bytes
  have hml : c.maxLocals = 3 := hml0
  have hown : s.vm.findClass "java/lang/AbstractStringBuilder" = some m.cls := findClass_of_methodNamed Bd.named
  have hnm := (name_of_methodNamed Bd.named Bd.method).1
  have X0 : Stand p l e ({ frames := 0, cells := 0, slots := 0, locals := 0 } : Room) s m #[(.ref sb), (.int mi)] below meth c s₁ [] 0 0 := Stand.of_body Bd
  have e0 : s₁.heap = h0 := by rw [← hh, Bd.state]; rfl
  have N0 := Fr.nil n0
  have K0 : Keep h0 h0 [] := Keep.refl _ _
  have pre0 : Rch p.tables e below (s₁.setTop (entryFrame m #[(.ref sb), (.int mi)] 3)) (s₁.setTop (mkF m 0 #[.val (.ref sb), .val (.int mi), .unset] [])) := fun tgt ktg => castTop (ef_13 m sb mi) ktg
  have pre1 : Rch p.tables e below (s₁.setTop (entryFrame m #[(.ref sb), (.int mi)] 3)) (s₁.setTop (mkF m 1 #[.val (.ref sb), .val (.int mi), .unset] [(.ref sb)])) := fun tgt ktg => pre0 tgt (by
    show Steps p.tables e below (s₁.setTop (mkF m 0 #[.val (.ref sb), .val (.int mi), .unset] [])) _
    refine XS.aloadN X0.here hx rfl (hb hby d13_0) rfl rfl ?_
    exact ktg)
  obtain ⟨T2, X2, e2, st2⟩ := getF X0 hx hZ hown (host := "") (Or.inl (hw _ (List.mem_of_getElem? (i := 25) rfl))) Via.refl e0 F1 (g := (mkF m 1 #[.val (.ref sb), .val (.int mi), .unset] [(.ref sb)])) rfl rfl (hb hby d13_1)
  have pre2 : Rch p.tables e below (s₁.setTop (entryFrame m #[(.ref sb), (.int mi)] 3)) (T2.setTop (mkF m 4 #[.val (.ref sb), .val (.int mi), .unset] [(.ref va)])) := fun tgt ktg => pre1 tgt (st2 tgt ktg)
  obtain ⟨cl_3, Ar_3, q_3, S_3, N_3, H_3, G_3⟩ := id A1
  have pre4 : Rch p.tables e below (s₁.setTop (entryFrame m #[(.ref sb), (.int mi)] 3)) (T2.setTop (mkF m 5 #[.val (.ref sb), .val (.int mi), .unset] [(.int (16 : Int32))])) := fun tgt ktg => pre2 tgt (X2.arraylength hx (by rw [e2]; exact Ar_3.1) (State.isArrayOf_alike hZ.alike Ar_3.2.1) (g := (mkF m 4 #[.val (.ref sb), .val (.int mi), .unset] [(.ref va)])) rfl rfl (hb hby d13_4) _ (by rw [len_of S_3 N_3]; exact ktg))
  have pre5 : Rch p.tables e below (s₁.setTop (entryFrame m #[(.ref sb), (.int mi)] 3)) (T2.setTop (mkF m 6 #[.val (.ref sb), .val (.int mi), .unset] [(.ref sb), (.int (16 : Int32))])) := fun tgt ktg => pre4 tgt (by
    show Steps p.tables e below (T2.setTop (mkF m 5 #[.val (.ref sb), .val (.int mi), .unset] [(.int (16 : Int32))])) _
    refine XS.aloadN X2.here hx rfl (hb hby d13_5) rfl rfl ?_
    exact ktg)
  obtain ⟨T6, X6, e6, st6⟩ := getF X2 hx hZ hown (host := "") (Or.inl (hw _ (List.mem_of_getElem? (i := 27) rfl))) Via.refl e2 F2 (g := (mkF m 6 #[.val (.ref sb), .val (.int mi), .unset] [(.ref sb), (.int (16 : Int32))])) rfl rfl (hb hby d13_6)
  have pre6 : Rch p.tables e below (s₁.setTop (entryFrame m #[(.ref sb), (.int mi)] 3)) (T6.setTop (mkF m 9 #[.val (.ref sb), .val (.int mi), .unset] [(.int (0 : Int32)), (.int (16 : Int32))])) := fun tgt ktg => pre5 tgt (st6 tgt ktg)
  have pre7 : Rch p.tables e below (s₁.setTop (entryFrame m #[(.ref sb), (.int mi)] 3)) (T6.setTop (mkF m 10 #[.val (.ref sb), .val (.int mi), .unset] [(.int ((16 : Int32) >>> ((0 : Int32) &&& 31)))])) := fun tgt ktg => pre6 tgt (by
    show Steps p.tables e below (T6.setTop (mkF m 9 #[.val (.ref sb), .val (.int mi), .unset] [(.int (0 : Int32)), (.int (16 : Int32))])) _
    refine XT.ishr X6.here hx rfl (hb hby d13_9) rfl ?_
    exact ktg)
  have pre8 : Rch p.tables e below (s₁.setTop (entryFrame m #[(.ref sb), (.int mi)] 3)) (T6.setTop (mkF m 10 #[.val (.ref sb), .val (.int mi), .unset] [(.int (16 : Int32))])) := pre7
  have pre9 : Rch p.tables e below (s₁.setTop (entryFrame m #[(.ref sb), (.int mi)] 3)) (T6.setTop (mkF m 38 #[.val (.ref sb), .val (.int mi), .val (.int (16 : Int32))] [])) := fun tgt ktg => pre8 tgt (by
    show Steps p.tables e below (T6.setTop (mkF m 10 #[.val (.ref sb), .val (.int mi), .unset] [(.int (16 : Int32))])) _
    refine XS.istoreN X6.here hx rfl (hb hby d13_10) rfl (l' := #[.val (.ref sb), .val (.int mi), .val (.int (16 : Int32))]) rfl ?_
    show Steps p.tables e below (T6.setTop (mkF m 11 #[.val (.ref sb), .val (.int mi), .val (.int (16 : Int32))] [])) _
    refine XS.iloadN X6.here hx rfl (hb hby d13_11) rfl ?_
    show Steps p.tables e below (T6.setTop (mkF m 12 #[.val (.ref sb), .val (.int mi), .val (.int (16 : Int32))] [(.int mi)])) _
    refine XS.iloadN X6.here hx rfl (hb hby d13_12) rfl ?_
    show Steps p.tables e below (T6.setTop (mkF m 13 #[.val (.ref sb), .val (.int mi), .val (.int (16 : Int32))] [(.int (16 : Int32)), (.int mi)])) _
    refine XS.isub X6.here hx rfl (hb hby d13_13) rfl ?_
    show Steps p.tables e below (T6.setTop (mkF m 14 #[.val (.ref sb), .val (.int mi), .val (.int (16 : Int32))] [(.int (mi - (16 : Int32)))])) _
    refine XS.ifYes X6.here hx rfl (pc0 := 14) (pc' := 38) rfl (hb hby d13_14) rfl ((if0 _ _).trans (flt hmi).2.2.2) (by decide) (by decide) ?_
    exact ktg)
  obtain ⟨fs, hr, hrun, hended, hW, hsame⟩ := X6.leave (v := none) (fun _ => rfl)
  refine ⟨_, _, pre9 _ ?_, hrun, hended, _, _, rfl, ?_, ⟨_, rfl⟩, hW, hsame.mono (by decide) (by decide)⟩
  · show Steps p.tables e below (T6.setTop (mkF m 38 #[.val (.ref sb), .val (.int mi), .val (.int (16 : Int32))] [])) _
    exact X6.returnOut hx Bd.returns (hb hby d13_38) hr
  · show Q13 Z sb mi va kv vs h0 n0 _ T6.heap _
    rw [e6]
    exact ⟨rfl, N0, rfl⟩
theorem d12_0 : decode jdk_68_method_31_code 0 = .ok (.aload_n 0, 1) := by decide +kernel
theorem d12_1 : decode jdk_68_method_31_code 1 = .ok (.aload_n 0, 1) := by decide +kernel
theorem d12_2 : decode jdk_68_method_31_code 2 = .ok (.getfield 79, 3) := by decide +kernel
theorem d12_5 : decode jdk_68_method_31_code 5 = .ok (.iconst 1, 1) := by decide +kernel
theorem d12_6 : decode jdk_68_method_31_code 6 = .ok (.iadd, 1) := by decide +kernel
theorem d12_7 : decode jdk_68_method_31_code 7 = .ok (.invokevirtual 100, 3) := by decide +kernel
theorem d12_10 : decode jdk_68_method_31_code 10 = .ok (.aload_n 0, 1) := by decide +kernel
theorem d12_11 : decode jdk_68_method_31_code 11 = .ok (.invokevirtual 83, 3) := by decide +kernel
theorem pd_3 : parseMethodDescriptor "()Z" = some ⟨[], some .boolean⟩ := by decide +kernel
theorem d12_14 : decode jdk_68_method_31_code 14 = .ok (.ifCond .eq 31, 3) := by decide +kernel
theorem d12_17 : decode jdk_68_method_31_code 17 = .ok (.iload_n 1, 1) := by decide +kernel
theorem d12_18 : decode jdk_68_method_31_code 18 = .ok (.invokestatic 191, 3) := by decide +kernel
theorem pd_4 : parseMethodDescriptor "(C)Z" = some ⟨[.char], some .boolean⟩ := by decide +kernel
theorem d12_21 : decode jdk_68_method_31_code 21 = .ok (.ifCond .eq 24, 3) := by decide +kernel
theorem d12_24 : decode jdk_68_method_31_code 24 = .ok (.aload_n 0, 1) := by decide +kernel
theorem d12_25 : decode jdk_68_method_31_code 25 = .ok (.getfield 15, 3) := by decide +kernel
theorem d12_28 : decode jdk_68_method_31_code 28 = .ok (.aload_n 0, 1) := by decide +kernel
theorem d12_29 : decode jdk_68_method_31_code 29 = .ok (.dup, 1) := by decide +kernel
theorem d12_30 : decode jdk_68_method_31_code 30 = .ok (.getfield 79, 3) := by decide +kernel
theorem d12_33 : decode jdk_68_method_31_code 33 = .ok (.dup_x1, 1) := by decide +kernel
theorem d12_34 : decode jdk_68_method_31_code 34 = .ok (.iconst 1, 1) := by decide +kernel
theorem d12_35 : decode jdk_68_method_31_code 35 = .ok (.iadd, 1) := by decide +kernel
theorem d12_36 : decode jdk_68_method_31_code 36 = .ok (.putfield 79, 3) := by decide +kernel
theorem d12_39 : decode jdk_68_method_31_code 39 = .ok (.iload_n 1, 1) := by decide +kernel
theorem d12_40 : decode jdk_68_method_31_code 40 = .ok (.i2b, 1) := by decide +kernel
theorem d12_41 : decode jdk_68_method_31_code 41 = .ok (.bastore, 1) := by decide +kernel
theorem d12_42 : decode jdk_68_method_31_code 42 = .ok (.goto 33, 3) := by decide +kernel
theorem d12_75 : decode jdk_68_method_31_code 75 = .ok (.aload_n 0, 1) := by decide +kernel
theorem d12_76 : decode jdk_68_method_31_code 76 = .ok (.areturn, 1) := by decide +kernel
theorem ef_12 (m : MethodId) (x0 : Addr) (x1 : Int32) : entryFrame m #[(.ref x0), (.int x1)] 2 = mkF m 0 #[.val (.ref x0), .val (.int x1)] [] := by first | (simp [entryFrame, mkF, argsToLocals, Value.category]; done) | rfl
def Q12 (Z : State) (sb : Addr) (q : Int32) (va : Addr) (kv : ClassId) (n cs : Int32) (h0 : Heap) (n0 : Nat) (v : Option Value) (h : Heap) (L : List Loc) : Prop := v = some (.ref sb) ∧ Fr n0 L ∧ Keep h0 h [sb, va] ∧ SBs Z h sb va kv (n + 1) cs
set_option maxRecDepth 65536 in
set_option maxHeartbeats 40000000 in
theorem rm12 (l : Launch) (Z : State) (a0 : Array Value) (hw : ∀ d ∈ tables_1, d.before a0 Z = true) (ws : List Jvm.Cond) (sb : Addr) (q : Int32) (va : Addr) (kv : ClassId) (n cs : Int32) (h0 : Heap) (n0 : Nat) (Z0 : n0 ≤ h0.size) (M : SBs Z h0 sb va kv n cs) (nsv : sb ≠ va) (gs : n0 ≤ sb) (gv : n0 ≤ va) (hq : ¬ (255 : Int32) < q) (hn : ¬ n < 0 ∧ n < 15) (hcs : ¬ cs = 0) :
    MetFree l (⟨"java/lang/AbstractStringBuilder", "append", "(C)Ljava/lang/AbstractStringBuilder;"⟩ : MethodName) (head1 (Jvm.Cond.code (⟨"java/lang/AbstractStringBuilder", "append", "(C)Ljava/lang/AbstractStringBuilder;"⟩ : MethodName) jdk_68_method_31_code 2 (some (.object "java/lang/AbstractStringBuilder")) :: ws) ({ frames := 1, cells := 0, slots := 0, locals := 16 } : Room)) (fun aA U => aA = #[(.ref sb), (.int q)] ∧ Z.Warmed39 U.vm ∧ U.heap = h0) (fun _ _ _ _ _ => True) (fun _ U oO U' => ∃ vV LL, oO = .returned vV ∧ Q12 Z sb q va kv n cs h0 n0 vV U'.heap LL ∧ FrameEnd U oO U' LL ({ frames := 1, cells := 0, slots := 0, locals := 16 } : Room).cells ({ frames := 1, cells := 0, slots := 0, locals := 16 } : Room).slots) := by
  refine MetFree.of_bodySF (plainFor_of_name pn_0) hisR ?_
  intro p e s m args below meth c s₁ Bd hml0 hP hK
  obtain ⟨rfl, hZ, hh⟩ := hP
  have hx := Bd.exec
  have hby := Bd.bytes
  have hml : c.maxLocals = 2 := hml0
  have hown : s.vm.findClass "java/lang/AbstractStringBuilder" = some m.cls := findClass_of_methodNamed Bd.named
  have hnm := (name_of_methodNamed Bd.named Bd.method).1
  have X0 : Stand p l e ({ frames := 1, cells := 0, slots := 0, locals := 16 } : Room) s m #[(.ref sb), (.int q)] below meth c s₁ [] 0 0 := Stand.of_body Bd
  have e0 : s₁.heap = h0 := by rw [← hh, Bd.state]; rfl
  have N0 := Fr.nil n0
  have K0 : Keep h0 h0 [sb, va] := Keep.refl _ _
  have pre0 : Rch p.tables e below (s₁.setTop (entryFrame m #[(.ref sb), (.int q)] 2)) (s₁.setTop (mkF m 0 #[.val (.ref sb), .val (.int q)] [])) := fun tgt ktg => castTop (ef_12 m sb q) ktg
  obtain ⟨b1, b2, b3, b4, ⟨vs, b5, hvs⟩, b6⟩ := M
  have pre1 : Rch p.tables e below (s₁.setTop (entryFrame m #[(.ref sb), (.int q)] 2)) (s₁.setTop (mkF m 2 #[.val (.ref sb), .val (.int q)] [(.ref sb), (.ref sb)])) := fun tgt ktg => pre0 tgt (by
    show Steps p.tables e below (s₁.setTop (mkF m 0 #[.val (.ref sb), .val (.int q)] [])) _
    refine XS.aloadN X0.here hx rfl (hb hby d12_0) rfl rfl ?_
    show Steps p.tables e below (s₁.setTop (mkF m 1 #[.val (.ref sb), .val (.int q)] [(.ref sb)])) _
    refine XS.aloadN X0.here hx rfl (hb hby d12_1) rfl rfl ?_
    exact ktg)
  obtain ⟨T2, X2, e2, st2⟩ := getF X0 hx hZ hown (host := "") (Or.inl (hw _ (List.mem_of_getElem? (i := 50) rfl))) Via.refl e0 b4 (g := (mkF m 2 #[.val (.ref sb), .val (.int q)] [(.ref sb), (.ref sb)])) rfl rfl (hb hby d12_2)
  have pre2 : Rch p.tables e below (s₁.setTop (entryFrame m #[(.ref sb), (.int q)] 2)) (T2.setTop (mkF m 5 #[.val (.ref sb), .val (.int q)] [(.int n), (.ref sb)])) := fun tgt ktg => pre1 tgt (st2 tgt ktg)
  have pre3 : Rch p.tables e below (s₁.setTop (entryFrame m #[(.ref sb), (.int q)] 2)) (T2.setTop (mkF m 7 #[.val (.ref sb), .val (.int q)] [(.int (n + (1 : Int32))), (.ref sb)])) := fun tgt ktg => pre2 tgt (by
    show Steps p.tables e below (T2.setTop (mkF m 5 #[.val (.ref sb), .val (.int q)] [(.int n), (.ref sb)])) _
    refine XS.iconst X2.here hx rfl (hb hby d12_5) ?_
    show Steps p.tables e below (T2.setTop (mkF m 6 #[.val (.ref sb), .val (.int q)] [(.int (1 : Int32)), (.int n), (.ref sb)])) _
    refine XS.iadd X2.here hx rfl (hb hby d12_6) rfl ?_
    exact ktg)
  obtain ⟨cq4, q4, q4'⟩ := b1.cell
  obtain ⟨_, _, ⟨T4, L4, k4, n4⟩, -, X4, ⟨Lc4, hQ4, l4, y4, z4⟩, st4⟩ := X2.privateBack hx (y := (⟨"java/lang/AbstractStringBuilder", "ensureCapacityInternal", "(I)V"⟩ : MethodName)) hown (mvT hZ (hw _ (List.mem_of_getElem? (i := 73) rfl))) (mvT hZ (hw _ (List.mem_of_getElem? (i := 74) rfl))) (mvT hZ (own_psel (y := (⟨"java/lang/AbstractStringBuilder", "ensureCapacityInternal", "(I)V"⟩ : MethodName)) (own_noface (C := "java/lang/StringBuilder") (y := (⟨"java/lang/AbstractStringBuilder", "isLatin1", "()Z"⟩ : MethodName)) (hw _ (List.mem_of_getElem? (i := 81) rfl))) (hw _ (List.mem_of_getElem? (i := 74) rfl)) (hw _ (List.mem_of_getElem? (i := 75) rfl)) (by decide))) (Cond.privateMethod_at (mvP hZ (hw _ (List.mem_of_getElem? (i := 75) rfl)) (args := #[]))) (mvT hZ (hw _ (List.mem_of_getElem? (i := 77) rfl))) (by decide) (backOf (W := 0) (rm13 l Z a0 hw [] sb (n + (1 : Int32)) va kv vs h0 n0 Z0 b2 b3 b5 (own_ec hn)) hZ (hw _ (List.mem_of_getElem? (i := 77) rfl)) (hw _ (List.mem_of_getElem? (i := 19) rfl)) (by decide) (by decide)) (g := (mkF m 7 #[.val (.ref sb), .val (.int q)] [(.int (n + (1 : Int32))), (.ref sb)])) rfl (by rw [hml]; rfl) (Steps.refl _) (a := sb) (by rw [e2]; exact q4) q4' (argsL := [(.int (n + (1 : Int32)))]) (rest := []) (lenOf pd_0 rfl) rfl (by show 2 * 0 + _ ≤ _; exact Nat.le_of_eq rfl) (hb hby d12_7) (fun _ _ => ⟨rfl, e2, (by decide : 0 + 0 ≤ _), (by decide : 0 + 0 ≤ _)⟩)
  dsimp only [Pt.U, Pt.locs, Pt.cells, Pt.slots] at X4 l4 y4 z4 st4 hQ4
  subst l4 y4 z4
  obtain ⟨rfl, Nq4, eh4⟩ := hQ4
  have N5 := Fr.app N0 Nq4
  have pre4 : Rch p.tables e below (s₁.setTop (entryFrame m #[(.ref sb), (.int q)] 2)) (T4.setTop (mkF m 10 #[.val (.ref sb), .val (.int q)] [])) := fun tgt ktg => pre3 tgt (st4.trans ktg)
  have pre6 : Rch p.tables e below (s₁.setTop (entryFrame m #[(.ref sb), (.int q)] 2)) (T4.setTop (mkF m 11 #[.val (.ref sb), .val (.int q)] [(.ref sb)])) := fun tgt ktg => pre4 tgt (by
    show Steps p.tables e below (T4.setTop (mkF m 10 #[.val (.ref sb), .val (.int q)] [])) _
    refine XS.aloadN X4.here hx rfl (hb hby d12_10) rfl rfl ?_
    exact ktg)
  obtain ⟨cq7, kq7, q7a, q7b, q7c⟩ := isOf hZ eh4 b1
  obtain ⟨_, _, ⟨T7, L7, k7, n7⟩, -, X7, ⟨Lc7, hQ7, l7, y7, z7⟩, st7⟩ := X4.virtualBack hx (y := (⟨"java/lang/AbstractStringBuilder", "isLatin1", "()Z"⟩ : MethodName)) (z := (⟨"java/lang/AbstractStringBuilder", "isLatin1", "()Z"⟩ : MethodName)) hown (mvT hZ (hw _ (List.mem_of_getElem? (i := 78) rfl))) (mvT hZ (hw _ (List.mem_of_getElem? (i := 79) rfl))) (notFace_of_selects (args := #[]) (mvT hZ (hw _ (List.mem_of_getElem? (i := 81) rfl)))) (mvT hZ (hw _ (List.mem_of_getElem? (i := 81) rfl))) (mvT hZ (hw _ (List.mem_of_getElem? (i := 80) rfl))) (by decide) (backOf (W := 0) (rm14 l Z a0 hw [] sb cs h0 n0 Z0 b3 b6 hcs) hZ (hw _ (List.mem_of_getElem? (i := 82) rfl)) (hw _ (List.mem_of_getElem? (i := 19) rfl)) (by decide) (by decide)) q7a q7c (g := (mkF m 11 #[.val (.ref sb), .val (.int q)] [(.ref sb)])) rfl (by rw [hml]; rfl) (Steps.refl _) (argsL := []) (rest := []) (lenOf pd_3 rfl) rfl (by show 2 * 0 + _ ≤ _; exact Nat.le_of_eq rfl) (hb hby d12_11) (fun _ _ => ⟨rfl, eh4, (by decide : 0 + 0 ≤ _), (by decide : 0 + 0 ≤ _)⟩)
  dsimp only [Pt.U, Pt.locs, Pt.cells, Pt.slots] at X7 l7 y7 z7 st7 hQ7
  subst l7 y7 z7
  obtain ⟨rfl, Nq7, eh7⟩ := hQ7
  have N8 := Fr.app N5 Nq7
  have pre7 : Rch p.tables e below (s₁.setTop (entryFrame m #[(.ref sb), (.int q)] 2)) (T7.setTop (mkF m 14 #[.val (.ref sb), .val (.int q)] [(.int (1 : Int32))])) := fun tgt ktg => pre6 tgt (st7.trans ktg)
  have pre9 : Rch p.tables e below (s₁.setTop (entryFrame m #[(.ref sb), (.int q)] 2)) (T7.setTop (mkF m 18 #[.val (.ref sb), .val (.int q)] [(.int q)])) := fun tgt ktg => pre7 tgt (by
    show Steps p.tables e below (T7.setTop (mkF m 14 #[.val (.ref sb), .val (.int q)] [(.int (1 : Int32))])) _
    refine XS.ifNo X7.here hx rfl (hb hby d12_14) rfl ((if0 _ _).trans (feq (by decide : ¬ ((1 : Int32) = (0 : Int32)))).1) ?_
    show Steps p.tables e below (T7.setTop (mkF m 17 #[.val (.ref sb), .val (.int q)] [])) _
    refine XS.iloadN X7.here hx rfl (hb hby d12_17) rfl ?_
    exact ktg)
  obtain ⟨_, _, ⟨T10, L10, k10, n10⟩, -, X10, ⟨Lc10, hQ10, l10, y10, z10⟩, st10⟩ := Jvm.LawKit.callS X7 hx (y := (⟨"java/lang/StringLatin1", "canEncode", "(C)Z"⟩ : MethodName)) hown (mvT hZ (hw _ (List.mem_of_getElem? (i := 83) rfl))) (mvT hZ (hw _ (List.mem_of_getElem? (i := 84) rfl))) (mvT hZ (hw _ (List.mem_of_getElem? (i := 85) rfl))) (mvT hZ (hw _ (List.mem_of_getElem? (i := 86) rfl))) (by decide) (backOf (W := 0) (rm15 l Z a0 hw [] q h0 n0 Z0 hq) hZ (hw _ (List.mem_of_getElem? (i := 86) rfl)) (hw _ (List.mem_of_getElem? (i := 85) rfl)) (by decide) (by decide)) (g := (mkF m 18 #[.val (.ref sb), .val (.int q)] [(.int q)])) rfl (by rw [hml]; rfl) (argsL := [(.int q)]) (rest := []) (lenOf pd_4 rfl) rfl (by show 2 * 0 + _ ≤ _; exact Nat.le_of_eq rfl) (hb hby d12_18) (fun _ _ => ⟨rfl, eh7, (by decide : 0 + 0 ≤ _), (by decide : 0 + 0 ≤ _)⟩)
  dsimp only [Pt.U, Pt.locs, Pt.cells, Pt.slots] at X10 l10 y10 z10 st10 hQ10
  subst l10 y10 z10
  obtain ⟨rfl, Nq10, eh10⟩ := hQ10
  have N11 := Fr.app N8 Nq10
  have pre10 : Rch p.tables e below (s₁.setTop (entryFrame m #[(.ref sb), (.int q)] 2)) (T10.setTop (mkF m 21 #[.val (.ref sb), .val (.int q)] [(.int (1 : Int32))])) := fun tgt ktg => pre9 tgt (st10 tgt ktg)
  have pre12 : Rch p.tables e below (s₁.setTop (entryFrame m #[(.ref sb), (.int q)] 2)) (T10.setTop (mkF m 25 #[.val (.ref sb), .val (.int q)] [(.ref sb)])) := fun tgt ktg => pre10 tgt (by
    show Steps p.tables e below (T10.setTop (mkF m 21 #[.val (.ref sb), .val (.int q)] [(.int (1 : Int32))])) _
    refine XS.ifNo X10.here hx rfl (hb hby d12_21) rfl ((if0 _ _).trans (feq (by decide : ¬ ((1 : Int32) = (0 : Int32)))).1) ?_
    show Steps p.tables e below (T10.setTop (mkF m 24 #[.val (.ref sb), .val (.int q)] [])) _
    refine XS.aloadN X10.here hx rfl (hb hby d12_24) rfl rfl ?_
    exact ktg)
  obtain ⟨T13, X13, e13, st13⟩ := getF X10 hx hZ hown (host := "") (Or.inl (hw _ (List.mem_of_getElem? (i := 25) rfl))) Via.refl eh10 b2 (g := (mkF m 25 #[.val (.ref sb), .val (.int q)] [(.ref sb)])) rfl rfl (hb hby d12_25)
  have pre13 : Rch p.tables e below (s₁.setTop (entryFrame m #[(.ref sb), (.int q)] 2)) (T13.setTop (mkF m 28 #[.val (.ref sb), .val (.int q)] [(.ref va)])) := fun tgt ktg => pre12 tgt (st13 tgt ktg)
  have pre14 : Rch p.tables e below (s₁.setTop (entryFrame m #[(.ref sb), (.int q)] 2)) (T13.setTop (mkF m 30 #[.val (.ref sb), .val (.int q)] [(.ref sb), (.ref sb), (.ref va)])) := fun tgt ktg => pre13 tgt (by
    show Steps p.tables e below (T13.setTop (mkF m 28 #[.val (.ref sb), .val (.int q)] [(.ref va)])) _
    refine XS.aloadN X13.here hx rfl (hb hby d12_28) rfl rfl ?_
    show Steps p.tables e below (T13.setTop (mkF m 29 #[.val (.ref sb), .val (.int q)] [(.ref sb), (.ref va)])) _
    refine XS.dup X13.here hx rfl (hb hby d12_29) rfl rfl ?_
    exact ktg)
  obtain ⟨T15, X15, e15, st15⟩ := getF X13 hx hZ hown (host := "") (Or.inl (hw _ (List.mem_of_getElem? (i := 50) rfl))) Via.refl e13 b4 (g := (mkF m 30 #[.val (.ref sb), .val (.int q)] [(.ref sb), (.ref sb), (.ref va)])) rfl rfl (hb hby d12_30)
  have pre15 : Rch p.tables e below (s₁.setTop (entryFrame m #[(.ref sb), (.int q)] 2)) (T15.setTop (mkF m 33 #[.val (.ref sb), .val (.int q)] [(.int n), (.ref sb), (.ref va)])) := fun tgt ktg => pre14 tgt (st15 tgt ktg)
  have pre16 : Rch p.tables e below (s₁.setTop (entryFrame m #[(.ref sb), (.int q)] 2)) (T15.setTop (mkF m 36 #[.val (.ref sb), .val (.int q)] [(.int (n + (1 : Int32))), (.ref sb), (.int n), (.ref va)])) := fun tgt ktg => pre15 tgt (by
    show Steps p.tables e below (T15.setTop (mkF m 33 #[.val (.ref sb), .val (.int q)] [(.int n), (.ref sb), (.ref va)])) _
    refine XT.dupX1 X15.here hx rfl (hb hby d12_33) rfl rfl rfl ?_
    show Steps p.tables e below (T15.setTop (mkF m 34 #[.val (.ref sb), .val (.int q)] [(.int n), (.ref sb), (.int n), (.ref va)])) _
    refine XS.iconst X15.here hx rfl (hb hby d12_34) ?_
    show Steps p.tables e below (T15.setTop (mkF m 35 #[.val (.ref sb), .val (.int q)] [(.int (1 : Int32)), (.int n), (.ref sb), (.int n), (.ref va)])) _
    refine XS.iadd X15.here hx rfl (hb hby d12_35) rfl ?_
    exact ktg)
  obtain ⟨T17, h17, X17, e17, W17, st17⟩ := putF X15 hx hZ hown (host := "") (Or.inl (hw _ (List.mem_of_getElem? (i := 50) rfl))) Via.refl e15 b4 b1 (Or.inl (hw _ (List.mem_of_getElem? (i := 51) rfl))) (hw _ (List.mem_of_getElem? (i := 10) rfl)) (ty := .int) (by decide) rfl rfl (g := (mkF m 36 #[.val (.ref sb), .val (.int q)] [(.int (n + (1 : Int32))), (.ref sb), (.int n), (.ref va)])) rfl rfl (hb hby d12_36)
  have pre17 : Rch p.tables e below (s₁.setTop (entryFrame m #[(.ref sb), (.int q)] 2)) (T17.setTop (mkF m 39 #[.val (.ref sb), .val (.int q)] [(.int n), (.ref va)])) := fun tgt ktg => pre16 tgt (st17 tgt ktg)
  have f18 : Exa Z h17 sb "java/lang/StringBuilder" := b1.wr W17
  have f19 : Fld Z h17 sb "java/lang/AbstractStringBuilder" "value" "[B" (.ref va) := b2.other W17 (Or.inr (slot_ne (Or.inl (hw _ (List.mem_of_getElem? (i := 26) rfl))) (Or.inl (hw _ (List.mem_of_getElem? (i := 51) rfl))) (by decide) (t := (.array .byte)) (t' := .int) (by decide) (by decide)))
  have f20 : Fld Z h17 sb "java/lang/AbstractStringBuilder" "coder" "B" (.int (0 : Int32)) := b3.other W17 (Or.inr (slot_ne (Or.inl (hw _ (List.mem_of_getElem? (i := 28) rfl))) (Or.inl (hw _ (List.mem_of_getElem? (i := 51) rfl))) (by decide) (t := .byte) (t' := .int) (by decide) (by decide)))
  have f21 : Arv Z h17 va kv .byte (16 : Int32) vs (.int (0 : Int32)) := b5.other W17 (Ne.symm nsv)
  have f22 : Sta Z h17 "java/lang/String" "COMPACT_STRINGS" "Z" (.int cs) := b6.wr W17
  have z23 : n0 ≤ h17.size := Nat.le_trans Z0 (Keep.of_wr W17).1
  have K24 : Keep h0 h17 [sb, va] := K0.wr W17 (Or.inl (List.mem_of_getElem? (i := 0) rfl))
  have f25 : Fld Z h17 sb "java/lang/AbstractStringBuilder" "count" "I" (.int (n + (1 : Int32))) := b4.same W17
  have N26 := Fr.snoc X17 N11 gs
  have pre27 : Rch p.tables e below (s₁.setTop (entryFrame m #[(.ref sb), (.int q)] 2)) (T17.setTop (mkF m 41 #[.val (.ref sb), .val (.int q)] [(.int (q.toInt8.toInt32)), (.int n), (.ref va)])) := fun tgt ktg => pre17 tgt (by
    show Steps p.tables e below (T17.setTop (mkF m 39 #[.val (.ref sb), .val (.int q)] [(.int n), (.ref va)])) _
    refine XS.iloadN X17.here hx rfl (hb hby d12_39) rfl ?_
    show Steps p.tables e below (T17.setTop (mkF m 40 #[.val (.ref sb), .val (.int q)] [(.int q), (.int n), (.ref va)])) _
    refine XT.i2b X17.here hx rfl (hb hby d12_40) rfl ?_
    exact ktg)
  obtain ⟨cl_28, Ar_28, q_28, S_28, N_28, H_28, G_28⟩ := id f21
  have hin_28 : ¬ (n < 0 ∨ cl_28.slots.size ≤ (n).toNatClampNeg) := inb_of S_28 (own_in hn)
  obtain ⟨T29, h29, X29, e29, W29, st29⟩ := stB X17 hx hZ e17 Ar_28 (j := n) hin_28 (g := (mkF m 41 #[.val (.ref sb), .val (.int q)] [(.int (q.toInt8.toInt32)), (.int n), (.ref va)])) rfl rfl (hb hby d12_41)
  have pre29 : Rch p.tables e below (s₁.setTop (entryFrame m #[(.ref sb), (.int q)] 2)) (T29.setTop (mkF m 42 #[.val (.ref sb), .val (.int q)] [])) := fun tgt ktg => pre27 tgt (st29 tgt ktg)
  have f30 : Exa Z h29 sb "java/lang/StringBuilder" := f18.wr W29
  have f31 : Fld Z h29 sb "java/lang/AbstractStringBuilder" "value" "[B" (.ref va) := f19.other W29 (Or.inl nsv)
  have f32 : Fld Z h29 sb "java/lang/AbstractStringBuilder" "coder" "B" (.int (0 : Int32)) := f20.other W29 (Or.inl nsv)
  have f33 : Sta Z h29 "java/lang/String" "COMPACT_STRINGS" "Z" (.int cs) := f22.wr W29
  have f34 : Fld Z h29 sb "java/lang/AbstractStringBuilder" "count" "I" (.int (n + (1 : Int32))) := f25.other W29 (Or.inl nsv)
  have z35 : n0 ≤ h29.size := Nat.le_trans z23 (Keep.of_wr W29).1
  have K36 : Keep h0 h29 [sb, va] := K24.wr W29 (Or.inl (List.mem_of_getElem? (i := 1) rfl))
  have f37 : Arv Z h29 va kv .byte (16 : Int32) (vs.set n.toNatClampNeg (.int (nar .byte (q.toInt8.toInt32)))) (.int (0 : Int32)) := Arv.set Ar_28 q_28 S_28 N_28 H_28 G_28 (fits_nar_byte _) W29 n.toNatClampNeg rfl (own_pl hn hvs)
  have N38 := Fr.snoc X29 N26 gv
  have pre39 : Rch p.tables e below (s₁.setTop (entryFrame m #[(.ref sb), (.int q)] 2)) (T29.setTop (mkF m 76 #[.val (.ref sb), .val (.int q)] [(.ref sb)])) := fun tgt ktg => pre29 tgt (by
    show Steps p.tables e below (T29.setTop (mkF m 42 #[.val (.ref sb), .val (.int q)] [])) _
    refine XS.goto X29.here hx rfl (pc0 := 42) (pc' := 75) rfl (hb hby d12_42) (by decide) (by decide) ?_
    show Steps p.tables e below (T29.setTop (mkF m 75 #[.val (.ref sb), .val (.int q)] [])) _
    refine XS.aloadN X29.here hx rfl (hb hby d12_75) rfl rfl ?_
    exact ktg)
  obtain ⟨fs, hr, hrun, hended, hW, hsame⟩ := X29.leave (v := some (.ref sb)) (fun h => by rw [Bd.returns] at h; cases h)
  refine ⟨_, _, pre39 _ ?_, hrun, hended, _, _, rfl, ?_, ⟨_, rfl⟩, hW, hsame.mono (by decide) (by decide)⟩
  · show Steps p.tables e below (T29.setTop (mkF m 76 #[.val (.ref sb), .val (.int q)] [(.ref sb)])) _
    jvm_step X29.here [X29.here.top, hx, (hb hby d12_76), X29.method', Bd.returns, Value.isRef, FieldType.isReference]
    first | (intro acts; rw [hr _ acts rfl rfl rfl]) | rw [hr _ _ rfl rfl rfl]
    exact Steps.refl _
  · show Q12 Z sb q va kv n cs h0 n0 _ T29.heap _
    rw [e29]
    exact ⟨rfl, N38, K36, ⟨f30, f31, f32, f34, ⟨_, f37, (by simpa using hvs)⟩, f33⟩⟩
theorem d11_0 : decode jdk_67_method_14_code 0 = .ok (.aload_n 0, 1) := by decide +kernel
theorem d11_1 : decode jdk_67_method_14_code 1 = .ok (.iload_n 1, 1) := by decide +kernel
theorem d11_2 : decode jdk_67_method_14_code 2 = .ok (.invokespecial 50, 3) := by decide +kernel
theorem pd_5 : parseMethodDescriptor "(C)Ljava/lang/AbstractStringBuilder;" = some ⟨[.char], some (.object "java/lang/AbstractStringBuilder")⟩ := by decide +kernel
theorem d11_5 : decode jdk_67_method_14_code 5 = .ok (.pop, 1) := by decide +kernel
theorem d11_6 : decode jdk_67_method_14_code 6 = .ok (.aload_n 0, 1) := by decide +kernel
theorem d11_7 : decode jdk_67_method_14_code 7 = .ok (.areturn, 1) := by decide +kernel
theorem ef_11 (m : MethodId) (x0 : Addr) (x1 : Int32) : entryFrame m #[(.ref x0), (.int x1)] 2 = mkF m 0 #[.val (.ref x0), .val (.int x1)] [] := by first | (simp [entryFrame, mkF, argsToLocals, Value.category]; done) | rfl
def Q11 (Z : State) (sb : Addr) (q : Int32) (va : Addr) (kv : ClassId) (n cs : Int32) (h0 : Heap) (n0 : Nat) (v : Option Value) (h : Heap) (L : List Loc) : Prop := v = some (.ref sb) ∧ Fr n0 L ∧ Keep h0 h [sb, va] ∧ SBs Z h sb va kv (n + 1) cs
set_option maxRecDepth 65536 in
set_option maxHeartbeats 40000000 in
theorem rm11 (l : Launch) (Z : State) (a0 : Array Value) (hw : ∀ d ∈ tables_1, d.before a0 Z = true) (ws : List Jvm.Cond) (sb : Addr) (q : Int32) (va : Addr) (kv : ClassId) (n cs : Int32) (h0 : Heap) (n0 : Nat) (Z0 : n0 ≤ h0.size) (M : SBs Z h0 sb va kv n cs) (nsv : sb ≠ va) (gs : n0 ≤ sb) (gv : n0 ≤ va) (hq : ¬ (255 : Int32) < q) (hn : ¬ n < 0 ∧ n < 15) (hcs : ¬ cs = 0) :
    MetFree l (⟨"java/lang/StringBuilder", "append", "(C)Ljava/lang/StringBuilder;"⟩ : MethodName) (head1 (Jvm.Cond.code (⟨"java/lang/StringBuilder", "append", "(C)Ljava/lang/StringBuilder;"⟩ : MethodName) jdk_67_method_14_code 2 (some (.object "java/lang/StringBuilder")) :: ws) ({ frames := 2, cells := 0, slots := 0, locals := 30 } : Room)) (fun aA U => aA = #[(.ref sb), (.int q)] ∧ Z.Warmed39 U.vm ∧ U.heap = h0) (fun _ _ _ _ _ => True) (fun _ U oO U' => ∃ vV LL, oO = .returned vV ∧ Q11 Z sb q va kv n cs h0 n0 vV U'.heap LL ∧ FrameEnd U oO U' LL ({ frames := 2, cells := 0, slots := 0, locals := 30 } : Room).cells ({ frames := 2, cells := 0, slots := 0, locals := 30 } : Room).slots) := by
  refine MetFree.of_bodySF (plainFor_of_name pn_1) hisR ?_
  intro p e s m args below meth c s₁ Bd hml0 hP hK
  obtain ⟨rfl, hZ, hh⟩ := hP
  have hx := Bd.exec
  have hby := Bd.bytes
  have hml : c.maxLocals = 2 := hml0
  have hown : s.vm.findClass "java/lang/StringBuilder" = some m.cls := findClass_of_methodNamed Bd.named
  have hnm := (name_of_methodNamed Bd.named Bd.method).1
  have X0 : Stand p l e ({ frames := 2, cells := 0, slots := 0, locals := 30 } : Room) s m #[(.ref sb), (.int q)] below meth c s₁ [] 0 0 := Stand.of_body Bd
  have e0 : s₁.heap = h0 := by rw [← hh, Bd.state]; rfl
  have N0 := Fr.nil n0
  have K0 : Keep h0 h0 [sb, va] := Keep.refl _ _
  have pre0 : Rch p.tables e below (s₁.setTop (entryFrame m #[(.ref sb), (.int q)] 2)) (s₁.setTop (mkF m 0 #[.val (.ref sb), .val (.int q)] [])) := fun tgt ktg => castTop (ef_11 m sb q) ktg
  have pre1 : Rch p.tables e below (s₁.setTop (entryFrame m #[(.ref sb), (.int q)] 2)) (s₁.setTop (mkF m 2 #[.val (.ref sb), .val (.int q)] [(.int q), (.ref sb)])) := fun tgt ktg => pre0 tgt (by
    show Steps p.tables e below (s₁.setTop (mkF m 0 #[.val (.ref sb), .val (.int q)] [])) _
    refine XS.aloadN X0.here hx rfl (hb hby d11_0) rfl rfl ?_
    show Steps p.tables e below (s₁.setTop (mkF m 1 #[.val (.ref sb), .val (.int q)] [(.ref sb)])) _
    refine XS.iloadN X0.here hx rfl (hb hby d11_1) rfl ?_
    exact ktg)
  obtain ⟨_, _, ⟨T2, L2, k2, n2⟩, -, X2, ⟨Lc2, hQ2, l2, y2, z2⟩, st2⟩ := superBack X0 hx hZ (y := (⟨"java/lang/AbstractStringBuilder", "append", "(C)Ljava/lang/AbstractStringBuilder;"⟩ : MethodName)) hown (hw _ (List.mem_of_getElem? (i := 69) rfl)) (own_same (y := (⟨"java/lang/AbstractStringBuilder", "append", "(C)Ljava/lang/AbstractStringBuilder;"⟩ : MethodName)) (own_noface (C := "java/lang/StringBuilder") (y := (⟨"java/lang/AbstractStringBuilder", "isLatin1", "()Z"⟩ : MethodName)) (hw _ (List.mem_of_getElem? (i := 81) rfl))) (hw _ (List.mem_of_getElem? (i := 70) rfl)) (by decide)) (hw _ (List.mem_of_getElem? (i := 70) rfl)) (hw _ (List.mem_of_getElem? (i := 47) rfl)) (by decide) (backOf (W := 0) (rm12 l Z a0 hw [] sb q va kv n cs h0 n0 Z0 M nsv gs gv hq hn hcs) hZ (hw _ (List.mem_of_getElem? (i := 72) rfl)) (hw _ (List.mem_of_getElem? (i := 19) rfl)) (by decide) (by decide)) e0 (Ins.self M.1) (g := (mkF m 2 #[.val (.ref sb), .val (.int q)] [(.int q), (.ref sb)])) rfl (by rw [hml]; rfl) (hw _ (List.mem_of_getElem? (i := 72) rfl)) (argsL := [(.int q)]) (rest := []) (lenOf pd_5 rfl) rfl (by show 2 * 0 + _ ≤ _; exact Nat.le_of_eq rfl) (hb hby d11_2) (fun _ _ => ⟨rfl, e0, (by decide : 0 + 0 ≤ _), (by decide : 0 + 0 ≤ _)⟩)
  dsimp only [Pt.U, Pt.locs, Pt.cells, Pt.slots] at X2 l2 y2 z2 st2 hQ2
  subst l2 y2 z2
  obtain ⟨rfl, Nq2, Kq2, b0⟩ := hQ2
  have N3 := Fr.app N0 Nq2
  have pre2 : Rch p.tables e below (s₁.setTop (entryFrame m #[(.ref sb), (.int q)] 2)) (T2.setTop (mkF m 5 #[.val (.ref sb), .val (.int q)] [(.ref sb)])) := fun tgt ktg => pre1 tgt (st2.trans ktg)
  have f4 : Exa Z T2.heap sb "java/lang/StringBuilder" := M.1.keep Kq2
  have z5 : n0 ≤ T2.heap.size := Nat.le_trans Z0 Kq2.1
  have K6 : Keep h0 T2.heap [sb, va] := K0.trans Kq2 (allS (P := fun x => x ∈ [sb, va] ∨ h0.size ≤ x) (Or.inl (List.mem_of_getElem? (i := 0) rfl)) (allS (P := fun x => x ∈ [sb, va] ∨ h0.size ≤ x) (Or.inl (List.mem_of_getElem? (i := 1) rfl)) (all0 (P := fun x => x ∈ [sb, va] ∨ h0.size ≤ x))))
  have pre7 : Rch p.tables e below (s₁.setTop (entryFrame m #[(.ref sb), (.int q)] 2)) (T2.setTop (mkF m 7 #[.val (.ref sb), .val (.int q)] [(.ref sb)])) := fun tgt ktg => pre2 tgt (by
    show Steps p.tables e below (T2.setTop (mkF m 5 #[.val (.ref sb), .val (.int q)] [(.ref sb)])) _
    refine XT.pop X2.here hx rfl (hb hby d11_5) rfl rfl ?_
    show Steps p.tables e below (T2.setTop (mkF m 6 #[.val (.ref sb), .val (.int q)] [])) _
    refine XS.aloadN X2.here hx rfl (hb hby d11_6) rfl rfl ?_
    exact ktg)
  obtain ⟨fs, hr, hrun, hended, hW, hsame⟩ := X2.leave (v := some (.ref sb)) (fun h => by rw [Bd.returns] at h; cases h)
  refine ⟨_, _, pre7 _ ?_, hrun, hended, _, _, rfl, ?_, ⟨_, rfl⟩, hW, hsame.mono (by decide) (by decide)⟩
  · show Steps p.tables e below (T2.setTop (mkF m 7 #[.val (.ref sb), .val (.int q)] [(.ref sb)])) _
    jvm_step X2.here [X2.here.top, hx, (hb hby d11_7), X2.method', Bd.returns, Value.isRef, FieldType.isReference]
    first | (intro acts; rw [hr _ acts rfl rfl rfl]) | rw [hr _ _ rfl rfl rfl]
    exact Steps.refl _
  · show Q11 Z sb q va kv n cs h0 n0 _ T2.heap _
    exact ⟨rfl, N3, K6, b0⟩
theorem d9_0 : decode prog_44_method_2_code 0 = .ok (.aload_n 0, 1) := by decide +kernel
theorem d9_1 : decode prog_44_method_2_code 1 = .ok (.getfield 20, 3) := by decide +kernel
theorem d9_4 : decode prog_44_method_2_code 4 = .ok (.ifCond .eq 20, 3) := by decide +kernel
theorem d9_24 : decode prog_44_method_2_code 24 = .ok (.iload_n 1, 1) := by decide +kernel
theorem d9_25 : decode prog_44_method_2_code 25 = .ok (.bipush 10, 2) := by decide +kernel
theorem d9_27 : decode prog_44_method_2_code 27 = .ok (.if_icmp .ne 8, 3) := by decide +kernel
theorem d9_30 : decode prog_44_method_2_code 30 = .ok (.iconst 1, 1) := by decide +kernel
theorem d9_31 : decode prog_44_method_2_code 31 = .ok (.istore_n 2, 1) := by decide +kernel
theorem d9_32 : decode prog_44_method_2_code 32 = .ok (.goto 85, 3) := by decide +kernel
theorem d9_117 : decode prog_44_method_2_code 117 = .ok (.iload_n 2, 1) := by decide +kernel
theorem d9_118 : decode prog_44_method_2_code 118 = .ok (.ireturn, 1) := by decide +kernel
theorem d9_7 : decode prog_44_method_2_code 7 = .ok (.iload_n 1, 1) := by decide +kernel
theorem d9_8 : decode prog_44_method_2_code 8 = .ok (.bipush 10, 2) := by decide +kernel
theorem d9_10 : decode prog_44_method_2_code 10 = .ok (.if_icmp .eq 14, 3) := by decide +kernel
theorem ef_Tn (m : MethodId) (x0 : Addr) (x1 : Int32) : entryFrame m #[(.ref x0), (.int x1)] 3 = mkF m 0 #[.val (.ref x0), .val (.int x1), .unset] [] := by first | (simp [entryFrame, mkF, argsToLocals, Value.category]; done) | rfl
def QTn (Z : State) (ml : Addr) (sb va : Addr) (kv : ClassId) (a n mo cs : Int32) (h0 : Heap) (n0 : Nat) (v : Option Value) (h : Heap) (L : List Loc) : Prop := v = some (.int 1) ∧ Fr n0 L ∧ h = h0
set_option maxRecDepth 65536 in
set_option maxHeartbeats 40000000 in
theorem rmTn (l : Launch) (Z : State) (a0 : Array Value) (hw : ∀ d ∈ tables_1, d.before a0 Z = true) (ws : List Jvm.Cond) (ml : Addr) (sb va : Addr) (kv : ClassId) (a n mo cs : Int32) (h0 : Heap) (n0 : Nat) (Z0 : n0 ≤ h0.size) (M : MLs Z h0 ml sb va kv a n mo cs) :
    MetFree l (⟨"com/example/subjectline/subjectline/server/MessageLine", "take", "(I)Z"⟩ : MethodName) (head1 (Jvm.Cond.code (⟨"com/example/subjectline/subjectline/server/MessageLine", "take", "(I)Z"⟩ : MethodName) prog_44_method_2_code 3 (some .boolean) :: ws) ({ frames := 0, cells := 0, slots := 0, locals := 0 } : Room)) (fun aA U => aA = #[(.ref ml), (.int (10 : Int32))] ∧ Z.Warmed39 U.vm ∧ U.heap = h0) (fun _ _ _ _ _ => True) (fun _ U oO U' => ∃ vV LL, oO = .returned vV ∧ QTn Z ml sb va kv a n mo cs h0 n0 vV U'.heap LL ∧ FrameEnd U oO U' LL ({ frames := 0, cells := 0, slots := 0, locals := 0 } : Room).cells ({ frames := 0, cells := 0, slots := 0, locals := 0 } : Room).slots) := by
  refine MetFree.of_bodySF (plainFor_of_name pn_2) hisR ?_
  intro p e s m args below meth c s₁ Bd hml0 hP hK
  obtain ⟨rfl, hZ, hh⟩ := hP
  have hx := Bd.exec
  have hby := Bd.bytes
  have hml : c.maxLocals = 3 := hml0
  have hown : s.vm.findClass "com/example/subjectline/subjectline/server/MessageLine" = some m.cls := findClass_of_methodNamed Bd.named
  have hnm := (name_of_methodNamed Bd.named Bd.method).1
  have X0 : Stand p l e ({ frames := 0, cells := 0, slots := 0, locals := 0 } : Room) s m #[(.ref ml), (.int (10 : Int32))] below meth c s₁ [] 0 0 := Stand.of_body Bd
  have e0 : s₁.heap = h0 := by rw [← hh, Bd.state]; rfl
  have N0 := Fr.nil n0
  have K0 : Keep h0 h0 [] := Keep.refl _ _
  have pre0 : Rch p.tables e below (s₁.setTop (entryFrame m #[(.ref ml), (.int (10 : Int32))] 3)) (s₁.setTop (mkF m 0 #[.val (.ref ml), .val (.int (10 : Int32)), .unset] [])) := fun tgt ktg => castTop (ef_Tn m ml (10 : Int32)) ktg
  obtain ⟨l1, l2, l3, l4, l5, nms, nmv, nsv⟩ := M
  have pre1 : Rch p.tables e below (s₁.setTop (entryFrame m #[(.ref ml), (.int (10 : Int32))] 3)) (s₁.setTop (mkF m 1 #[.val (.ref ml), .val (.int (10 : Int32)), .unset] [(.ref ml)])) := fun tgt ktg => pre0 tgt (by
    show Steps p.tables e below (s₁.setTop (mkF m 0 #[.val (.ref ml), .val (.int (10 : Int32)), .unset] [])) _
    refine XS.aloadN X0.here hx rfl (hb hby d9_0) rfl rfl ?_
    exact ktg)
  obtain ⟨T2, X2, e2, st2⟩ := getF X0 hx hZ hown (host := "") (Or.inl (hw _ (List.mem_of_getElem? (i := 38) rfl))) Via.refl e0 l4 (g := (mkF m 1 #[.val (.ref ml), .val (.int (10 : Int32)), .unset] [(.ref ml)])) rfl rfl (hb hby d9_1)
  have pre2 : Rch p.tables e below (s₁.setTop (entryFrame m #[(.ref ml), (.int (10 : Int32))] 3)) (T2.setTop (mkF m 4 #[.val (.ref ml), .val (.int (10 : Int32)), .unset] [(.int a)])) := fun tgt ktg => pre1 tgt (st2 tgt ktg)
  by_cases c3 : a = (0 : Int32)
  · skip
    have pre4 : Rch p.tables e below (s₁.setTop (entryFrame m #[(.ref ml), (.int (10 : Int32))] 3)) (T2.setTop (mkF m 24 #[.val (.ref ml), .val (.int (10 : Int32)), .unset] [])) := fun tgt ktg => pre2 tgt (by
      show Steps p.tables e below (T2.setTop (mkF m 4 #[.val (.ref ml), .val (.int (10 : Int32)), .unset] [(.int a)])) _
      refine XS.ifYes X2.here hx rfl (pc0 := 4) (pc' := 24) rfl (hb hby d9_4) rfl ((if0 _ _).trans (teq c3).1) (by decide) (by decide) ?_
      exact ktg)
    have pre5 : Rch p.tables e below (s₁.setTop (entryFrame m #[(.ref ml), (.int (10 : Int32))] 3)) (T2.setTop (mkF m 118 #[.val (.ref ml), .val (.int (10 : Int32)), .val (.int (1 : Int32))] [(.int (1 : Int32))])) := fun tgt ktg => pre4 tgt (by
      show Steps p.tables e below (T2.setTop (mkF m 24 #[.val (.ref ml), .val (.int (10 : Int32)), .unset] [])) _
      refine XS.iloadN X2.here hx rfl (hb hby d9_24) rfl ?_
      show Steps p.tables e below (T2.setTop (mkF m 25 #[.val (.ref ml), .val (.int (10 : Int32)), .unset] [(.int (10 : Int32))])) _
      refine XS.bipush X2.here hx rfl (hb hby d9_25) ?_
      show Steps p.tables e below (T2.setTop (mkF m 27 #[.val (.ref ml), .val (.int (10 : Int32)), .unset] [(.int (10 : Int32)), (.int (10 : Int32))])) _
      refine XS.icmpNo X2.here hx rfl (hb hby d9_27) rfl (teq (rfl : (10 : Int32) = (10 : Int32))).2 ?_
      show Steps p.tables e below (T2.setTop (mkF m 30 #[.val (.ref ml), .val (.int (10 : Int32)), .unset] [])) _
      refine XS.iconst X2.here hx rfl (hb hby d9_30) ?_
      show Steps p.tables e below (T2.setTop (mkF m 31 #[.val (.ref ml), .val (.int (10 : Int32)), .unset] [(.int (1 : Int32))])) _
      refine XS.istoreN X2.here hx rfl (hb hby d9_31) rfl (l' := #[.val (.ref ml), .val (.int (10 : Int32)), .val (.int (1 : Int32))]) rfl ?_
      show Steps p.tables e below (T2.setTop (mkF m 32 #[.val (.ref ml), .val (.int (10 : Int32)), .val (.int (1 : Int32))] [])) _
      refine XS.goto X2.here hx rfl (pc0 := 32) (pc' := 117) rfl (hb hby d9_32) (by decide) (by decide) ?_
      show Steps p.tables e below (T2.setTop (mkF m 117 #[.val (.ref ml), .val (.int (10 : Int32)), .val (.int (1 : Int32))] [])) _
      refine XS.iloadN X2.here hx rfl (hb hby d9_117) rfl ?_
      exact ktg)
    obtain ⟨fs, hr, hrun, hended, hW, hsame⟩ := X2.leave (v := some (.int (1 : Int32))) (fun h => by rw [Bd.returns] at h; cases h)
    refine ⟨_, _, pre5 _ ?_, hrun, hended, _, _, rfl, ?_, ⟨_, rfl⟩, hW, hsame.mono (by decide) (by decide)⟩
    · show Steps p.tables e below (T2.setTop (mkF m 118 #[.val (.ref ml), .val (.int (10 : Int32)), .val (.int (1 : Int32))] [(.int (1 : Int32))])) _
      exact retN X2 hx (t := .boolean) Bd.returns (by simp) (hb hby d9_118) hr
    · show QTn Z ml sb va kv a n mo cs h0 n0 _ T2.heap _
      rw [e2]
      exact ⟨rfl, N0, rfl⟩
  · skip
    have pre6 : Rch p.tables e below (s₁.setTop (entryFrame m #[(.ref ml), (.int (10 : Int32))] 3)) (T2.setTop (mkF m 7 #[.val (.ref ml), .val (.int (10 : Int32)), .unset] [])) := fun tgt ktg => pre2 tgt (by
      show Steps p.tables e below (T2.setTop (mkF m 4 #[.val (.ref ml), .val (.int (10 : Int32)), .unset] [(.int a)])) _
      refine XS.ifNo X2.here hx rfl (hb hby d9_4) rfl ((if0 _ _).trans (feq c3).1) ?_
      exact ktg)
    have pre7 : Rch p.tables e below (s₁.setTop (entryFrame m #[(.ref ml), (.int (10 : Int32))] 3)) (T2.setTop (mkF m 118 #[.val (.ref ml), .val (.int (10 : Int32)), .val (.int (1 : Int32))] [(.int (1 : Int32))])) := fun tgt ktg => pre6 tgt (by
      show Steps p.tables e below (T2.setTop (mkF m 7 #[.val (.ref ml), .val (.int (10 : Int32)), .unset] [])) _
      refine XS.iloadN X2.here hx rfl (hb hby d9_7) rfl ?_
      show Steps p.tables e below (T2.setTop (mkF m 8 #[.val (.ref ml), .val (.int (10 : Int32)), .unset] [(.int (10 : Int32))])) _
      refine XS.bipush X2.here hx rfl (hb hby d9_8) ?_
      show Steps p.tables e below (T2.setTop (mkF m 10 #[.val (.ref ml), .val (.int (10 : Int32)), .unset] [(.int (10 : Int32)), (.int (10 : Int32))])) _
      refine XS.icmpYes X2.here hx rfl (pc0 := 10) (pc' := 24) rfl (hb hby d9_10) rfl (teq (rfl : (10 : Int32) = (10 : Int32))).1 (by decide) (by decide) ?_
      show Steps p.tables e below (T2.setTop (mkF m 24 #[.val (.ref ml), .val (.int (10 : Int32)), .unset] [])) _
      refine XS.iloadN X2.here hx rfl (hb hby d9_24) rfl ?_
      show Steps p.tables e below (T2.setTop (mkF m 25 #[.val (.ref ml), .val (.int (10 : Int32)), .unset] [(.int (10 : Int32))])) _
      refine XS.bipush X2.here hx rfl (hb hby d9_25) ?_
      show Steps p.tables e below (T2.setTop (mkF m 27 #[.val (.ref ml), .val (.int (10 : Int32)), .unset] [(.int (10 : Int32)), (.int (10 : Int32))])) _
      refine XS.icmpNo X2.here hx rfl (hb hby d9_27) rfl (teq (rfl : (10 : Int32) = (10 : Int32))).2 ?_
      show Steps p.tables e below (T2.setTop (mkF m 30 #[.val (.ref ml), .val (.int (10 : Int32)), .unset] [])) _
      refine XS.iconst X2.here hx rfl (hb hby d9_30) ?_
      show Steps p.tables e below (T2.setTop (mkF m 31 #[.val (.ref ml), .val (.int (10 : Int32)), .unset] [(.int (1 : Int32))])) _
      refine XS.istoreN X2.here hx rfl (hb hby d9_31) rfl (l' := #[.val (.ref ml), .val (.int (10 : Int32)), .val (.int (1 : Int32))]) rfl ?_
      show Steps p.tables e below (T2.setTop (mkF m 32 #[.val (.ref ml), .val (.int (10 : Int32)), .val (.int (1 : Int32))] [])) _
      refine XS.goto X2.here hx rfl (pc0 := 32) (pc' := 117) rfl (hb hby d9_32) (by decide) (by decide) ?_
      show Steps p.tables e below (T2.setTop (mkF m 117 #[.val (.ref ml), .val (.int (10 : Int32)), .val (.int (1 : Int32))] [])) _
      refine XS.iloadN X2.here hx rfl (hb hby d9_117) rfl ?_
      exact ktg)
    obtain ⟨fs, hr, hrun, hended, hW, hsame⟩ := X2.leave (v := some (.int (1 : Int32))) (fun h => by rw [Bd.returns] at h; cases h)
    refine ⟨_, _, pre7 _ ?_, hrun, hended, _, _, rfl, ?_, ⟨_, rfl⟩, hW, hsame.mono (by decide) (by decide)⟩
    · show Steps p.tables e below (T2.setTop (mkF m 118 #[.val (.ref ml), .val (.int (10 : Int32)), .val (.int (1 : Int32))] [(.int (1 : Int32))])) _
      exact retN X2 hx (t := .boolean) Bd.returns (by simp) (hb hby d9_118) hr
    · show QTn Z ml sb va kv a n mo cs h0 n0 _ T2.heap _
      rw [e2]
      exact ⟨rfl, N0, rfl⟩
theorem d9_35 : decode prog_44_method_2_code 35 = .ok (.iload_n 1, 1) := by decide +kernel
theorem d9_36 : decode prog_44_method_2_code 36 = .ok (.bipush 13, 2) := by decide +kernel
theorem d9_38 : decode prog_44_method_2_code 38 = .ok (.if_icmp .ne 13, 3) := by decide +kernel
theorem d9_41 : decode prog_44_method_2_code 41 = .ok (.aload_n 0, 1) := by decide +kernel
theorem d9_42 : decode prog_44_method_2_code 42 = .ok (.iconst 1, 1) := by decide +kernel
theorem d9_43 : decode prog_44_method_2_code 43 = .ok (.putfield 20, 3) := by decide +kernel
theorem d9_46 : decode prog_44_method_2_code 46 = .ok (.iconst 0, 1) := by decide +kernel
theorem d9_47 : decode prog_44_method_2_code 47 = .ok (.istore_n 2, 1) := by decide +kernel
theorem d9_48 : decode prog_44_method_2_code 48 = .ok (.goto 69, 3) := by decide +kernel
theorem ef_Tr (m : MethodId) (x0 : Addr) (x1 : Int32) : entryFrame m #[(.ref x0), (.int x1)] 3 = mkF m 0 #[.val (.ref x0), .val (.int x1), .unset] [] := by first | (simp [entryFrame, mkF, argsToLocals, Value.category]; done) | rfl
def QTr (Z : State) (ml : Addr) (sb va : Addr) (kv : ClassId) (n mo cs : Int32) (h0 : Heap) (n0 : Nat) (v : Option Value) (h : Heap) (L : List Loc) : Prop := v = some (.int 0) ∧ Fr n0 L ∧ Keep h0 h [ml] ∧ MLs Z h ml sb va kv 1 n mo cs
set_option maxRecDepth 65536 in
set_option maxHeartbeats 40000000 in
theorem rmTr (l : Launch) (Z : State) (a0 : Array Value) (hw : ∀ d ∈ tables_1, d.before a0 Z = true) (ws : List Jvm.Cond) (ml : Addr) (sb va : Addr) (kv : ClassId) (n mo cs : Int32) (h0 : Heap) (n0 : Nat) (Z0 : n0 ≤ h0.size) (M : MLs Z h0 ml sb va kv 0 n mo cs) (gm : n0 ≤ ml) (gs : n0 ≤ sb) (gv : n0 ≤ va)  :
    MetFree l (⟨"com/example/subjectline/subjectline/server/MessageLine", "take", "(I)Z"⟩ : MethodName) (head1 (Jvm.Cond.code (⟨"com/example/subjectline/subjectline/server/MessageLine", "take", "(I)Z"⟩ : MethodName) prog_44_method_2_code 3 (some .boolean) :: ws) ({ frames := 0, cells := 0, slots := 0, locals := 0 } : Room)) (fun aA U => aA = #[(.ref ml), (.int (13 : Int32))] ∧ Z.Warmed39 U.vm ∧ U.heap = h0) (fun _ _ _ _ _ => True) (fun _ U oO U' => ∃ vV LL, oO = .returned vV ∧ QTr Z ml sb va kv n mo cs h0 n0 vV U'.heap LL ∧ FrameEnd U oO U' LL ({ frames := 0, cells := 0, slots := 0, locals := 0 } : Room).cells ({ frames := 0, cells := 0, slots := 0, locals := 0 } : Room).slots) := by
  refine MetFree.of_bodySF (plainFor_of_name pn_2) hisR ?_
  intro p e s m args below meth c s₁ Bd hml0 hP hK
  obtain ⟨rfl, hZ, hh⟩ := hP
  have hx := Bd.exec
  have hby := Bd.bytes
  have hml : c.maxLocals = 3 := hml0
  have hown : s.vm.findClass "com/example/subjectline/subjectline/server/MessageLine" = some m.cls := findClass_of_methodNamed Bd.named
  have hnm := (name_of_methodNamed Bd.named Bd.method).1
  have X0 : Stand p l e ({ frames := 0, cells := 0, slots := 0, locals := 0 } : Room) s m #[(.ref ml), (.int (13 : Int32))] below meth c s₁ [] 0 0 := Stand.of_body Bd
  have e0 : s₁.heap = h0 := by rw [← hh, Bd.state]; rfl
  have N0 := Fr.nil n0
  have K0 : Keep h0 h0 [ml] := Keep.refl _ _
  have pre0 : Rch p.tables e below (s₁.setTop (entryFrame m #[(.ref ml), (.int (13 : Int32))] 3)) (s₁.setTop (mkF m 0 #[.val (.ref ml), .val (.int (13 : Int32)), .unset] [])) := fun tgt ktg => castTop (ef_Tr m ml (13 : Int32)) ktg
  obtain ⟨l1, l2, l3, l4, l5, nms, nmv, nsv⟩ := M
  obtain ⟨b1, b2, b3, b4, ⟨vs, b5, hvs⟩, b6⟩ := l5
  have pre1 : Rch p.tables e below (s₁.setTop (entryFrame m #[(.ref ml), (.int (13 : Int32))] 3)) (s₁.setTop (mkF m 1 #[.val (.ref ml), .val (.int (13 : Int32)), .unset] [(.ref ml)])) := fun tgt ktg => pre0 tgt (by
    show Steps p.tables e below (s₁.setTop (mkF m 0 #[.val (.ref ml), .val (.int (13 : Int32)), .unset] [])) _
    refine XS.aloadN X0.here hx rfl (hb hby d9_0) rfl rfl ?_
    exact ktg)
  obtain ⟨T2, X2, e2, st2⟩ := getF X0 hx hZ hown (host := "") (Or.inl (hw _ (List.mem_of_getElem? (i := 38) rfl))) Via.refl e0 l4 (g := (mkF m 1 #[.val (.ref ml), .val (.int (13 : Int32)), .unset] [(.ref ml)])) rfl rfl (hb hby d9_1)
  have pre2 : Rch p.tables e below (s₁.setTop (entryFrame m #[(.ref ml), (.int (13 : Int32))] 3)) (T2.setTop (mkF m 4 #[.val (.ref ml), .val (.int (13 : Int32)), .unset] [(.int (0 : Int32))])) := fun tgt ktg => pre1 tgt (st2 tgt ktg)
  have pre3 : Rch p.tables e below (s₁.setTop (entryFrame m #[(.ref ml), (.int (13 : Int32))] 3)) (T2.setTop (mkF m 43 #[.val (.ref ml), .val (.int (13 : Int32)), .unset] [(.int (1 : Int32)), (.ref ml)])) := fun tgt ktg => pre2 tgt (by
    show Steps p.tables e below (T2.setTop (mkF m 4 #[.val (.ref ml), .val (.int (13 : Int32)), .unset] [(.int (0 : Int32))])) _
    refine XS.ifYes X2.here hx rfl (pc0 := 4) (pc' := 24) rfl (hb hby d9_4) rfl ((if0 _ _).trans (teq (rfl : (0 : Int32) = (0 : Int32))).1) (by decide) (by decide) ?_
    show Steps p.tables e below (T2.setTop (mkF m 24 #[.val (.ref ml), .val (.int (13 : Int32)), .unset] [])) _
    refine XS.iloadN X2.here hx rfl (hb hby d9_24) rfl ?_
    show Steps p.tables e below (T2.setTop (mkF m 25 #[.val (.ref ml), .val (.int (13 : Int32)), .unset] [(.int (13 : Int32))])) _
    refine XS.bipush X2.here hx rfl (hb hby d9_25) ?_
    show Steps p.tables e below (T2.setTop (mkF m 27 #[.val (.ref ml), .val (.int (13 : Int32)), .unset] [(.int (10 : Int32)), (.int (13 : Int32))])) _
    refine XS.icmpYes X2.here hx rfl (pc0 := 27) (pc' := 35) rfl (hb hby d9_27) rfl (feq (by decide : ¬ ((13 : Int32) = (10 : Int32)))).2 (by decide) (by decide) ?_
    show Steps p.tables e below (T2.setTop (mkF m 35 #[.val (.ref ml), .val (.int (13 : Int32)), .unset] [])) _
    refine XS.iloadN X2.here hx rfl (hb hby d9_35) rfl ?_
    show Steps p.tables e below (T2.setTop (mkF m 36 #[.val (.ref ml), .val (.int (13 : Int32)), .unset] [(.int (13 : Int32))])) _
    refine XS.bipush X2.here hx rfl (hb hby d9_36) ?_
    show Steps p.tables e below (T2.setTop (mkF m 38 #[.val (.ref ml), .val (.int (13 : Int32)), .unset] [(.int (13 : Int32)), (.int (13 : Int32))])) _
    refine XS.icmpNo X2.here hx rfl (hb hby d9_38) rfl (teq (rfl : (13 : Int32) = (13 : Int32))).2 ?_
    show Steps p.tables e below (T2.setTop (mkF m 41 #[.val (.ref ml), .val (.int (13 : Int32)), .unset] [])) _
    refine XS.aloadN X2.here hx rfl (hb hby d9_41) rfl rfl ?_
    show Steps p.tables e below (T2.setTop (mkF m 42 #[.val (.ref ml), .val (.int (13 : Int32)), .unset] [(.ref ml)])) _
    refine XS.iconst X2.here hx rfl (hb hby d9_42) ?_
    exact ktg)
  obtain ⟨T4, h4, X4, e4, W4, st4⟩ := putFN X2 hx hZ hown (hw _ (List.mem_of_getElem? (i := 38) rfl)) Via.refl e2 l4 l1 (Or.inl (hw _ (List.mem_of_getElem? (i := 39) rfl))) (hw _ (List.mem_of_getElem? (i := 1) rfl)) (ty := .boolean) (v' := (.int (1 : Int32))) (by decide) rfl (by decide) (g := (mkF m 43 #[.val (.ref ml), .val (.int (13 : Int32)), .unset] [(.int (1 : Int32)), (.ref ml)])) rfl rfl (hb hby d9_43)
  have pre4 : Rch p.tables e below (s₁.setTop (entryFrame m #[(.ref ml), (.int (13 : Int32))] 3)) (T4.setTop (mkF m 46 #[.val (.ref ml), .val (.int (13 : Int32)), .unset] [])) := fun tgt ktg => pre3 tgt (st4 tgt ktg)
  have f5 : Exa Z h4 ml "com/example/subjectline/subjectline/server/MessageLine" := l1.wr W4
  have f6 : Fld Z h4 ml "com/example/subjectline/subjectline/server/MessageLine" "text" "Ljava/lang/StringBuilder;" (.ref sb) := l2.other W4 (Or.inr (slot_ne (Or.inr (hw _ (List.mem_of_getElem? (i := 30) rfl))) (Or.inl (hw _ (List.mem_of_getElem? (i := 39) rfl))) (by decide) (t := (.object "java/lang/StringBuilder")) (t' := .boolean) (by decide) (by decide)))
  have f7 : Fld Z h4 ml "com/example/subjectline/subjectline/server/MessageLine" "most" "I" (.int mo) := l3.other W4 (Or.inr (slot_ne (Or.inr (hw _ (List.mem_of_getElem? (i := 32) rfl))) (Or.inl (hw _ (List.mem_of_getElem? (i := 39) rfl))) (by decide) (t := .int) (t' := .boolean) (by decide) (by decide)))
  have f8 : Exa Z h4 sb "java/lang/StringBuilder" := b1.wr W4
  have f9 : Fld Z h4 sb "java/lang/AbstractStringBuilder" "value" "[B" (.ref va) := b2.other W4 (Or.inl (Ne.symm nms))
  have f10 : Fld Z h4 sb "java/lang/AbstractStringBuilder" "coder" "B" (.int (0 : Int32)) := b3.other W4 (Or.inl (Ne.symm nms))
  have f11 : Fld Z h4 sb "java/lang/AbstractStringBuilder" "count" "I" (.int n) := b4.other W4 (Or.inl (Ne.symm nms))
  have f12 : Arv Z h4 va kv .byte (16 : Int32) vs (.int (0 : Int32)) := b5.other W4 (Ne.symm nmv)
  have f13 : Sta Z h4 "java/lang/String" "COMPACT_STRINGS" "Z" (.int cs) := b6.wr W4
  have z14 : n0 ≤ h4.size := Nat.le_trans Z0 (Keep.of_wr W4).1
  have K15 : Keep h0 h4 [ml] := K0.wr W4 (Or.inl (List.mem_of_getElem? (i := 0) rfl))
  have f16 : Fld Z h4 ml "com/example/subjectline/subjectline/server/MessageLine" "afterCr" "Z" (.int (1 : Int32)) := l4.same W4
  have N17 := Fr.snoc X4 N0 gm
  have pre18 : Rch p.tables e below (s₁.setTop (entryFrame m #[(.ref ml), (.int (13 : Int32))] 3)) (T4.setTop (mkF m 118 #[.val (.ref ml), .val (.int (13 : Int32)), .val (.int (0 : Int32))] [(.int (0 : Int32))])) := fun tgt ktg => pre4 tgt (by
    show Steps p.tables e below (T4.setTop (mkF m 46 #[.val (.ref ml), .val (.int (13 : Int32)), .unset] [])) _
    refine XS.iconst X4.here hx rfl (hb hby d9_46) ?_
    show Steps p.tables e below (T4.setTop (mkF m 47 #[.val (.ref ml), .val (.int (13 : Int32)), .unset] [(.int (0 : Int32))])) _
    refine XS.istoreN X4.here hx rfl (hb hby d9_47) rfl (l' := #[.val (.ref ml), .val (.int (13 : Int32)), .val (.int (0 : Int32))]) rfl ?_
    show Steps p.tables e below (T4.setTop (mkF m 48 #[.val (.ref ml), .val (.int (13 : Int32)), .val (.int (0 : Int32))] [])) _
    refine XS.goto X4.here hx rfl (pc0 := 48) (pc' := 117) rfl (hb hby d9_48) (by decide) (by decide) ?_
    show Steps p.tables e below (T4.setTop (mkF m 117 #[.val (.ref ml), .val (.int (13 : Int32)), .val (.int (0 : Int32))] [])) _
    refine XS.iloadN X4.here hx rfl (hb hby d9_117) rfl ?_
    exact ktg)
  obtain ⟨fs, hr, hrun, hended, hW, hsame⟩ := X4.leave (v := some (.int (0 : Int32))) (fun h => by rw [Bd.returns] at h; cases h)
  refine ⟨_, _, pre18 _ ?_, hrun, hended, _, _, rfl, ?_, ⟨_, rfl⟩, hW, hsame.mono (by decide) (by decide)⟩
  · show Steps p.tables e below (T4.setTop (mkF m 118 #[.val (.ref ml), .val (.int (13 : Int32)), .val (.int (0 : Int32))] [(.int (0 : Int32))])) _
    exact retN X4 hx (t := .boolean) Bd.returns (by simp) (hb hby d9_118) hr
  · show QTr Z ml sb va kv n mo cs h0 n0 _ T4.heap _
    rw [e4]
    exact ⟨rfl, N17, K15, ⟨f5, f6, f7, f16, ⟨f8, f9, f10, f11, ⟨_, f12, hvs⟩, f13⟩, nms, nmv, nsv⟩⟩
theorem d9_51 : decode prog_44_method_2_code 51 = .ok (.iload_n 1, 1) := by decide +kernel
theorem d9_52 : decode prog_44_method_2_code 52 = .ok (.bipush 9, 2) := by decide +kernel
theorem d9_54 : decode prog_44_method_2_code 54 = .ok (.if_icmp .eq 26, 3) := by decide +kernel
theorem d9_80 : decode prog_44_method_2_code 80 = .ok (.aload_n 0, 1) := by decide +kernel
theorem d9_81 : decode prog_44_method_2_code 81 = .ok (.getfield 10, 3) := by decide +kernel
theorem d9_84 : decode prog_44_method_2_code 84 = .ok (.invokevirtual 35, 3) := by decide +kernel
theorem d9_87 : decode prog_44_method_2_code 87 = .ok (.aload_n 0, 1) := by decide +kernel
theorem d9_88 : decode prog_44_method_2_code 88 = .ok (.getfield 16, 3) := by decide +kernel
theorem d9_91 : decode prog_44_method_2_code 91 = .ok (.if_icmp .ne 14, 3) := by decide +kernel
theorem d9_105 : decode prog_44_method_2_code 105 = .ok (.aload_n 0, 1) := by decide +kernel
theorem d9_106 : decode prog_44_method_2_code 106 = .ok (.getfield 10, 3) := by decide +kernel
theorem d9_109 : decode prog_44_method_2_code 109 = .ok (.iload_n 1, 1) := by decide +kernel
theorem d9_110 : decode prog_44_method_2_code 110 = .ok (.i2c, 1) := by decide +kernel
theorem d9_111 : decode prog_44_method_2_code 111 = .ok (.invokevirtual 42, 3) := by decide +kernel
theorem pd_6 : parseMethodDescriptor "(C)Ljava/lang/StringBuilder;" = some ⟨[.char], some (.object "java/lang/StringBuilder")⟩ := by decide +kernel
theorem d9_114 : decode prog_44_method_2_code 114 = .ok (.pop, 1) := by decide +kernel
theorem d9_115 : decode prog_44_method_2_code 115 = .ok (.iconst 0, 1) := by decide +kernel
theorem d9_116 : decode prog_44_method_2_code 116 = .ok (.istore_n 2, 1) := by decide +kernel
theorem d9_57 : decode prog_44_method_2_code 57 = .ok (.iload_n 1, 1) := by decide +kernel
theorem d9_58 : decode prog_44_method_2_code 58 = .ok (.bipush 32, 2) := by decide +kernel
theorem d9_60 : decode prog_44_method_2_code 60 = .ok (.if_icmp .lt 9, 3) := by decide +kernel
theorem d9_63 : decode prog_44_method_2_code 63 = .ok (.iload_n 1, 1) := by decide +kernel
theorem d9_64 : decode prog_44_method_2_code 64 = .ok (.bipush 127, 2) := by decide +kernel
theorem d9_66 : decode prog_44_method_2_code 66 = .ok (.if_icmp .ne 14, 3) := by decide +kernel
theorem ef_Tc (m : MethodId) (x0 : Addr) (x1 : Int32) : entryFrame m #[(.ref x0), (.int x1)] 3 = mkF m 0 #[.val (.ref x0), .val (.int x1), .unset] [] := by first | (simp [entryFrame, mkF, argsToLocals, Value.category]; done) | rfl
def QTc (Z : State) (ml : Addr) (q : Int32) (sb va : Addr) (kv : ClassId) (n mo cs : Int32) (h0 : Heap) (n0 : Nat) (v : Option Value) (h : Heap) (L : List Loc) : Prop := v = some (.int 0) ∧ Fr n0 L ∧ Keep h0 h [ml, sb, va] ∧ MLs Z h ml sb va kv 0 (n + 1) mo cs
set_option maxRecDepth 65536 in
set_option maxHeartbeats 40000000 in
theorem rmTc (l : Launch) (Z : State) (a0 : Array Value) (hw : ∀ d ∈ tables_1, d.before a0 Z = true) (ws : List Jvm.Cond) (ml : Addr) (q : Int32) (sb va : Addr) (kv : ClassId) (n mo cs : Int32) (h0 : Heap) (n0 : Nat) (Z0 : n0 ≤ h0.size) (M : MLs Z h0 ml sb va kv 0 n mo cs) (gm : n0 ≤ ml) (gs : n0 ≤ sb) (gv : n0 ≤ va) (hv : vld q = 1) (hq0 : ¬ q < 0) (hq : ¬ (255 : Int32) < q) (hn : ¬ n < 0 ∧ n < 15) (hm : ¬ n = mo) (hcs : ¬ cs = 0) :
    MetFree l (⟨"com/example/subjectline/subjectline/server/MessageLine", "take", "(I)Z"⟩ : MethodName) (head1 (Jvm.Cond.code (⟨"com/example/subjectline/subjectline/server/MessageLine", "take", "(I)Z"⟩ : MethodName) prog_44_method_2_code 3 (some .boolean) :: ws) ({ frames := 3, cells := 0, slots := 0, locals := 46 } : Room)) (fun aA U => aA = #[(.ref ml), (.int q)] ∧ Z.Warmed39 U.vm ∧ U.heap = h0) (fun _ _ _ _ _ => True) (fun _ U oO U' => ∃ vV LL, oO = .returned vV ∧ QTc Z ml q sb va kv n mo cs h0 n0 vV U'.heap LL ∧ FrameEnd U oO U' LL ({ frames := 3, cells := 0, slots := 0, locals := 46 } : Room).cells ({ frames := 3, cells := 0, slots := 0, locals := 46 } : Room).slots) := by
  refine MetFree.of_bodySF (plainFor_of_name pn_2) hisR ?_
  intro p e s m args below meth c s₁ Bd hml0 hP hK
  obtain ⟨rfl, hZ, hh⟩ := hP
  have hx := Bd.exec
  have hby := Bd.bytes
  have hml : c.maxLocals = 3 := hml0
  have hown : s.vm.findClass "com/example/subjectline/subjectline/server/MessageLine" = some m.cls := findClass_of_methodNamed Bd.named
  have hnm := (name_of_methodNamed Bd.named Bd.method).1
  have X0 : Stand p l e ({ frames := 3, cells := 0, slots := 0, locals := 46 } : Room) s m #[(.ref ml), (.int q)] below meth c s₁ [] 0 0 := Stand.of_body Bd
  have e0 : s₁.heap = h0 := by rw [← hh, Bd.state]; rfl
  have N0 := Fr.nil n0
  have K0 : Keep h0 h0 [ml, sb, va] := Keep.refl _ _
  have pre0 : Rch p.tables e below (s₁.setTop (entryFrame m #[(.ref ml), (.int q)] 3)) (s₁.setTop (mkF m 0 #[.val (.ref ml), .val (.int q), .unset] [])) := fun tgt ktg => castTop (ef_Tc m ml q) ktg
  obtain ⟨l1, l2, l3, l4, l5, nms, nmv, nsv⟩ := M
  have pre1 : Rch p.tables e below (s₁.setTop (entryFrame m #[(.ref ml), (.int q)] 3)) (s₁.setTop (mkF m 1 #[.val (.ref ml), .val (.int q), .unset] [(.ref ml)])) := fun tgt ktg => pre0 tgt (by
    show Steps p.tables e below (s₁.setTop (mkF m 0 #[.val (.ref ml), .val (.int q), .unset] [])) _
    refine XS.aloadN X0.here hx rfl (hb hby d9_0) rfl rfl ?_
    exact ktg)
  obtain ⟨T2, X2, e2, st2⟩ := getF X0 hx hZ hown (host := "") (Or.inl (hw _ (List.mem_of_getElem? (i := 38) rfl))) Via.refl e0 l4 (g := (mkF m 1 #[.val (.ref ml), .val (.int q), .unset] [(.ref ml)])) rfl rfl (hb hby d9_1)
  have pre2 : Rch p.tables e below (s₁.setTop (entryFrame m #[(.ref ml), (.int q)] 3)) (T2.setTop (mkF m 4 #[.val (.ref ml), .val (.int q), .unset] [(.int (0 : Int32))])) := fun tgt ktg => pre1 tgt (st2 tgt ktg)
  have pre3 : Rch p.tables e below (s₁.setTop (entryFrame m #[(.ref ml), (.int q)] 3)) (T2.setTop (mkF m 54 #[.val (.ref ml), .val (.int q), .unset] [(.int (9 : Int32)), (.int q)])) := fun tgt ktg => pre2 tgt (by
    show Steps p.tables e below (T2.setTop (mkF m 4 #[.val (.ref ml), .val (.int q), .unset] [(.int (0 : Int32))])) _
    refine XS.ifYes X2.here hx rfl (pc0 := 4) (pc' := 24) rfl (hb hby d9_4) rfl ((if0 _ _).trans (teq (rfl : (0 : Int32) = (0 : Int32))).1) (by decide) (by decide) ?_
    show Steps p.tables e below (T2.setTop (mkF m 24 #[.val (.ref ml), .val (.int q), .unset] [])) _
    refine XS.iloadN X2.here hx rfl (hb hby d9_24) rfl ?_
    show Steps p.tables e below (T2.setTop (mkF m 25 #[.val (.ref ml), .val (.int q), .unset] [(.int q)])) _
    refine XS.bipush X2.here hx rfl (hb hby d9_25) ?_
    show Steps p.tables e below (T2.setTop (mkF m 27 #[.val (.ref ml), .val (.int q), .unset] [(.int (10 : Int32)), (.int q)])) _
    refine XS.icmpYes X2.here hx rfl (pc0 := 27) (pc' := 35) rfl (hb hby d9_27) rfl (feq (own_v10 hv)).2 (by decide) (by decide) ?_
    show Steps p.tables e below (T2.setTop (mkF m 35 #[.val (.ref ml), .val (.int q), .unset] [])) _
    refine XS.iloadN X2.here hx rfl (hb hby d9_35) rfl ?_
    show Steps p.tables e below (T2.setTop (mkF m 36 #[.val (.ref ml), .val (.int q), .unset] [(.int q)])) _
    refine XS.bipush X2.here hx rfl (hb hby d9_36) ?_
    show Steps p.tables e below (T2.setTop (mkF m 38 #[.val (.ref ml), .val (.int q), .unset] [(.int (13 : Int32)), (.int q)])) _
    refine XS.icmpYes X2.here hx rfl (pc0 := 38) (pc' := 51) rfl (hb hby d9_38) rfl (feq (own_v13 hv)).2 (by decide) (by decide) ?_
    show Steps p.tables e below (T2.setTop (mkF m 51 #[.val (.ref ml), .val (.int q), .unset] [])) _
    refine XS.iloadN X2.here hx rfl (hb hby d9_51) rfl ?_
    show Steps p.tables e below (T2.setTop (mkF m 52 #[.val (.ref ml), .val (.int q), .unset] [(.int q)])) _
    refine XS.bipush X2.here hx rfl (hb hby d9_52) ?_
    exact ktg)
  by_cases c4 : q = (9 : Int32)
  · skip
    have pre5 : Rch p.tables e below (s₁.setTop (entryFrame m #[(.ref ml), (.int q)] 3)) (T2.setTop (mkF m 80 #[.val (.ref ml), .val (.int q), .unset] [])) := fun tgt ktg => pre3 tgt (by
      show Steps p.tables e below (T2.setTop (mkF m 54 #[.val (.ref ml), .val (.int q), .unset] [(.int (9 : Int32)), (.int q)])) _
      refine XS.icmpYes X2.here hx rfl (pc0 := 54) (pc' := 80) rfl (hb hby d9_54) rfl (teq c4).1 (by decide) (by decide) ?_
      exact ktg)
    have pre6 : Rch p.tables e below (s₁.setTop (entryFrame m #[(.ref ml), (.int q)] 3)) (T2.setTop (mkF m 81 #[.val (.ref ml), .val (.int q), .unset] [(.ref ml)])) := fun tgt ktg => pre5 tgt (by
      show Steps p.tables e below (T2.setTop (mkF m 80 #[.val (.ref ml), .val (.int q), .unset] [])) _
      refine XS.aloadN X2.here hx rfl (hb hby d9_80) rfl rfl ?_
      exact ktg)
    obtain ⟨T7, X7, e7, st7⟩ := getF X2 hx hZ hown (host := "") (Or.inl (hw _ (List.mem_of_getElem? (i := 29) rfl))) Via.refl e2 l2 (g := (mkF m 81 #[.val (.ref ml), .val (.int q), .unset] [(.ref ml)])) rfl rfl (hb hby d9_81)
    have pre7 : Rch p.tables e below (s₁.setTop (entryFrame m #[(.ref ml), (.int q)] 3)) (T7.setTop (mkF m 84 #[.val (.ref ml), .val (.int q), .unset] [(.ref sb)])) := fun tgt ktg => pre6 tgt (st7 tgt ktg)
    obtain ⟨cq8, kq8, q8a, q8b, q8c⟩ := isOf hZ e7 l5.1
    obtain ⟨_, _, ⟨T8, L8, k8, n8⟩, -, X8, ⟨Lc8, hQ8, l8, y8, z8⟩, st8⟩ := X7.virtualBack hx (y := (⟨"java/lang/StringBuilder", "length", "()I"⟩ : MethodName)) (z := (⟨"java/lang/StringBuilder", "length", "()I"⟩ : MethodName)) hown (mvT hZ (hw _ (List.mem_of_getElem? (i := 40) rfl))) (mvT hZ (hw _ (List.mem_of_getElem? (i := 41) rfl))) (notFace_of_selects (args := #[]) (mvT hZ (hw _ (List.mem_of_getElem? (i := 43) rfl)))) (mvT hZ (hw _ (List.mem_of_getElem? (i := 43) rfl))) (mvT hZ (hw _ (List.mem_of_getElem? (i := 42) rfl))) (by decide) (backOf (W := 0) (rm6 l Z a0 hw [] sb n h0 n0 Z0 l5.1 l5.2.2.2.1) hZ (hw _ (List.mem_of_getElem? (i := 44) rfl)) (hw _ (List.mem_of_getElem? (i := 11) rfl)) (by decide) (by decide)) q8a q8c (g := (mkF m 84 #[.val (.ref ml), .val (.int q), .unset] [(.ref sb)])) rfl (by rw [hml]; rfl) (Steps.refl _) (argsL := []) (rest := []) (lenOf pd_2 rfl) rfl (by show 2 * 0 + _ ≤ _; exact Nat.le_of_eq rfl) (hb hby d9_84) (fun _ _ => ⟨rfl, e7, (by decide : 0 + 0 ≤ _), (by decide : 0 + 0 ≤ _)⟩)
    dsimp only [Pt.U, Pt.locs, Pt.cells, Pt.slots] at X8 l8 y8 z8 st8 hQ8
    subst l8 y8 z8
    obtain ⟨rfl, Nq8, eh8⟩ := hQ8
    have N9 := Fr.app N0 Nq8
    have pre8 : Rch p.tables e below (s₁.setTop (entryFrame m #[(.ref ml), (.int q)] 3)) (T8.setTop (mkF m 87 #[.val (.ref ml), .val (.int q), .unset] [(.int n)])) := fun tgt ktg => pre7 tgt (st8.trans ktg)
    have pre10 : Rch p.tables e below (s₁.setTop (entryFrame m #[(.ref ml), (.int q)] 3)) (T8.setTop (mkF m 88 #[.val (.ref ml), .val (.int q), .unset] [(.ref ml), (.int n)])) := fun tgt ktg => pre8 tgt (by
      show Steps p.tables e below (T8.setTop (mkF m 87 #[.val (.ref ml), .val (.int q), .unset] [(.int n)])) _
      refine XS.aloadN X8.here hx rfl (hb hby d9_87) rfl rfl ?_
      exact ktg)
    obtain ⟨T11, X11, e11, st11⟩ := getF X8 hx hZ hown (host := "") (Or.inl (hw _ (List.mem_of_getElem? (i := 31) rfl))) Via.refl eh8 l3 (g := (mkF m 88 #[.val (.ref ml), .val (.int q), .unset] [(.ref ml), (.int n)])) rfl rfl (hb hby d9_88)
    have pre11 : Rch p.tables e below (s₁.setTop (entryFrame m #[(.ref ml), (.int q)] 3)) (T11.setTop (mkF m 91 #[.val (.ref ml), .val (.int q), .unset] [(.int mo), (.int n)])) := fun tgt ktg => pre10 tgt (st11 tgt ktg)
    have pre12 : Rch p.tables e below (s₁.setTop (entryFrame m #[(.ref ml), (.int q)] 3)) (T11.setTop (mkF m 106 #[.val (.ref ml), .val (.int q), .unset] [(.ref ml)])) := fun tgt ktg => pre11 tgt (by
      show Steps p.tables e below (T11.setTop (mkF m 91 #[.val (.ref ml), .val (.int q), .unset] [(.int mo), (.int n)])) _
      refine XS.icmpYes X11.here hx rfl (pc0 := 91) (pc' := 105) rfl (hb hby d9_91) rfl (feq hm).2 (by decide) (by decide) ?_
      show Steps p.tables e below (T11.setTop (mkF m 105 #[.val (.ref ml), .val (.int q), .unset] [])) _
      refine XS.aloadN X11.here hx rfl (hb hby d9_105) rfl rfl ?_
      exact ktg)
    obtain ⟨T13, X13, e13, st13⟩ := getF X11 hx hZ hown (host := "") (Or.inl (hw _ (List.mem_of_getElem? (i := 29) rfl))) Via.refl e11 l2 (g := (mkF m 106 #[.val (.ref ml), .val (.int q), .unset] [(.ref ml)])) rfl rfl (hb hby d9_106)
    have pre13 : Rch p.tables e below (s₁.setTop (entryFrame m #[(.ref ml), (.int q)] 3)) (T13.setTop (mkF m 109 #[.val (.ref ml), .val (.int q), .unset] [(.ref sb)])) := fun tgt ktg => pre12 tgt (st13 tgt ktg)
    have pre14 : Rch p.tables e below (s₁.setTop (entryFrame m #[(.ref ml), (.int q)] 3)) (T13.setTop (mkF m 110 #[.val (.ref ml), .val (.int q), .unset] [(.int q), (.ref sb)])) := fun tgt ktg => pre13 tgt (by
      show Steps p.tables e below (T13.setTop (mkF m 109 #[.val (.ref ml), .val (.int q), .unset] [(.ref sb)])) _
      refine XS.iloadN X13.here hx rfl (hb hby d9_109) rfl ?_
      exact ktg)
    have pre15 : Rch p.tables e below (s₁.setTop (entryFrame m #[(.ref ml), (.int q)] 3)) (T13.setTop (mkF m 111 #[.val (.ref ml), .val (.int q), .unset] [(.int (q.toUInt32.toUInt16.toUInt32.toInt32)), (.ref sb)])) := fun tgt ktg => pre14 tgt (by
      show Steps p.tables e below (T13.setTop (mkF m 110 #[.val (.ref ml), .val (.int q), .unset] [(.int q), (.ref sb)])) _
      refine XT.i2c X13.here hx rfl (hb hby d9_110) rfl ?_
      exact ktg)
    have hic := own_i2c hq0 hq
    have pre16 : Rch p.tables e below (s₁.setTop (entryFrame m #[(.ref ml), (.int q)] 3)) (T13.setTop (mkF m 111 #[.val (.ref ml), .val (.int q), .unset] [(.int q), (.ref sb)])) := fun tgt ktg => pre15 tgt (by rw [hic]; exact ktg)
    obtain ⟨cq17, kq17, q17a, q17b, q17c⟩ := isOf hZ e13 l5.1
    obtain ⟨_, _, ⟨T17, L17, k17, n17⟩, -, X17, ⟨Lc17, hQ17, l17, y17, z17⟩, st17⟩ := X13.virtualBack hx (y := (⟨"java/lang/StringBuilder", "append", "(C)Ljava/lang/StringBuilder;"⟩ : MethodName)) (z := (⟨"java/lang/StringBuilder", "append", "(C)Ljava/lang/StringBuilder;"⟩ : MethodName)) hown (mvT hZ (hw _ (List.mem_of_getElem? (i := 64) rfl))) (mvT hZ (hw _ (List.mem_of_getElem? (i := 65) rfl))) (notFace_of_selects (args := #[]) (mvT hZ (hw _ (List.mem_of_getElem? (i := 67) rfl)))) (mvT hZ (hw _ (List.mem_of_getElem? (i := 67) rfl))) (mvT hZ (hw _ (List.mem_of_getElem? (i := 66) rfl))) (by decide) (backOf (W := 0) (rm11 l Z a0 hw [] sb q va kv n cs h0 n0 Z0 l5 nsv gs gv hq hn hcs) hZ (hw _ (List.mem_of_getElem? (i := 68) rfl)) (hw _ (List.mem_of_getElem? (i := 11) rfl)) (by decide) (by decide)) q17a q17c (g := (mkF m 111 #[.val (.ref ml), .val (.int q), .unset] [(.int q), (.ref sb)])) rfl (by rw [hml]; rfl) (Steps.refl _) (argsL := [(.int q)]) (rest := []) (lenOf pd_6 rfl) rfl (by show 2 * 0 + _ ≤ _; exact Nat.le_of_eq rfl) (hb hby d9_111) (fun _ _ => ⟨rfl, e13, (by decide : 0 + 0 ≤ _), (by decide : 0 + 0 ≤ _)⟩)
    dsimp only [Pt.U, Pt.locs, Pt.cells, Pt.slots] at X17 l17 y17 z17 st17 hQ17
    subst l17 y17 z17
    obtain ⟨rfl, Nq17, Kq17, b0⟩ := hQ17
    have N18 := Fr.app N9 Nq17
    have pre17 : Rch p.tables e below (s₁.setTop (entryFrame m #[(.ref ml), (.int q)] 3)) (T17.setTop (mkF m 114 #[.val (.ref ml), .val (.int q), .unset] [(.ref sb)])) := fun tgt ktg => pre16 tgt (st17.trans ktg)
    have f19 : Exa Z T17.heap ml "com/example/subjectline/subjectline/server/MessageLine" := l1.keep Kq17
    have f20 : Fld Z T17.heap ml "com/example/subjectline/subjectline/server/MessageLine" "text" "Ljava/lang/StringBuilder;" (.ref sb) := l2.keep Kq17 (ninS nms (ninS nmv nin0))
    have f21 : Fld Z T17.heap ml "com/example/subjectline/subjectline/server/MessageLine" "most" "I" (.int mo) := l3.keep Kq17 (ninS nms (ninS nmv nin0))
    have f22 : Fld Z T17.heap ml "com/example/subjectline/subjectline/server/MessageLine" "afterCr" "Z" (.int (0 : Int32)) := l4.keep Kq17 (ninS nms (ninS nmv nin0))
    have f23 : Exa Z T17.heap sb "java/lang/StringBuilder" := l5.1.keep Kq17
    have z24 : n0 ≤ T17.heap.size := Nat.le_trans Z0 Kq17.1
    have K25 : Keep h0 T17.heap [ml, sb, va] := K0.trans Kq17 (allS (P := fun x => x ∈ [ml, sb, va] ∨ h0.size ≤ x) (Or.inl (List.mem_of_getElem? (i := 1) rfl)) (allS (P := fun x => x ∈ [ml, sb, va] ∨ h0.size ≤ x) (Or.inl (List.mem_of_getElem? (i := 2) rfl)) (all0 (P := fun x => x ∈ [ml, sb, va] ∨ h0.size ≤ x))))
    have pre26 : Rch p.tables e below (s₁.setTop (entryFrame m #[(.ref ml), (.int q)] 3)) (T17.setTop (mkF m 118 #[.val (.ref ml), .val (.int q), .val (.int (0 : Int32))] [(.int (0 : Int32))])) := fun tgt ktg => pre17 tgt (by
      show Steps p.tables e below (T17.setTop (mkF m 114 #[.val (.ref ml), .val (.int q), .unset] [(.ref sb)])) _
      refine XT.pop X17.here hx rfl (hb hby d9_114) rfl rfl ?_
      show Steps p.tables e below (T17.setTop (mkF m 115 #[.val (.ref ml), .val (.int q), .unset] [])) _
      refine XS.iconst X17.here hx rfl (hb hby d9_115) ?_
      show Steps p.tables e below (T17.setTop (mkF m 116 #[.val (.ref ml), .val (.int q), .unset] [(.int (0 : Int32))])) _
      refine XS.istoreN X17.here hx rfl (hb hby d9_116) rfl (l' := #[.val (.ref ml), .val (.int q), .val (.int (0 : Int32))]) rfl ?_
      show Steps p.tables e below (T17.setTop (mkF m 117 #[.val (.ref ml), .val (.int q), .val (.int (0 : Int32))] [])) _
      refine XS.iloadN X17.here hx rfl (hb hby d9_117) rfl ?_
      exact ktg)
    obtain ⟨fs, hr, hrun, hended, hW, hsame⟩ := X17.leave (v := some (.int (0 : Int32))) (fun h => by rw [Bd.returns] at h; cases h)
    refine ⟨_, _, pre26 _ ?_, hrun, hended, _, _, rfl, ?_, ⟨_, rfl⟩, hW, hsame.mono (by decide) (by decide)⟩
    · show Steps p.tables e below (T17.setTop (mkF m 118 #[.val (.ref ml), .val (.int q), .val (.int (0 : Int32))] [(.int (0 : Int32))])) _
      exact retN X17 hx (t := .boolean) Bd.returns (by simp) (hb hby d9_118) hr
    · show QTc Z ml q sb va kv n mo cs h0 n0 _ T17.heap _
      exact ⟨rfl, N18, K25, ⟨f19, f20, f21, f22, b0, nms, nmv, nsv⟩⟩
  · skip
    have pre27 : Rch p.tables e below (s₁.setTop (entryFrame m #[(.ref ml), (.int q)] 3)) (T2.setTop (mkF m 57 #[.val (.ref ml), .val (.int q), .unset] [])) := fun tgt ktg => pre3 tgt (by
      show Steps p.tables e below (T2.setTop (mkF m 54 #[.val (.ref ml), .val (.int q), .unset] [(.int (9 : Int32)), (.int q)])) _
      refine XS.icmpNo X2.here hx rfl (hb hby d9_54) rfl (feq c4).1 ?_
      exact ktg)
    have pre28 : Rch p.tables e below (s₁.setTop (entryFrame m #[(.ref ml), (.int q)] 3)) (T2.setTop (mkF m 81 #[.val (.ref ml), .val (.int q), .unset] [(.ref ml)])) := fun tgt ktg => pre27 tgt (by
      show Steps p.tables e below (T2.setTop (mkF m 57 #[.val (.ref ml), .val (.int q), .unset] [])) _
      refine XS.iloadN X2.here hx rfl (hb hby d9_57) rfl ?_
      show Steps p.tables e below (T2.setTop (mkF m 58 #[.val (.ref ml), .val (.int q), .unset] [(.int q)])) _
      refine XS.bipush X2.here hx rfl (hb hby d9_58) ?_
      show Steps p.tables e below (T2.setTop (mkF m 60 #[.val (.ref ml), .val (.int q), .unset] [(.int (32 : Int32)), (.int q)])) _
      refine XS.icmpNo X2.here hx rfl (hb hby d9_60) rfl (flt (own_v32 hv c4)).1 ?_
      show Steps p.tables e below (T2.setTop (mkF m 63 #[.val (.ref ml), .val (.int q), .unset] [])) _
      refine XS.iloadN X2.here hx rfl (hb hby d9_63) rfl ?_
      show Steps p.tables e below (T2.setTop (mkF m 64 #[.val (.ref ml), .val (.int q), .unset] [(.int q)])) _
      refine XS.bipush X2.here hx rfl (hb hby d9_64) ?_
      show Steps p.tables e below (T2.setTop (mkF m 66 #[.val (.ref ml), .val (.int q), .unset] [(.int (127 : Int32)), (.int q)])) _
      refine XS.icmpYes X2.here hx rfl (pc0 := 66) (pc' := 80) rfl (hb hby d9_66) rfl (feq (own_v127 hv)).2 (by decide) (by decide) ?_
      show Steps p.tables e below (T2.setTop (mkF m 80 #[.val (.ref ml), .val (.int q), .unset] [])) _
      refine XS.aloadN X2.here hx rfl (hb hby d9_80) rfl rfl ?_
      exact ktg)
    obtain ⟨T29, X29, e29, st29⟩ := getF X2 hx hZ hown (host := "") (Or.inl (hw _ (List.mem_of_getElem? (i := 29) rfl))) Via.refl e2 l2 (g := (mkF m 81 #[.val (.ref ml), .val (.int q), .unset] [(.ref ml)])) rfl rfl (hb hby d9_81)
    have pre29 : Rch p.tables e below (s₁.setTop (entryFrame m #[(.ref ml), (.int q)] 3)) (T29.setTop (mkF m 84 #[.val (.ref ml), .val (.int q), .unset] [(.ref sb)])) := fun tgt ktg => pre28 tgt (st29 tgt ktg)
    obtain ⟨cq30, kq30, q30a, q30b, q30c⟩ := isOf hZ e29 l5.1
    obtain ⟨_, _, ⟨T30, L30, k30, n30⟩, -, X30, ⟨Lc30, hQ30, l30, y30, z30⟩, st30⟩ := X29.virtualBack hx (y := (⟨"java/lang/StringBuilder", "length", "()I"⟩ : MethodName)) (z := (⟨"java/lang/StringBuilder", "length", "()I"⟩ : MethodName)) hown (mvT hZ (hw _ (List.mem_of_getElem? (i := 40) rfl))) (mvT hZ (hw _ (List.mem_of_getElem? (i := 41) rfl))) (notFace_of_selects (args := #[]) (mvT hZ (hw _ (List.mem_of_getElem? (i := 43) rfl)))) (mvT hZ (hw _ (List.mem_of_getElem? (i := 43) rfl))) (mvT hZ (hw _ (List.mem_of_getElem? (i := 42) rfl))) (by decide) (backOf (W := 0) (rm6 l Z a0 hw [] sb n h0 n0 Z0 l5.1 l5.2.2.2.1) hZ (hw _ (List.mem_of_getElem? (i := 44) rfl)) (hw _ (List.mem_of_getElem? (i := 11) rfl)) (by decide) (by decide)) q30a q30c (g := (mkF m 84 #[.val (.ref ml), .val (.int q), .unset] [(.ref sb)])) rfl (by rw [hml]; rfl) (Steps.refl _) (argsL := []) (rest := []) (lenOf pd_2 rfl) rfl (by show 2 * 0 + _ ≤ _; exact Nat.le_of_eq rfl) (hb hby d9_84) (fun _ _ => ⟨rfl, e29, (by decide : 0 + 0 ≤ _), (by decide : 0 + 0 ≤ _)⟩)
    dsimp only [Pt.U, Pt.locs, Pt.cells, Pt.slots] at X30 l30 y30 z30 st30 hQ30
    subst l30 y30 z30
    obtain ⟨rfl, Nq30, eh30⟩ := hQ30
    have N31 := Fr.app N0 Nq30
    have pre30 : Rch p.tables e below (s₁.setTop (entryFrame m #[(.ref ml), (.int q)] 3)) (T30.setTop (mkF m 87 #[.val (.ref ml), .val (.int q), .unset] [(.int n)])) := fun tgt ktg => pre29 tgt (st30.trans ktg)
    have pre32 : Rch p.tables e below (s₁.setTop (entryFrame m #[(.ref ml), (.int q)] 3)) (T30.setTop (mkF m 88 #[.val (.ref ml), .val (.int q), .unset] [(.ref ml), (.int n)])) := fun tgt ktg => pre30 tgt (by
      show Steps p.tables e below (T30.setTop (mkF m 87 #[.val (.ref ml), .val (.int q), .unset] [(.int n)])) _
      refine XS.aloadN X30.here hx rfl (hb hby d9_87) rfl rfl ?_
      exact ktg)
    obtain ⟨T33, X33, e33, st33⟩ := getF X30 hx hZ hown (host := "") (Or.inl (hw _ (List.mem_of_getElem? (i := 31) rfl))) Via.refl eh30 l3 (g := (mkF m 88 #[.val (.ref ml), .val (.int q), .unset] [(.ref ml), (.int n)])) rfl rfl (hb hby d9_88)
    have pre33 : Rch p.tables e below (s₁.setTop (entryFrame m #[(.ref ml), (.int q)] 3)) (T33.setTop (mkF m 91 #[.val (.ref ml), .val (.int q), .unset] [(.int mo), (.int n)])) := fun tgt ktg => pre32 tgt (st33 tgt ktg)
    have pre34 : Rch p.tables e below (s₁.setTop (entryFrame m #[(.ref ml), (.int q)] 3)) (T33.setTop (mkF m 106 #[.val (.ref ml), .val (.int q), .unset] [(.ref ml)])) := fun tgt ktg => pre33 tgt (by
      show Steps p.tables e below (T33.setTop (mkF m 91 #[.val (.ref ml), .val (.int q), .unset] [(.int mo), (.int n)])) _
      refine XS.icmpYes X33.here hx rfl (pc0 := 91) (pc' := 105) rfl (hb hby d9_91) rfl (feq hm).2 (by decide) (by decide) ?_
      show Steps p.tables e below (T33.setTop (mkF m 105 #[.val (.ref ml), .val (.int q), .unset] [])) _
      refine XS.aloadN X33.here hx rfl (hb hby d9_105) rfl rfl ?_
      exact ktg)
    obtain ⟨T35, X35, e35, st35⟩ := getF X33 hx hZ hown (host := "") (Or.inl (hw _ (List.mem_of_getElem? (i := 29) rfl))) Via.refl e33 l2 (g := (mkF m 106 #[.val (.ref ml), .val (.int q), .unset] [(.ref ml)])) rfl rfl (hb hby d9_106)
    have pre35 : Rch p.tables e below (s₁.setTop (entryFrame m #[(.ref ml), (.int q)] 3)) (T35.setTop (mkF m 109 #[.val (.ref ml), .val (.int q), .unset] [(.ref sb)])) := fun tgt ktg => pre34 tgt (st35 tgt ktg)
    have pre36 : Rch p.tables e below (s₁.setTop (entryFrame m #[(.ref ml), (.int q)] 3)) (T35.setTop (mkF m 110 #[.val (.ref ml), .val (.int q), .unset] [(.int q), (.ref sb)])) := fun tgt ktg => pre35 tgt (by
      show Steps p.tables e below (T35.setTop (mkF m 109 #[.val (.ref ml), .val (.int q), .unset] [(.ref sb)])) _
      refine XS.iloadN X35.here hx rfl (hb hby d9_109) rfl ?_
      exact ktg)
    have pre37 : Rch p.tables e below (s₁.setTop (entryFrame m #[(.ref ml), (.int q)] 3)) (T35.setTop (mkF m 111 #[.val (.ref ml), .val (.int q), .unset] [(.int (q.toUInt32.toUInt16.toUInt32.toInt32)), (.ref sb)])) := fun tgt ktg => pre36 tgt (by
      show Steps p.tables e below (T35.setTop (mkF m 110 #[.val (.ref ml), .val (.int q), .unset] [(.int q), (.ref sb)])) _
      refine XT.i2c X35.here hx rfl (hb hby d9_110) rfl ?_
      exact ktg)
    have hic := own_i2c hq0 hq
    have pre38 : Rch p.tables e below (s₁.setTop (entryFrame m #[(.ref ml), (.int q)] 3)) (T35.setTop (mkF m 111 #[.val (.ref ml), .val (.int q), .unset] [(.int q), (.ref sb)])) := fun tgt ktg => pre37 tgt (by rw [hic]; exact ktg)
    obtain ⟨cq39, kq39, q39a, q39b, q39c⟩ := isOf hZ e35 l5.1
    obtain ⟨_, _, ⟨T39, L39, k39, n39⟩, -, X39, ⟨Lc39, hQ39, l39, y39, z39⟩, st39⟩ := X35.virtualBack hx (y := (⟨"java/lang/StringBuilder", "append", "(C)Ljava/lang/StringBuilder;"⟩ : MethodName)) (z := (⟨"java/lang/StringBuilder", "append", "(C)Ljava/lang/StringBuilder;"⟩ : MethodName)) hown (mvT hZ (hw _ (List.mem_of_getElem? (i := 64) rfl))) (mvT hZ (hw _ (List.mem_of_getElem? (i := 65) rfl))) (notFace_of_selects (args := #[]) (mvT hZ (hw _ (List.mem_of_getElem? (i := 67) rfl)))) (mvT hZ (hw _ (List.mem_of_getElem? (i := 67) rfl))) (mvT hZ (hw _ (List.mem_of_getElem? (i := 66) rfl))) (by decide) (backOf (W := 0) (rm11 l Z a0 hw [] sb q va kv n cs h0 n0 Z0 l5 nsv gs gv hq hn hcs) hZ (hw _ (List.mem_of_getElem? (i := 68) rfl)) (hw _ (List.mem_of_getElem? (i := 11) rfl)) (by decide) (by decide)) q39a q39c (g := (mkF m 111 #[.val (.ref ml), .val (.int q), .unset] [(.int q), (.ref sb)])) rfl (by rw [hml]; rfl) (Steps.refl _) (argsL := [(.int q)]) (rest := []) (lenOf pd_6 rfl) rfl (by show 2 * 0 + _ ≤ _; exact Nat.le_of_eq rfl) (hb hby d9_111) (fun _ _ => ⟨rfl, e35, (by decide : 0 + 0 ≤ _), (by decide : 0 + 0 ≤ _)⟩)
    dsimp only [Pt.U, Pt.locs, Pt.cells, Pt.slots] at X39 l39 y39 z39 st39 hQ39
    subst l39 y39 z39
    obtain ⟨rfl, Nq39, Kq39, b0⟩ := hQ39
    have N40 := Fr.app N31 Nq39
    have pre39 : Rch p.tables e below (s₁.setTop (entryFrame m #[(.ref ml), (.int q)] 3)) (T39.setTop (mkF m 114 #[.val (.ref ml), .val (.int q), .unset] [(.ref sb)])) := fun tgt ktg => pre38 tgt (st39.trans ktg)
    have f41 : Exa Z T39.heap ml "com/example/subjectline/subjectline/server/MessageLine" := l1.keep Kq39
    have f42 : Fld Z T39.heap ml "com/example/subjectline/subjectline/server/MessageLine" "text" "Ljava/lang/StringBuilder;" (.ref sb) := l2.keep Kq39 (ninS nms (ninS nmv nin0))
    have f43 : Fld Z T39.heap ml "com/example/subjectline/subjectline/server/MessageLine" "most" "I" (.int mo) := l3.keep Kq39 (ninS nms (ninS nmv nin0))
    have f44 : Fld Z T39.heap ml "com/example/subjectline/subjectline/server/MessageLine" "afterCr" "Z" (.int (0 : Int32)) := l4.keep Kq39 (ninS nms (ninS nmv nin0))
    have f45 : Exa Z T39.heap sb "java/lang/StringBuilder" := l5.1.keep Kq39
    have z46 : n0 ≤ T39.heap.size := Nat.le_trans Z0 Kq39.1
    have K47 : Keep h0 T39.heap [ml, sb, va] := K0.trans Kq39 (allS (P := fun x => x ∈ [ml, sb, va] ∨ h0.size ≤ x) (Or.inl (List.mem_of_getElem? (i := 1) rfl)) (allS (P := fun x => x ∈ [ml, sb, va] ∨ h0.size ≤ x) (Or.inl (List.mem_of_getElem? (i := 2) rfl)) (all0 (P := fun x => x ∈ [ml, sb, va] ∨ h0.size ≤ x))))
    have pre48 : Rch p.tables e below (s₁.setTop (entryFrame m #[(.ref ml), (.int q)] 3)) (T39.setTop (mkF m 118 #[.val (.ref ml), .val (.int q), .val (.int (0 : Int32))] [(.int (0 : Int32))])) := fun tgt ktg => pre39 tgt (by
      show Steps p.tables e below (T39.setTop (mkF m 114 #[.val (.ref ml), .val (.int q), .unset] [(.ref sb)])) _
      refine XT.pop X39.here hx rfl (hb hby d9_114) rfl rfl ?_
      show Steps p.tables e below (T39.setTop (mkF m 115 #[.val (.ref ml), .val (.int q), .unset] [])) _
      refine XS.iconst X39.here hx rfl (hb hby d9_115) ?_
      show Steps p.tables e below (T39.setTop (mkF m 116 #[.val (.ref ml), .val (.int q), .unset] [(.int (0 : Int32))])) _
      refine XS.istoreN X39.here hx rfl (hb hby d9_116) rfl (l' := #[.val (.ref ml), .val (.int q), .val (.int (0 : Int32))]) rfl ?_
      show Steps p.tables e below (T39.setTop (mkF m 117 #[.val (.ref ml), .val (.int q), .val (.int (0 : Int32))] [])) _
      refine XS.iloadN X39.here hx rfl (hb hby d9_117) rfl ?_
      exact ktg)
    obtain ⟨fs, hr, hrun, hended, hW, hsame⟩ := X39.leave (v := some (.int (0 : Int32))) (fun h => by rw [Bd.returns] at h; cases h)
    refine ⟨_, _, pre48 _ ?_, hrun, hended, _, _, rfl, ?_, ⟨_, rfl⟩, hW, hsame.mono (by decide) (by decide)⟩
    · show Steps p.tables e below (T39.setTop (mkF m 118 #[.val (.ref ml), .val (.int q), .val (.int (0 : Int32))] [(.int (0 : Int32))])) _
      exact retN X39 hx (t := .boolean) Bd.returns (by simp) (hb hby d9_118) hr
    · show QTc Z ml q sb va kv n mo cs h0 n0 _ T39.heap _
      exact ⟨rfl, N40, K47, ⟨f41, f42, f43, f44, b0, nms, nmv, nsv⟩⟩
theorem d10_0 : decode method_2_code 0 = .ok (.iload_n 0, 1) := by decide +kernel
theorem d10_1 : decode method_2_code 1 = .ok (.bipush 9, 2) := by decide +kernel
theorem d10_3 : decode method_2_code 3 = .ok (.if_icmp .eq 15, 3) := by decide +kernel
theorem d10_18 : decode method_2_code 18 = .ok (.iconst 1, 1) := by decide +kernel
theorem d10_19 : decode method_2_code 19 = .ok (.goto 4, 3) := by decide +kernel
theorem d10_23 : decode method_2_code 23 = .ok (.ireturn, 1) := by decide +kernel
theorem d10_6 : decode method_2_code 6 = .ok (.iload_n 0, 1) := by decide +kernel
theorem d10_7 : decode method_2_code 7 = .ok (.bipush 32, 2) := by decide +kernel
theorem d10_9 : decode method_2_code 9 = .ok (.if_icmp .lt 13, 3) := by decide +kernel
theorem d10_22 : decode method_2_code 22 = .ok (.iconst 0, 1) := by decide +kernel
theorem d10_12 : decode method_2_code 12 = .ok (.iload_n 0, 1) := by decide +kernel
theorem d10_13 : decode method_2_code 13 = .ok (.bipush 127, 2) := by decide +kernel
theorem d10_15 : decode method_2_code 15 = .ok (.if_icmp .eq 7, 3) := by decide +kernel
theorem pn_4 : plainName "com/example/subjectline/subjectline/server/MessageLineBegunPinLaw" = true := by first | (simp [plainName, overriddenIn]; done) | decide +kernel
theorem ef_10 (m : MethodId) (x0 : Int32) : entryFrame m #[(.int x0)] 1 = mkF m 0 #[.val (.int x0)] [] := by first | (simp [entryFrame, mkF, argsToLocals, Value.category]; done) | rfl
def Q10 (Z : State) (q : Int32) (h0 : Heap) (n0 : Nat) (v : Option Value) (h : Heap) (L : List Loc) : Prop := v = some (.int (vld q)) ∧ Fr n0 L ∧ h = h0
set_option maxRecDepth 65536 in
set_option maxHeartbeats 40000000 in
theorem rm10 (l : Launch) (Z : State) (a0 : Array Value) (hw : ∀ d ∈ tables_1, d.before a0 Z = true) (ws : List Jvm.Cond) (q : Int32) (h0 : Heap) (n0 : Nat) (Z0 : n0 ≤ h0.size)  :
    MetFree l (⟨"com/example/subjectline/subjectline/server/MessageLineBegunPinLaw", "valid", "(I)Z"⟩ : MethodName) (head1 (Jvm.Cond.code (⟨"com/example/subjectline/subjectline/server/MessageLineBegunPinLaw", "valid", "(I)Z"⟩ : MethodName) method_2_code 1 (some .boolean) :: ws) ({ frames := 0, cells := 0, slots := 0, locals := 0 } : Room)) (fun aA U => aA = #[(.int q)] ∧ Z.Warmed39 U.vm ∧ U.heap = h0) (fun _ _ _ _ _ => True) (fun _ U oO U' => ∃ vV LL, oO = .returned vV ∧ Q10 Z q h0 n0 vV U'.heap LL ∧ FrameEnd U oO U' LL ({ frames := 0, cells := 0, slots := 0, locals := 0 } : Room).cells ({ frames := 0, cells := 0, slots := 0, locals := 0 } : Room).slots) := by
  refine MetFree.of_bodySF (plainFor_of_name pn_4) hisR ?_
  intro p e s m args below meth c s₁ Bd hml0 hP hK
  obtain ⟨rfl, hZ, hh⟩ := hP
  have hx := Bd.exec
  have hby := Bd.bytes
  have hml : c.maxLocals = 1 := hml0
  have hown : s.vm.findClass "com/example/subjectline/subjectline/server/MessageLineBegunPinLaw" = some m.cls := findClass_of_methodNamed Bd.named
  have hnm := (name_of_methodNamed Bd.named Bd.method).1
  have X0 : Stand p l e ({ frames := 0, cells := 0, slots := 0, locals := 0 } : Room) s m #[(.int q)] below meth c s₁ [] 0 0 := Stand.of_body Bd
  have e0 : s₁.heap = h0 := by rw [← hh, Bd.state]; rfl
  have N0 := Fr.nil n0
  have K0 : Keep h0 h0 [] := Keep.refl _ _
  have pre0 : Rch p.tables e below (s₁.setTop (entryFrame m #[(.int q)] 1)) (s₁.setTop (mkF m 0 #[.val (.int q)] [])) := fun tgt ktg => castTop (ef_10 m q) ktg
  have pre1 : Rch p.tables e below (s₁.setTop (entryFrame m #[(.int q)] 1)) (s₁.setTop (mkF m 3 #[.val (.int q)] [(.int (9 : Int32)), (.int q)])) := fun tgt ktg => pre0 tgt (by
    show Steps p.tables e below (s₁.setTop (mkF m 0 #[.val (.int q)] [])) _
    refine XS.iloadN X0.here hx rfl (hb hby d10_0) rfl ?_
    show Steps p.tables e below (s₁.setTop (mkF m 1 #[.val (.int q)] [(.int q)])) _
    refine XS.bipush X0.here hx rfl (hb hby d10_1) ?_
    exact ktg)
  by_cases c2 : q = (9 : Int32)
  · skip
    have pre3 : Rch p.tables e below (s₁.setTop (entryFrame m #[(.int q)] 1)) (s₁.setTop (mkF m 18 #[.val (.int q)] [])) := fun tgt ktg => pre1 tgt (by
      show Steps p.tables e below (s₁.setTop (mkF m 3 #[.val (.int q)] [(.int (9 : Int32)), (.int q)])) _
      refine XS.icmpYes X0.here hx rfl (pc0 := 3) (pc' := 18) rfl (hb hby d10_3) rfl (teq c2).1 (by decide) (by decide) ?_
      exact ktg)
    have pre4 : Rch p.tables e below (s₁.setTop (entryFrame m #[(.int q)] 1)) (s₁.setTop (mkF m 23 #[.val (.int q)] [(.int (1 : Int32))])) := fun tgt ktg => pre3 tgt (by
      show Steps p.tables e below (s₁.setTop (mkF m 18 #[.val (.int q)] [])) _
      refine XS.iconst X0.here hx rfl (hb hby d10_18) ?_
      show Steps p.tables e below (s₁.setTop (mkF m 19 #[.val (.int q)] [(.int (1 : Int32))])) _
      refine XS.goto X0.here hx rfl (pc0 := 19) (pc' := 23) rfl (hb hby d10_19) (by decide) (by decide) ?_
      exact ktg)
    obtain ⟨fs, hr, hrun, hended, hW, hsame⟩ := X0.leave (v := some (.int (1 : Int32))) (fun h => by rw [Bd.returns] at h; cases h)
    refine ⟨_, _, pre4 _ ?_, hrun, hended, _, _, rfl, ?_, ⟨_, rfl⟩, hW, hsame.mono (by decide) (by decide)⟩
    · show Steps p.tables e below (s₁.setTop (mkF m 23 #[.val (.int q)] [(.int (1 : Int32))])) _
      exact retN X0 hx (t := .boolean) Bd.returns (by simp) (hb hby d10_23) hr
    · show Q10 Z q h0 n0 _ s₁.heap _
      rw [e0]
      exact ⟨by simp [vld, c2], N0, rfl⟩
  · skip
    have pre5 : Rch p.tables e below (s₁.setTop (entryFrame m #[(.int q)] 1)) (s₁.setTop (mkF m 6 #[.val (.int q)] [])) := fun tgt ktg => pre1 tgt (by
      show Steps p.tables e below (s₁.setTop (mkF m 3 #[.val (.int q)] [(.int (9 : Int32)), (.int q)])) _
      refine XS.icmpNo X0.here hx rfl (hb hby d10_3) rfl (feq c2).1 ?_
      exact ktg)
    have pre6 : Rch p.tables e below (s₁.setTop (entryFrame m #[(.int q)] 1)) (s₁.setTop (mkF m 9 #[.val (.int q)] [(.int (32 : Int32)), (.int q)])) := fun tgt ktg => pre5 tgt (by
      show Steps p.tables e below (s₁.setTop (mkF m 6 #[.val (.int q)] [])) _
      refine XS.iloadN X0.here hx rfl (hb hby d10_6) rfl ?_
      show Steps p.tables e below (s₁.setTop (mkF m 7 #[.val (.int q)] [(.int q)])) _
      refine XS.bipush X0.here hx rfl (hb hby d10_7) ?_
      exact ktg)
    by_cases c7 : q < (32 : Int32)
    · skip
      have pre8 : Rch p.tables e below (s₁.setTop (entryFrame m #[(.int q)] 1)) (s₁.setTop (mkF m 22 #[.val (.int q)] [])) := fun tgt ktg => pre6 tgt (by
        show Steps p.tables e below (s₁.setTop (mkF m 9 #[.val (.int q)] [(.int (32 : Int32)), (.int q)])) _
        refine XS.icmpYes X0.here hx rfl (pc0 := 9) (pc' := 22) rfl (hb hby d10_9) rfl (tlt c7).1 (by decide) (by decide) ?_
        exact ktg)
      have pre9 : Rch p.tables e below (s₁.setTop (entryFrame m #[(.int q)] 1)) (s₁.setTop (mkF m 23 #[.val (.int q)] [(.int (0 : Int32))])) := fun tgt ktg => pre8 tgt (by
        show Steps p.tables e below (s₁.setTop (mkF m 22 #[.val (.int q)] [])) _
        refine XS.iconst X0.here hx rfl (hb hby d10_22) ?_
        exact ktg)
      obtain ⟨fs, hr, hrun, hended, hW, hsame⟩ := X0.leave (v := some (.int (0 : Int32))) (fun h => by rw [Bd.returns] at h; cases h)
      refine ⟨_, _, pre9 _ ?_, hrun, hended, _, _, rfl, ?_, ⟨_, rfl⟩, hW, hsame.mono (by decide) (by decide)⟩
      · show Steps p.tables e below (s₁.setTop (mkF m 23 #[.val (.int q)] [(.int (0 : Int32))])) _
        exact retN X0 hx (t := .boolean) Bd.returns (by simp) (hb hby d10_23) hr
      · show Q10 Z q h0 n0 _ s₁.heap _
        rw [e0]
        exact ⟨by simp [vld, c2, c7], N0, rfl⟩
    · skip
      have pre10 : Rch p.tables e below (s₁.setTop (entryFrame m #[(.int q)] 1)) (s₁.setTop (mkF m 12 #[.val (.int q)] [])) := fun tgt ktg => pre6 tgt (by
        show Steps p.tables e below (s₁.setTop (mkF m 9 #[.val (.int q)] [(.int (32 : Int32)), (.int q)])) _
        refine XS.icmpNo X0.here hx rfl (hb hby d10_9) rfl (flt c7).1 ?_
        exact ktg)
      have pre11 : Rch p.tables e below (s₁.setTop (entryFrame m #[(.int q)] 1)) (s₁.setTop (mkF m 15 #[.val (.int q)] [(.int (127 : Int32)), (.int q)])) := fun tgt ktg => pre10 tgt (by
        show Steps p.tables e below (s₁.setTop (mkF m 12 #[.val (.int q)] [])) _
        refine XS.iloadN X0.here hx rfl (hb hby d10_12) rfl ?_
        show Steps p.tables e below (s₁.setTop (mkF m 13 #[.val (.int q)] [(.int q)])) _
        refine XS.bipush X0.here hx rfl (hb hby d10_13) ?_
        exact ktg)
      by_cases c12 : q = (127 : Int32)
      · skip
        have pre13 : Rch p.tables e below (s₁.setTop (entryFrame m #[(.int q)] 1)) (s₁.setTop (mkF m 22 #[.val (.int q)] [])) := fun tgt ktg => pre11 tgt (by
          show Steps p.tables e below (s₁.setTop (mkF m 15 #[.val (.int q)] [(.int (127 : Int32)), (.int q)])) _
          refine XS.icmpYes X0.here hx rfl (pc0 := 15) (pc' := 22) rfl (hb hby d10_15) rfl (teq c12).1 (by decide) (by decide) ?_
          exact ktg)
        have pre14 : Rch p.tables e below (s₁.setTop (entryFrame m #[(.int q)] 1)) (s₁.setTop (mkF m 23 #[.val (.int q)] [(.int (0 : Int32))])) := fun tgt ktg => pre13 tgt (by
          show Steps p.tables e below (s₁.setTop (mkF m 22 #[.val (.int q)] [])) _
          refine XS.iconst X0.here hx rfl (hb hby d10_22) ?_
          exact ktg)
        obtain ⟨fs, hr, hrun, hended, hW, hsame⟩ := X0.leave (v := some (.int (0 : Int32))) (fun h => by rw [Bd.returns] at h; cases h)
        refine ⟨_, _, pre14 _ ?_, hrun, hended, _, _, rfl, ?_, ⟨_, rfl⟩, hW, hsame.mono (by decide) (by decide)⟩
        · show Steps p.tables e below (s₁.setTop (mkF m 23 #[.val (.int q)] [(.int (0 : Int32))])) _
          exact retN X0 hx (t := .boolean) Bd.returns (by simp) (hb hby d10_23) hr
        · show Q10 Z q h0 n0 _ s₁.heap _
          rw [e0]
          exact ⟨by simp [vld, c2, c7, c12], N0, rfl⟩
      · skip
        have pre15 : Rch p.tables e below (s₁.setTop (entryFrame m #[(.int q)] 1)) (s₁.setTop (mkF m 18 #[.val (.int q)] [])) := fun tgt ktg => pre11 tgt (by
          show Steps p.tables e below (s₁.setTop (mkF m 15 #[.val (.int q)] [(.int (127 : Int32)), (.int q)])) _
          refine XS.icmpNo X0.here hx rfl (hb hby d10_15) rfl (feq c12).1 ?_
          exact ktg)
        have pre16 : Rch p.tables e below (s₁.setTop (entryFrame m #[(.int q)] 1)) (s₁.setTop (mkF m 23 #[.val (.int q)] [(.int (1 : Int32))])) := fun tgt ktg => pre15 tgt (by
          show Steps p.tables e below (s₁.setTop (mkF m 18 #[.val (.int q)] [])) _
          refine XS.iconst X0.here hx rfl (hb hby d10_18) ?_
          show Steps p.tables e below (s₁.setTop (mkF m 19 #[.val (.int q)] [(.int (1 : Int32))])) _
          refine XS.goto X0.here hx rfl (pc0 := 19) (pc' := 23) rfl (hb hby d10_19) (by decide) (by decide) ?_
          exact ktg)
        obtain ⟨fs, hr, hrun, hended, hW, hsame⟩ := X0.leave (v := some (.int (1 : Int32))) (fun h => by rw [Bd.returns] at h; cases h)
        refine ⟨_, _, pre16 _ ?_, hrun, hended, _, _, rfl, ?_, ⟨_, rfl⟩, hW, hsame.mono (by decide) (by decide)⟩
        · show Steps p.tables e below (s₁.setTop (mkF m 23 #[.val (.int q)] [(.int (1 : Int32))])) _
          exact retN X0 hx (t := .boolean) Bd.returns (by simp) (hb hby d10_23) hr
        · show Q10 Z q h0 n0 _ s₁.heap _
          rw [e0]
          exact ⟨by simp [vld, c2, c7, c12], N0, rfl⟩
theorem d8_0 : decode method_3_code 0 = .ok (.iload_n 2, 1) := by decide +kernel
theorem d8_1 : decode method_3_code 1 = .ok (.ifCond .eq 26, 3) := by decide +kernel
theorem d8_27 : decode method_3_code 27 = .ok (.iload_n 3, 1) := by decide +kernel
theorem d8_28 : decode method_3_code 28 = .ok (.ireturn, 1) := by decide +kernel
theorem d8_4 : decode method_3_code 4 = .ok (.iload_n 1, 1) := by decide +kernel
theorem d8_5 : decode method_3_code 5 = .ok (.invokestatic 7, 3) := by decide +kernel
theorem pd_7 : parseMethodDescriptor "(I)Z" = some ⟨[.int], some .boolean⟩ := by decide +kernel
theorem d8_8 : decode method_3_code 8 = .ok (.ifCond .eq 19, 3) := by decide +kernel
theorem d8_11 : decode method_3_code 11 = .ok (.iload_n 3, 1) := by decide +kernel
theorem d8_12 : decode method_3_code 12 = .ok (.iload 4, 2) := by decide +kernel
theorem d8_14 : decode method_3_code 14 = .ok (.if_icmp .ge 13, 3) := by decide +kernel
theorem d8_17 : decode method_3_code 17 = .ok (.aload_n 0, 1) := by decide +kernel
theorem d8_18 : decode method_3_code 18 = .ok (.iload_n 1, 1) := by decide +kernel
theorem d8_19 : decode method_3_code 19 = .ok (.invokevirtual 13, 3) := by decide +kernel
theorem d8_22 : decode method_3_code 22 = .ok (.pop, 1) := by decide +kernel
theorem d8_23 : decode method_3_code 23 = .ok (.iload_n 3, 1) := by decide +kernel
theorem d8_24 : decode method_3_code 24 = .ok (.iconst 1, 1) := by decide +kernel
theorem d8_25 : decode method_3_code 25 = .ok (.iadd, 1) := by decide +kernel
theorem d8_26 : decode method_3_code 26 = .ok (.ireturn, 1) := by decide +kernel
theorem ef_8 (m : MethodId) (x0 : Addr) (x1 : Int32) (x2 : Int32) (x3 : Int32) (x4 : Int32) : entryFrame m #[(.ref x0), (.int x1), (.int x2), (.int x3), (.int x4)] 5 = mkF m 0 #[.val (.ref x0), .val (.int x1), .val (.int x2), .val (.int x3), .val (.int x4)] [] := by first | (simp [entryFrame, mkF, argsToLocals, Value.category]; done) | rfl
def Q8 (Z : State) (ml : Addr) (q : Int32) (go : Int32) (n : Int32) (mo : Int32) (sb va : Addr) (kv : ClassId) (cs : Int32) (h0 : Heap) (n0 : Nat) (v : Option Value) (h : Heap) (L : List Loc) : Prop := v = some (.int (stp q go n mo)) ∧ Fr n0 L ∧ Keep h0 h [ml, sb, va] ∧ MLs Z h ml sb va kv 0 (stp q go n mo) mo cs
set_option maxRecDepth 65536 in
set_option maxHeartbeats 40000000 in
theorem rm8 (l : Launch) (Z : State) (a0 : Array Value) (hw : ∀ d ∈ tables_1, d.before a0 Z = true) (ws : List Jvm.Cond) (ml : Addr) (q : Int32) (go : Int32) (n : Int32) (mo : Int32) (sb va : Addr) (kv : ClassId) (cs : Int32) (h0 : Heap) (n0 : Nat) (Z0 : n0 ≤ h0.size) (M : MLs Z h0 ml sb va kv 0 n mo cs) (gm : n0 ≤ ml) (gs : n0 ≤ sb) (gv : n0 ≤ va) (hq0 : ¬ q < 0) (hq : ¬ (255 : Int32) < q) (hn : ¬ n < 0 ∧ n < 15) (hcs : ¬ cs = 0) :
    MetFree l (⟨"com/example/subjectline/subjectline/server/MessageLineBegunPinLaw", "step", "(Lcom/example/subjectline/subjectline/server/MessageLine;IZII)I"⟩ : MethodName) (head1 (Jvm.Cond.code (⟨"com/example/subjectline/subjectline/server/MessageLineBegunPinLaw", "step", "(Lcom/example/subjectline/subjectline/server/MessageLine;IZII)I"⟩ : MethodName) method_3_code 5 (some .int) :: ws) ({ frames := 4, cells := 0, slots := 0, locals := 70 } : Room)) (fun aA U => aA = #[(.ref ml), (.int q), (.int go), (.int n), (.int mo)] ∧ Z.Warmed39 U.vm ∧ U.heap = h0) (fun _ _ _ _ _ => True) (fun _ U oO U' => ∃ vV LL, oO = .returned vV ∧ Q8 Z ml q go n mo sb va kv cs h0 n0 vV U'.heap LL ∧ FrameEnd U oO U' LL ({ frames := 4, cells := 0, slots := 0, locals := 70 } : Room).cells ({ frames := 4, cells := 0, slots := 0, locals := 70 } : Room).slots) := by
  refine MetFree.of_bodySF (plainFor_of_name pn_4) hisR ?_
  intro p e s m args below meth c s₁ Bd hml0 hP hK
  obtain ⟨rfl, hZ, hh⟩ := hP
  have hx := Bd.exec
  have hby := Bd.bytes
  have hml : c.maxLocals = 5 := hml0
  have hown : s.vm.findClass "com/example/subjectline/subjectline/server/MessageLineBegunPinLaw" = some m.cls := findClass_of_methodNamed Bd.named
  have hnm := (name_of_methodNamed Bd.named Bd.method).1
  have X0 : Stand p l e ({ frames := 4, cells := 0, slots := 0, locals := 70 } : Room) s m #[(.ref ml), (.int q), (.int go), (.int n), (.int mo)] below meth c s₁ [] 0 0 := Stand.of_body Bd
  have e0 : s₁.heap = h0 := by rw [← hh, Bd.state]; rfl
  have N0 := Fr.nil n0
  have K0 : Keep h0 h0 [ml, sb, va] := Keep.refl _ _
  have pre0 : Rch p.tables e below (s₁.setTop (entryFrame m #[(.ref ml), (.int q), (.int go), (.int n), (.int mo)] 5)) (s₁.setTop (mkF m 0 #[.val (.ref ml), .val (.int q), .val (.int go), .val (.int n), .val (.int mo)] [])) := fun tgt ktg => castTop (ef_8 m ml q go n mo) ktg
  have pre1 : Rch p.tables e below (s₁.setTop (entryFrame m #[(.ref ml), (.int q), (.int go), (.int n), (.int mo)] 5)) (s₁.setTop (mkF m 1 #[.val (.ref ml), .val (.int q), .val (.int go), .val (.int n), .val (.int mo)] [(.int go)])) := fun tgt ktg => pre0 tgt (by
    show Steps p.tables e below (s₁.setTop (mkF m 0 #[.val (.ref ml), .val (.int q), .val (.int go), .val (.int n), .val (.int mo)] [])) _
    refine XS.iloadN X0.here hx rfl (hb hby d8_0) rfl ?_
    exact ktg)
  by_cases c2 : go = (0 : Int32)
  · skip
    have pre3 : Rch p.tables e below (s₁.setTop (entryFrame m #[(.ref ml), (.int q), (.int go), (.int n), (.int mo)] 5)) (s₁.setTop (mkF m 27 #[.val (.ref ml), .val (.int q), .val (.int go), .val (.int n), .val (.int mo)] [])) := fun tgt ktg => pre1 tgt (by
      show Steps p.tables e below (s₁.setTop (mkF m 1 #[.val (.ref ml), .val (.int q), .val (.int go), .val (.int n), .val (.int mo)] [(.int go)])) _
      refine XS.ifYes X0.here hx rfl (pc0 := 1) (pc' := 27) rfl (hb hby d8_1) rfl ((if0 _ _).trans (teq c2).1) (by decide) (by decide) ?_
      exact ktg)
    have pre4 : Rch p.tables e below (s₁.setTop (entryFrame m #[(.ref ml), (.int q), (.int go), (.int n), (.int mo)] 5)) (s₁.setTop (mkF m 28 #[.val (.ref ml), .val (.int q), .val (.int go), .val (.int n), .val (.int mo)] [(.int n)])) := fun tgt ktg => pre3 tgt (by
      show Steps p.tables e below (s₁.setTop (mkF m 27 #[.val (.ref ml), .val (.int q), .val (.int go), .val (.int n), .val (.int mo)] [])) _
      refine XS.iloadN X0.here hx rfl (hb hby d8_27) rfl ?_
      exact ktg)
    have es : stp q go n mo = n := by simp [stp, c2]
    obtain ⟨fs, hr, hrun, hended, hW, hsame⟩ := X0.leave (v := some (.int n)) (fun h => by rw [Bd.returns] at h; cases h)
    refine ⟨_, _, pre4 _ ?_, hrun, hended, _, _, rfl, ?_, ⟨_, rfl⟩, hW, hsame.mono (by decide) (by decide)⟩
    · show Steps p.tables e below (s₁.setTop (mkF m 28 #[.val (.ref ml), .val (.int q), .val (.int go), .val (.int n), .val (.int mo)] [(.int n)])) _
      exact retI X0 hx Bd.returns (hb hby d8_28) hr
    · show Q8 Z ml q go n mo sb va kv cs h0 n0 _ s₁.heap _
      rw [e0]
      exact ⟨by rw [es], N0, (Keep.refl _ _), (by rw [es]; exact M)⟩
  · skip
    have pre5 : Rch p.tables e below (s₁.setTop (entryFrame m #[(.ref ml), (.int q), (.int go), (.int n), (.int mo)] 5)) (s₁.setTop (mkF m 4 #[.val (.ref ml), .val (.int q), .val (.int go), .val (.int n), .val (.int mo)] [])) := fun tgt ktg => pre1 tgt (by
      show Steps p.tables e below (s₁.setTop (mkF m 1 #[.val (.ref ml), .val (.int q), .val (.int go), .val (.int n), .val (.int mo)] [(.int go)])) _
      refine XS.ifNo X0.here hx rfl (hb hby d8_1) rfl ((if0 _ _).trans (feq c2).1) ?_
      exact ktg)
    have pre6 : Rch p.tables e below (s₁.setTop (entryFrame m #[(.ref ml), (.int q), (.int go), (.int n), (.int mo)] 5)) (s₁.setTop (mkF m 5 #[.val (.ref ml), .val (.int q), .val (.int go), .val (.int n), .val (.int mo)] [(.int q)])) := fun tgt ktg => pre5 tgt (by
      show Steps p.tables e below (s₁.setTop (mkF m 4 #[.val (.ref ml), .val (.int q), .val (.int go), .val (.int n), .val (.int mo)] [])) _
      refine XS.iloadN X0.here hx rfl (hb hby d8_4) rfl ?_
      exact ktg)
    obtain ⟨_, _, ⟨T7, L7, k7, n7⟩, -, X7, ⟨Lc7, hQ7, l7, y7, z7⟩, st7⟩ := Jvm.LawKit.callS X0 hx (y := (⟨"com/example/subjectline/subjectline/server/MessageLineBegunPinLaw", "valid", "(I)Z"⟩ : MethodName)) hown (mvT hZ (hw _ (List.mem_of_getElem? (i := 61) rfl))) (mvT hZ (hw _ (List.mem_of_getElem? (i := 62) rfl))) (mvT hZ (hw _ (List.mem_of_getElem? (i := 54) rfl))) (mvT hZ (hw _ (List.mem_of_getElem? (i := 63) rfl))) (by decide) (backOf (W := 0) (rm10 l Z a0 hw [] q h0 n0 Z0) hZ (hw _ (List.mem_of_getElem? (i := 63) rfl)) (hw _ (List.mem_of_getElem? (i := 54) rfl)) (by decide) (by decide)) (g := (mkF m 5 #[.val (.ref ml), .val (.int q), .val (.int go), .val (.int n), .val (.int mo)] [(.int q)])) rfl (by rw [hml]; rfl) (argsL := [(.int q)]) (rest := []) (lenOf pd_7 rfl) rfl (by show 2 * 0 + _ ≤ _; exact Nat.le_of_eq rfl) (hb hby d8_5) (fun _ _ => ⟨rfl, e0, (by decide : 0 + 0 ≤ _), (by decide : 0 + 0 ≤ _)⟩)
    dsimp only [Pt.U, Pt.locs, Pt.cells, Pt.slots] at X7 l7 y7 z7 st7 hQ7
    subst l7 y7 z7
    obtain ⟨rfl, Nq7, eh7⟩ := hQ7
    have N8 := Fr.app N0 Nq7
    have pre7 : Rch p.tables e below (s₁.setTop (entryFrame m #[(.ref ml), (.int q), (.int go), (.int n), (.int mo)] 5)) (T7.setTop (mkF m 8 #[.val (.ref ml), .val (.int q), .val (.int go), .val (.int n), .val (.int mo)] [(.int (vld q))])) := fun tgt ktg => pre6 tgt (st7 tgt ktg)
    by_cases c9 : (vld q) = (0 : Int32)
    · skip
      have pre10 : Rch p.tables e below (s₁.setTop (entryFrame m #[(.ref ml), (.int q), (.int go), (.int n), (.int mo)] 5)) (T7.setTop (mkF m 27 #[.val (.ref ml), .val (.int q), .val (.int go), .val (.int n), .val (.int mo)] [])) := fun tgt ktg => pre7 tgt (by
        show Steps p.tables e below (T7.setTop (mkF m 8 #[.val (.ref ml), .val (.int q), .val (.int go), .val (.int n), .val (.int mo)] [(.int (vld q))])) _
        refine XS.ifYes X7.here hx rfl (pc0 := 8) (pc' := 27) rfl (hb hby d8_8) rfl ((if0 _ _).trans (teq c9).1) (by decide) (by decide) ?_
        exact ktg)
      have pre11 : Rch p.tables e below (s₁.setTop (entryFrame m #[(.ref ml), (.int q), (.int go), (.int n), (.int mo)] 5)) (T7.setTop (mkF m 28 #[.val (.ref ml), .val (.int q), .val (.int go), .val (.int n), .val (.int mo)] [(.int n)])) := fun tgt ktg => pre10 tgt (by
        show Steps p.tables e below (T7.setTop (mkF m 27 #[.val (.ref ml), .val (.int q), .val (.int go), .val (.int n), .val (.int mo)] [])) _
        refine XS.iloadN X7.here hx rfl (hb hby d8_27) rfl ?_
        exact ktg)
      have es : stp q go n mo = n := by simp [stp, c2, c9]
      obtain ⟨fs, hr, hrun, hended, hW, hsame⟩ := X7.leave (v := some (.int n)) (fun h => by rw [Bd.returns] at h; cases h)
      refine ⟨_, _, pre11 _ ?_, hrun, hended, _, _, rfl, ?_, ⟨_, rfl⟩, hW, hsame.mono (by decide) (by decide)⟩
      · show Steps p.tables e below (T7.setTop (mkF m 28 #[.val (.ref ml), .val (.int q), .val (.int go), .val (.int n), .val (.int mo)] [(.int n)])) _
        exact retI X7 hx Bd.returns (hb hby d8_28) hr
      · show Q8 Z ml q go n mo sb va kv cs h0 n0 _ T7.heap _
        rw [eh7]
        exact ⟨by rw [es], N8, (Keep.refl _ _), (by rw [es]; exact M)⟩
    · skip
      have pre12 : Rch p.tables e below (s₁.setTop (entryFrame m #[(.ref ml), (.int q), (.int go), (.int n), (.int mo)] 5)) (T7.setTop (mkF m 11 #[.val (.ref ml), .val (.int q), .val (.int go), .val (.int n), .val (.int mo)] [])) := fun tgt ktg => pre7 tgt (by
        show Steps p.tables e below (T7.setTop (mkF m 8 #[.val (.ref ml), .val (.int q), .val (.int go), .val (.int n), .val (.int mo)] [(.int (vld q))])) _
        refine XS.ifNo X7.here hx rfl (hb hby d8_8) rfl ((if0 _ _).trans (feq c9).1) ?_
        exact ktg)
      have pre13 : Rch p.tables e below (s₁.setTop (entryFrame m #[(.ref ml), (.int q), (.int go), (.int n), (.int mo)] 5)) (T7.setTop (mkF m 14 #[.val (.ref ml), .val (.int q), .val (.int go), .val (.int n), .val (.int mo)] [(.int mo), (.int n)])) := fun tgt ktg => pre12 tgt (by
        show Steps p.tables e below (T7.setTop (mkF m 11 #[.val (.ref ml), .val (.int q), .val (.int go), .val (.int n), .val (.int mo)] [])) _
        refine XS.iloadN X7.here hx rfl (hb hby d8_11) rfl ?_
        show Steps p.tables e below (T7.setTop (mkF m 12 #[.val (.ref ml), .val (.int q), .val (.int go), .val (.int n), .val (.int mo)] [(.int n)])) _
        refine XS.iload X7.here hx rfl (hb hby d8_12) rfl ?_
        exact ktg)
      by_cases c14 : n < mo
      · skip
        have pre15 : Rch p.tables e below (s₁.setTop (entryFrame m #[(.ref ml), (.int q), (.int go), (.int n), (.int mo)] 5)) (T7.setTop (mkF m 17 #[.val (.ref ml), .val (.int q), .val (.int go), .val (.int n), .val (.int mo)] [])) := fun tgt ktg => pre13 tgt (by
          show Steps p.tables e below (T7.setTop (mkF m 14 #[.val (.ref ml), .val (.int q), .val (.int go), .val (.int n), .val (.int mo)] [(.int mo), (.int n)])) _
          refine XS.icmpNo X7.here hx rfl (hb hby d8_14) rfl (tlt c14).2.1 ?_
          exact ktg)
        have pre16 : Rch p.tables e below (s₁.setTop (entryFrame m #[(.ref ml), (.int q), (.int go), (.int n), (.int mo)] 5)) (T7.setTop (mkF m 19 #[.val (.ref ml), .val (.int q), .val (.int go), .val (.int n), .val (.int mo)] [(.int q), (.ref ml)])) := fun tgt ktg => pre15 tgt (by
          show Steps p.tables e below (T7.setTop (mkF m 17 #[.val (.ref ml), .val (.int q), .val (.int go), .val (.int n), .val (.int mo)] [])) _
          refine XS.aloadN X7.here hx rfl (hb hby d8_17) rfl rfl ?_
          show Steps p.tables e below (T7.setTop (mkF m 18 #[.val (.ref ml), .val (.int q), .val (.int go), .val (.int n), .val (.int mo)] [(.ref ml)])) _
          refine XS.iloadN X7.here hx rfl (hb hby d8_18) rfl ?_
          exact ktg)
        obtain ⟨cq17, kq17, q17a, q17b, q17c⟩ := isOf hZ eh7 M.1
        obtain ⟨_, _, ⟨T17, L17, k17, n17⟩, -, X17, ⟨Lc17, hQ17, l17, y17, z17⟩, st17⟩ := X7.virtualBack hx (y := (⟨"com/example/subjectline/subjectline/server/MessageLine", "take", "(I)Z"⟩ : MethodName)) (z := (⟨"com/example/subjectline/subjectline/server/MessageLine", "take", "(I)Z"⟩ : MethodName)) hown (mvT hZ (hw _ (List.mem_of_getElem? (i := 56) rfl))) (mvT hZ (hw _ (List.mem_of_getElem? (i := 57) rfl))) (notFace_of_selects (args := #[]) (mvT hZ (hw _ (List.mem_of_getElem? (i := 59) rfl)))) (mvT hZ (hw _ (List.mem_of_getElem? (i := 59) rfl))) (mvT hZ (hw _ (List.mem_of_getElem? (i := 58) rfl))) (by decide) (backOf (W := 0) (rmTc l Z a0 hw [] ml q sb va kv n mo cs h0 n0 Z0 M gm gs gv (own_v1 c9) hq0 hq hn (own_ne c14) hcs) hZ (hw _ (List.mem_of_getElem? (i := 60) rfl)) (hw _ (List.mem_of_getElem? (i := 2) rfl)) (by decide) (by decide)) q17a q17c (g := (mkF m 19 #[.val (.ref ml), .val (.int q), .val (.int go), .val (.int n), .val (.int mo)] [(.int q), (.ref ml)])) rfl (by rw [hml]; rfl) (Steps.refl _) (argsL := [(.int q)]) (rest := []) (lenOf pd_7 rfl) rfl (by show 2 * 0 + _ ≤ _; exact Nat.le_of_eq rfl) (hb hby d8_19) (fun _ _ => ⟨rfl, eh7, (by decide : 0 + 0 ≤ _), (by decide : 0 + 0 ≤ _)⟩)
        dsimp only [Pt.U, Pt.locs, Pt.cells, Pt.slots] at X17 l17 y17 z17 st17 hQ17
        subst l17 y17 z17
        obtain ⟨rfl, Nq17, Kq17, b0⟩ := hQ17
        have N18 := Fr.app N8 Nq17
        have pre17 : Rch p.tables e below (s₁.setTop (entryFrame m #[(.ref ml), (.int q), (.int go), (.int n), (.int mo)] 5)) (T17.setTop (mkF m 22 #[.val (.ref ml), .val (.int q), .val (.int go), .val (.int n), .val (.int mo)] [(.int (0 : Int32))])) := fun tgt ktg => pre16 tgt (st17.trans ktg)
        have f19 : Exa Z T17.heap ml "com/example/subjectline/subjectline/server/MessageLine" := M.1.keep Kq17
        have z20 : n0 ≤ T17.heap.size := Nat.le_trans Z0 Kq17.1
        have K21 : Keep h0 T17.heap [ml, sb, va] := K0.trans Kq17 (allS (P := fun x => x ∈ [ml, sb, va] ∨ h0.size ≤ x) (Or.inl (List.mem_of_getElem? (i := 0) rfl)) (allS (P := fun x => x ∈ [ml, sb, va] ∨ h0.size ≤ x) (Or.inl (List.mem_of_getElem? (i := 1) rfl)) (allS (P := fun x => x ∈ [ml, sb, va] ∨ h0.size ≤ x) (Or.inl (List.mem_of_getElem? (i := 2) rfl)) (all0 (P := fun x => x ∈ [ml, sb, va] ∨ h0.size ≤ x)))))
        have pre22 : Rch p.tables e below (s₁.setTop (entryFrame m #[(.ref ml), (.int q), (.int go), (.int n), (.int mo)] 5)) (T17.setTop (mkF m 26 #[.val (.ref ml), .val (.int q), .val (.int go), .val (.int n), .val (.int mo)] [(.int (n + (1 : Int32)))])) := fun tgt ktg => pre17 tgt (by
          show Steps p.tables e below (T17.setTop (mkF m 22 #[.val (.ref ml), .val (.int q), .val (.int go), .val (.int n), .val (.int mo)] [(.int (0 : Int32))])) _
          refine XT.pop X17.here hx rfl (hb hby d8_22) rfl rfl ?_
          show Steps p.tables e below (T17.setTop (mkF m 23 #[.val (.ref ml), .val (.int q), .val (.int go), .val (.int n), .val (.int mo)] [])) _
          refine XS.iloadN X17.here hx rfl (hb hby d8_23) rfl ?_
          show Steps p.tables e below (T17.setTop (mkF m 24 #[.val (.ref ml), .val (.int q), .val (.int go), .val (.int n), .val (.int mo)] [(.int n)])) _
          refine XS.iconst X17.here hx rfl (hb hby d8_24) ?_
          show Steps p.tables e below (T17.setTop (mkF m 25 #[.val (.ref ml), .val (.int q), .val (.int go), .val (.int n), .val (.int mo)] [(.int (1 : Int32)), (.int n)])) _
          refine XS.iadd X17.here hx rfl (hb hby d8_25) rfl ?_
          exact ktg)
        have es : stp q go n mo = n + 1 := by simp [stp, c2, c9, c14]
        obtain ⟨fs, hr, hrun, hended, hW, hsame⟩ := X17.leave (v := some (.int (n + (1 : Int32)))) (fun h => by rw [Bd.returns] at h; cases h)
        refine ⟨_, _, pre22 _ ?_, hrun, hended, _, _, rfl, ?_, ⟨_, rfl⟩, hW, hsame.mono (by decide) (by decide)⟩
        · show Steps p.tables e below (T17.setTop (mkF m 26 #[.val (.ref ml), .val (.int q), .val (.int go), .val (.int n), .val (.int mo)] [(.int (n + (1 : Int32)))])) _
          exact retI X17 hx Bd.returns (hb hby d8_26) hr
        · show Q8 Z ml q go n mo sb va kv cs h0 n0 _ T17.heap _
          exact ⟨by rw [es], N18, K21, (by rw [es]; exact b0)⟩
      · skip
        have pre23 : Rch p.tables e below (s₁.setTop (entryFrame m #[(.ref ml), (.int q), (.int go), (.int n), (.int mo)] 5)) (T7.setTop (mkF m 27 #[.val (.ref ml), .val (.int q), .val (.int go), .val (.int n), .val (.int mo)] [])) := fun tgt ktg => pre13 tgt (by
          show Steps p.tables e below (T7.setTop (mkF m 14 #[.val (.ref ml), .val (.int q), .val (.int go), .val (.int n), .val (.int mo)] [(.int mo), (.int n)])) _
          refine XS.icmpYes X7.here hx rfl (pc0 := 14) (pc' := 27) rfl (hb hby d8_14) rfl (flt c14).2.1 (by decide) (by decide) ?_
          exact ktg)
        have pre24 : Rch p.tables e below (s₁.setTop (entryFrame m #[(.ref ml), (.int q), (.int go), (.int n), (.int mo)] 5)) (T7.setTop (mkF m 28 #[.val (.ref ml), .val (.int q), .val (.int go), .val (.int n), .val (.int mo)] [(.int n)])) := fun tgt ktg => pre23 tgt (by
          show Steps p.tables e below (T7.setTop (mkF m 27 #[.val (.ref ml), .val (.int q), .val (.int go), .val (.int n), .val (.int mo)] [])) _
          refine XS.iloadN X7.here hx rfl (hb hby d8_27) rfl ?_
          exact ktg)
        have es : stp q go n mo = n := by simp [stp, c2, c9, c14]
        obtain ⟨fs, hr, hrun, hended, hW, hsame⟩ := X7.leave (v := some (.int n)) (fun h => by rw [Bd.returns] at h; cases h)
        refine ⟨_, _, pre24 _ ?_, hrun, hended, _, _, rfl, ?_, ⟨_, rfl⟩, hW, hsame.mono (by decide) (by decide)⟩
        · show Steps p.tables e below (T7.setTop (mkF m 28 #[.val (.ref ml), .val (.int q), .val (.int go), .val (.int n), .val (.int mo)] [(.int n)])) _
          exact retI X7 hx Bd.returns (hb hby d8_28) hr
        · show Q8 Z ml q go n mo sb va kv cs h0 n0 _ T7.heap _
          rw [eh7]
          exact ⟨by rw [es], N8, (Keep.refl _ _), (by rw [es]; exact M)⟩
theorem pd_8 : parseMethodDescriptor "(Lcom/example/subjectline/subjectline/server/MessageLine;IZII)I" = some ⟨[(.object "com/example/subjectline/subjectline/server/MessageLine"), .int, .boolean, .int, .int], some .int⟩ := by decide +kernel
theorem ef_0 (m : MethodId) (x0 : Int32) (x1 : Int32) (x2 : Int32) (x3 : Int32) (x4 : Int32) (x5 : Int32) : entryFrame m #[(.int x0), (.int x1), (.int x2), (.int x3), (.int x4), (.int x5)] maxLocals = mkF m 0 #[.val (.int x0), .val (.int x1), .val (.int x2), .val (.int x3), .val (.int x4), .val (.int x5), .unset, .unset, .unset, .unset, .unset, .unset, .unset, .unset, .unset, .unset, .unset, .unset] [] := by first | (simp [entryFrame, mkF, argsToLocals, Value.category, maxLocals]; done) | rfl
def Q0 (Z : State) (p0 : Int32) (p1 : Int32) (p2 : Int32) (p3 : Int32) (p4 : Int32) (p5 : Int32) (h0 : Heap) (n0 : Nat) (v : Option Value) (h : Heap) (L : List Loc) : Prop := v = some (.int 1) ∧ Fr n0 L
set_option maxRecDepth 65536 in
set_option maxHeartbeats 40000000 in
theorem rm0 (l : Launch) (Z : State) (a0 : Array Value) (hw : ∀ d ∈ tables_1, d.before a0 Z = true) (ws : List Jvm.Cond) (p0 : Int32) (p1 : Int32) (p2 : Int32) (p3 : Int32) (p4 : Int32) (p5 : Int32) (h0 : Heap) (n0 : Nat) (Z0 : n0 ≤ h0.size) (cs : Int32) (S1 : Sta Z h0 "java/lang/String" "COMPACT_STRINGS" "Z" (.int cs)) (hcs : ¬ cs = 0) :
    MetFree l x (head1 (Jvm.Cond.code x code maxLocals ret :: ws) room_1) (fun aA U => aA = #[(.int p0), (.int p1), (.int p2), (.int p3), (.int p4), (.int p5)] ∧ Z.Warmed39 U.vm ∧ U.heap = h0) (fun _ _ _ _ _ => True) (fun _ U oO U' => ∃ vV LL, oO = .returned vV ∧ Q0 Z p0 p1 p2 p3 p4 p5 h0 n0 vV U'.heap LL ∧ FrameEnd U oO U' LL room_1.cells room_1.slots) := by
  refine MetFree.of_bodySF (plainFor_of_name pn_4) hisR ?_
  intro p e s m args below meth c s₁ Bd hml0 hP hK
  obtain ⟨rfl, hZ, hh⟩ := hP
  have hx := Bd.exec
  have hby := Bd.bytes
  have hml : c.maxLocals = 18 := hml0
  have hown : s.vm.findClass "com/example/subjectline/subjectline/server/MessageLineBegunPinLaw" = some m.cls := findClass_of_methodNamed Bd.named
  have hnm := (name_of_methodNamed Bd.named Bd.method).1
  have X0 : Stand p l e room_1 s m #[(.int p0), (.int p1), (.int p2), (.int p3), (.int p4), (.int p5)] below meth c s₁ [] 0 0 := Stand.of_body Bd
  have e0 : s₁.heap = h0 := by rw [← hh, Bd.state]; rfl
  have N0 := Fr.nil n0
  have K0 : Keep h0 h0 [] := Keep.refl _ _
  have pre0 : Rch p.tables e below (s₁.setTop (entryFrame m #[(.int p0), (.int p1), (.int p2), (.int p3), (.int p4), (.int p5)] maxLocals)) (s₁.setTop (mkF m 0 #[.val (.int p0), .val (.int p1), .val (.int p2), .val (.int p3), .val (.int p4), .val (.int p5), .unset, .unset, .unset, .unset, .unset, .unset, .unset, .unset, .unset, .unset, .unset, .unset] [])) := fun tgt ktg => castTop (ef_0 m p0 p1 p2 p3 p4 p5) ktg
  have pre1 : Rch p.tables e below (s₁.setTop (entryFrame m #[(.int p0), (.int p1), (.int p2), (.int p3), (.int p4), (.int p5)] maxLocals)) (s₁.setTop (mkF m 3 #[.val (.int p0), .val (.int p1), .val (.int p2), .val (.int p3), .val (.int p4), .val (.int p5), .unset, .unset, .unset, .unset, .unset, .unset, .unset, .unset, .unset, .unset, .unset, .unset] [(.int (p3 &&& (3 : Int32)))])) := fun tgt ktg => pre0 tgt (by
    show Steps p.tables e below (s₁.setTop (mkF m 0 #[.val (.int p0), .val (.int p1), .val (.int p2), .val (.int p3), .val (.int p4), .val (.int p5), .unset, .unset, .unset, .unset, .unset, .unset, .unset, .unset, .unset, .unset, .unset, .unset] [])) _
    refine XS.iloadN X0.here hx rfl (hb hby at_0) rfl ?_
    show Steps p.tables e below (s₁.setTop (mkF m 1 #[.val (.int p0), .val (.int p1), .val (.int p2), .val (.int p3), .val (.int p4), .val (.int p5), .unset, .unset, .unset, .unset, .unset, .unset, .unset, .unset, .unset, .unset, .unset, .unset] [(.int p3)])) _
    refine XS.iconst X0.here hx rfl (hb hby at_1) ?_
    show Steps p.tables e below (s₁.setTop (mkF m 2 #[.val (.int p0), .val (.int p1), .val (.int p2), .val (.int p3), .val (.int p4), .val (.int p5), .unset, .unset, .unset, .unset, .unset, .unset, .unset, .unset, .unset, .unset, .unset, .unset] [(.int (3 : Int32)), (.int p3)])) _
    refine XS.iand X0.here hx rfl (hb hby at_2) rfl ?_
    exact ktg)
  obtain ⟨mo, hv_mo⟩ : ∃ nm_ : Int32, nm_ = (p3 &&& (3 : Int32)) := ⟨_, rfl⟩
  have pre2 : Rch p.tables e below (s₁.setTop (entryFrame m #[(.int p0), (.int p1), (.int p2), (.int p3), (.int p4), (.int p5)] maxLocals)) (s₁.setTop (mkF m 3 #[.val (.int p0), .val (.int p1), .val (.int p2), .val (.int p3), .val (.int p4), .val (.int p5), .unset, .unset, .unset, .unset, .unset, .unset, .unset, .unset, .unset, .unset, .unset, .unset] [(.int mo)])) := fun tgt ktg => pre1 tgt (by rw [hv_mo] at ktg; exact ktg)
  have pre3 : Rch p.tables e below (s₁.setTop (entryFrame m #[(.int p0), (.int p1), (.int p2), (.int p3), (.int p4), (.int p5)] maxLocals)) (s₁.setTop (mkF m 9 #[.val (.int p0), .val (.int p1), .val (.int p2), .val (.int p3), .val (.int p4), .val (.int p5), .val (.int mo), .unset, .unset, .unset, .unset, .unset, .unset, .unset, .unset, .unset, .unset, .unset] [(.int (p4 &&& (3 : Int32)))])) := fun tgt ktg => pre2 tgt (by
    show Steps p.tables e below (s₁.setTop (mkF m 3 #[.val (.int p0), .val (.int p1), .val (.int p2), .val (.int p3), .val (.int p4), .val (.int p5), .unset, .unset, .unset, .unset, .unset, .unset, .unset, .unset, .unset, .unset, .unset, .unset] [(.int mo)])) _
    refine XS.istore X0.here hx rfl (hb hby at_3) rfl (l' := #[.val (.int p0), .val (.int p1), .val (.int p2), .val (.int p3), .val (.int p4), .val (.int p5), .val (.int mo), .unset, .unset, .unset, .unset, .unset, .unset, .unset, .unset, .unset, .unset, .unset]) rfl ?_
    show Steps p.tables e below (s₁.setTop (mkF m 5 #[.val (.int p0), .val (.int p1), .val (.int p2), .val (.int p3), .val (.int p4), .val (.int p5), .val (.int mo), .unset, .unset, .unset, .unset, .unset, .unset, .unset, .unset, .unset, .unset, .unset] [])) _
    refine XS.iload X0.here hx rfl (hb hby at_5) rfl ?_
    show Steps p.tables e below (s₁.setTop (mkF m 7 #[.val (.int p0), .val (.int p1), .val (.int p2), .val (.int p3), .val (.int p4), .val (.int p5), .val (.int mo), .unset, .unset, .unset, .unset, .unset, .unset, .unset, .unset, .unset, .unset, .unset] [(.int p4)])) _
    refine XS.iconst X0.here hx rfl (hb hby at_7) ?_
    show Steps p.tables e below (s₁.setTop (mkF m 8 #[.val (.int p0), .val (.int p1), .val (.int p2), .val (.int p3), .val (.int p4), .val (.int p5), .val (.int mo), .unset, .unset, .unset, .unset, .unset, .unset, .unset, .unset, .unset, .unset, .unset] [(.int (3 : Int32)), (.int p4)])) _
    refine XS.iand X0.here hx rfl (hb hby at_8) rfl ?_
    exact ktg)
  obtain ⟨ct, hv_ct⟩ : ∃ nm_ : Int32, nm_ = (p4 &&& (3 : Int32)) := ⟨_, rfl⟩
  have pre4 : Rch p.tables e below (s₁.setTop (entryFrame m #[(.int p0), (.int p1), (.int p2), (.int p3), (.int p4), (.int p5)] maxLocals)) (s₁.setTop (mkF m 9 #[.val (.int p0), .val (.int p1), .val (.int p2), .val (.int p3), .val (.int p4), .val (.int p5), .val (.int mo), .unset, .unset, .unset, .unset, .unset, .unset, .unset, .unset, .unset, .unset, .unset] [(.int ct)])) := fun tgt ktg => pre3 tgt (by rw [hv_ct] at ktg; exact ktg)
  have pre5 : Rch p.tables e below (s₁.setTop (entryFrame m #[(.int p0), (.int p1), (.int p2), (.int p3), (.int p4), (.int p5)] maxLocals)) (s₁.setTop (mkF m 11 #[.val (.int p0), .val (.int p1), .val (.int p2), .val (.int p3), .val (.int p4), .val (.int p5), .val (.int mo), .val (.int ct), .unset, .unset, .unset, .unset, .unset, .unset, .unset, .unset, .unset, .unset] [])) := fun tgt ktg => pre4 tgt (by
    show Steps p.tables e below (s₁.setTop (mkF m 9 #[.val (.int p0), .val (.int p1), .val (.int p2), .val (.int p3), .val (.int p4), .val (.int p5), .val (.int mo), .unset, .unset, .unset, .unset, .unset, .unset, .unset, .unset, .unset, .unset, .unset] [(.int ct)])) _
    refine XS.istore X0.here hx rfl (hb hby at_9) rfl (l' := #[.val (.int p0), .val (.int p1), .val (.int p2), .val (.int p3), .val (.int p4), .val (.int p5), .val (.int mo), .val (.int ct), .unset, .unset, .unset, .unset, .unset, .unset, .unset, .unset, .unset, .unset]) rfl ?_
    exact ktg)
  obtain ⟨cr, hv_cr⟩ : ∃ nm_ : Int32, nm_ = (if (p5 &&& (1 : Int32)) = (0 : Int32) then (0 : Int32) else (1 : Int32)) := ⟨_, rfl⟩
  have pre7 : Rch p.tables e below (s₁.setTop (entryFrame m #[(.int p0), (.int p1), (.int p2), (.int p3), (.int p4), (.int p5)] maxLocals)) (s₁.setTop (mkF m 23 #[.val (.int p0), .val (.int p1), .val (.int p2), .val (.int p3), .val (.int p4), .val (.int p5), .val (.int mo), .val (.int ct), .unset, .unset, .unset, .unset, .unset, .unset, .unset, .unset, .unset, .unset] [(.int cr)])) := fun tgt ktg => pre5 tgt (by
    show Steps p.tables e below (s₁.setTop (mkF m 11 #[.val (.int p0), .val (.int p1), .val (.int p2), .val (.int p3), .val (.int p4), .val (.int p5), .val (.int mo), .val (.int ct), .unset, .unset, .unset, .unset, .unset, .unset, .unset, .unset, .unset, .unset] [])) _
    refine XS.iload X0.here hx rfl (hb hby at_11) rfl ?_
    show Steps p.tables e below (s₁.setTop (mkF m 13 #[.val (.int p0), .val (.int p1), .val (.int p2), .val (.int p3), .val (.int p4), .val (.int p5), .val (.int mo), .val (.int ct), .unset, .unset, .unset, .unset, .unset, .unset, .unset, .unset, .unset, .unset] [(.int p5)])) _
    refine XS.iconst X0.here hx rfl (hb hby at_13) ?_
    show Steps p.tables e below (s₁.setTop (mkF m 14 #[.val (.int p0), .val (.int p1), .val (.int p2), .val (.int p3), .val (.int p4), .val (.int p5), .val (.int mo), .val (.int ct), .unset, .unset, .unset, .unset, .unset, .unset, .unset, .unset, .unset, .unset] [(.int (1 : Int32)), (.int p5)])) _
    refine XS.iand X0.here hx rfl (hb hby at_14) rfl ?_
    by_cases q6 : (p5 &&& (1 : Int32)) = (0 : Int32)
    · skip
      show Steps p.tables e below (s₁.setTop (mkF m 15 #[.val (.int p0), .val (.int p1), .val (.int p2), .val (.int p3), .val (.int p4), .val (.int p5), .val (.int mo), .val (.int ct), .unset, .unset, .unset, .unset, .unset, .unset, .unset, .unset, .unset, .unset] [(.int (p5 &&& (1 : Int32)))])) _
      refine XS.ifYes X0.here hx rfl (pc0 := 15) (pc' := 22) rfl (hb hby at_15) rfl ((if0 _ _).trans (teq q6).1) (by decide) (by decide) ?_
      show Steps p.tables e below (s₁.setTop (mkF m 22 #[.val (.int p0), .val (.int p1), .val (.int p2), .val (.int p3), .val (.int p4), .val (.int p5), .val (.int mo), .val (.int ct), .unset, .unset, .unset, .unset, .unset, .unset, .unset, .unset, .unset, .unset] [])) _
      refine XS.iconst X0.here hx rfl (hb hby at_22) ?_
      have ev_cr : cr = (0 : Int32) := by rw [hv_cr, if_pos q6]
      rw [ev_cr] at ktg
      exact ktg
    · skip
      show Steps p.tables e below (s₁.setTop (mkF m 15 #[.val (.int p0), .val (.int p1), .val (.int p2), .val (.int p3), .val (.int p4), .val (.int p5), .val (.int mo), .val (.int ct), .unset, .unset, .unset, .unset, .unset, .unset, .unset, .unset, .unset, .unset] [(.int (p5 &&& (1 : Int32)))])) _
      refine XS.ifNo X0.here hx rfl (hb hby at_15) rfl ((if0 _ _).trans (feq q6).1) ?_
      show Steps p.tables e below (s₁.setTop (mkF m 18 #[.val (.int p0), .val (.int p1), .val (.int p2), .val (.int p3), .val (.int p4), .val (.int p5), .val (.int mo), .val (.int ct), .unset, .unset, .unset, .unset, .unset, .unset, .unset, .unset, .unset, .unset] [])) _
      refine XS.iconst X0.here hx rfl (hb hby at_18) ?_
      show Steps p.tables e below (s₁.setTop (mkF m 19 #[.val (.int p0), .val (.int p1), .val (.int p2), .val (.int p3), .val (.int p4), .val (.int p5), .val (.int mo), .val (.int ct), .unset, .unset, .unset, .unset, .unset, .unset, .unset, .unset, .unset, .unset] [(.int (1 : Int32))])) _
      refine XS.goto X0.here hx rfl (pc0 := 19) (pc' := 23) rfl (hb hby at_19) (by decide) (by decide) ?_
      have ev_cr : cr = (1 : Int32) := by rw [hv_cr, if_neg q6]
      rw [ev_cr] at ktg
      exact ktg
    done)
  have pre8 : Rch p.tables e below (s₁.setTop (entryFrame m #[(.int p0), (.int p1), (.int p2), (.int p3), (.int p4), (.int p5)] maxLocals)) (s₁.setTop (mkF m 25 #[.val (.int p0), .val (.int p1), .val (.int p2), .val (.int p3), .val (.int p4), .val (.int p5), .val (.int mo), .val (.int ct), .val (.int cr), .unset, .unset, .unset, .unset, .unset, .unset, .unset, .unset, .unset] [])) := fun tgt ktg => pre7 tgt (by
    show Steps p.tables e below (s₁.setTop (mkF m 23 #[.val (.int p0), .val (.int p1), .val (.int p2), .val (.int p3), .val (.int p4), .val (.int p5), .val (.int mo), .val (.int ct), .unset, .unset, .unset, .unset, .unset, .unset, .unset, .unset, .unset, .unset] [(.int cr)])) _
    refine XS.istore X0.here hx rfl (hb hby at_23) rfl (l' := #[.val (.int p0), .val (.int p1), .val (.int p2), .val (.int p3), .val (.int p4), .val (.int p5), .val (.int mo), .val (.int ct), .val (.int cr), .unset, .unset, .unset, .unset, .unset, .unset, .unset, .unset, .unset]) rfl ?_
    exact ktg)
  obtain ⟨lf, hv_lf⟩ : ∃ nm_ : Int32, nm_ = (if (p5 &&& (2 : Int32)) = (0 : Int32) then (0 : Int32) else (1 : Int32)) := ⟨_, rfl⟩
  have pre10 : Rch p.tables e below (s₁.setTop (entryFrame m #[(.int p0), (.int p1), (.int p2), (.int p3), (.int p4), (.int p5)] maxLocals)) (s₁.setTop (mkF m 37 #[.val (.int p0), .val (.int p1), .val (.int p2), .val (.int p3), .val (.int p4), .val (.int p5), .val (.int mo), .val (.int ct), .val (.int cr), .unset, .unset, .unset, .unset, .unset, .unset, .unset, .unset, .unset] [(.int lf)])) := fun tgt ktg => pre8 tgt (by
    show Steps p.tables e below (s₁.setTop (mkF m 25 #[.val (.int p0), .val (.int p1), .val (.int p2), .val (.int p3), .val (.int p4), .val (.int p5), .val (.int mo), .val (.int ct), .val (.int cr), .unset, .unset, .unset, .unset, .unset, .unset, .unset, .unset, .unset] [])) _
    refine XS.iload X0.here hx rfl (hb hby at_25) rfl ?_
    show Steps p.tables e below (s₁.setTop (mkF m 27 #[.val (.int p0), .val (.int p1), .val (.int p2), .val (.int p3), .val (.int p4), .val (.int p5), .val (.int mo), .val (.int ct), .val (.int cr), .unset, .unset, .unset, .unset, .unset, .unset, .unset, .unset, .unset] [(.int p5)])) _
    refine XS.iconst X0.here hx rfl (hb hby at_27) ?_
    show Steps p.tables e below (s₁.setTop (mkF m 28 #[.val (.int p0), .val (.int p1), .val (.int p2), .val (.int p3), .val (.int p4), .val (.int p5), .val (.int mo), .val (.int ct), .val (.int cr), .unset, .unset, .unset, .unset, .unset, .unset, .unset, .unset, .unset] [(.int (2 : Int32)), (.int p5)])) _
    refine XS.iand X0.here hx rfl (hb hby at_28) rfl ?_
    by_cases q9 : (p5 &&& (2 : Int32)) = (0 : Int32)
    · skip
      show Steps p.tables e below (s₁.setTop (mkF m 29 #[.val (.int p0), .val (.int p1), .val (.int p2), .val (.int p3), .val (.int p4), .val (.int p5), .val (.int mo), .val (.int ct), .val (.int cr), .unset, .unset, .unset, .unset, .unset, .unset, .unset, .unset, .unset] [(.int (p5 &&& (2 : Int32)))])) _
      refine XS.ifYes X0.here hx rfl (pc0 := 29) (pc' := 36) rfl (hb hby at_29) rfl ((if0 _ _).trans (teq q9).1) (by decide) (by decide) ?_
      show Steps p.tables e below (s₁.setTop (mkF m 36 #[.val (.int p0), .val (.int p1), .val (.int p2), .val (.int p3), .val (.int p4), .val (.int p5), .val (.int mo), .val (.int ct), .val (.int cr), .unset, .unset, .unset, .unset, .unset, .unset, .unset, .unset, .unset] [])) _
      refine XS.iconst X0.here hx rfl (hb hby at_36) ?_
      have ev_lf : lf = (0 : Int32) := by rw [hv_lf, if_pos q9]
      rw [ev_lf] at ktg
      exact ktg
    · skip
      show Steps p.tables e below (s₁.setTop (mkF m 29 #[.val (.int p0), .val (.int p1), .val (.int p2), .val (.int p3), .val (.int p4), .val (.int p5), .val (.int mo), .val (.int ct), .val (.int cr), .unset, .unset, .unset, .unset, .unset, .unset, .unset, .unset, .unset] [(.int (p5 &&& (2 : Int32)))])) _
      refine XS.ifNo X0.here hx rfl (hb hby at_29) rfl ((if0 _ _).trans (feq q9).1) ?_
      show Steps p.tables e below (s₁.setTop (mkF m 32 #[.val (.int p0), .val (.int p1), .val (.int p2), .val (.int p3), .val (.int p4), .val (.int p5), .val (.int mo), .val (.int ct), .val (.int cr), .unset, .unset, .unset, .unset, .unset, .unset, .unset, .unset, .unset] [])) _
      refine XS.iconst X0.here hx rfl (hb hby at_32) ?_
      show Steps p.tables e below (s₁.setTop (mkF m 33 #[.val (.int p0), .val (.int p1), .val (.int p2), .val (.int p3), .val (.int p4), .val (.int p5), .val (.int mo), .val (.int ct), .val (.int cr), .unset, .unset, .unset, .unset, .unset, .unset, .unset, .unset, .unset] [(.int (1 : Int32))])) _
      refine XS.goto X0.here hx rfl (pc0 := 33) (pc' := 37) rfl (hb hby at_33) (by decide) (by decide) ?_
      have ev_lf : lf = (1 : Int32) := by rw [hv_lf, if_neg q9]
      rw [ev_lf] at ktg
      exact ktg
    done)
  have pre11 : Rch p.tables e below (s₁.setTop (entryFrame m #[(.int p0), (.int p1), (.int p2), (.int p3), (.int p4), (.int p5)] maxLocals)) (s₁.setTop (mkF m 39 #[.val (.int p0), .val (.int p1), .val (.int p2), .val (.int p3), .val (.int p4), .val (.int p5), .val (.int mo), .val (.int ct), .val (.int cr), .val (.int lf), .unset, .unset, .unset, .unset, .unset, .unset, .unset, .unset] [])) := fun tgt ktg => pre10 tgt (by
    show Steps p.tables e below (s₁.setTop (mkF m 37 #[.val (.int p0), .val (.int p1), .val (.int p2), .val (.int p3), .val (.int p4), .val (.int p5), .val (.int mo), .val (.int ct), .val (.int cr), .unset, .unset, .unset, .unset, .unset, .unset, .unset, .unset, .unset] [(.int lf)])) _
    refine XS.istore X0.here hx rfl (hb hby at_37) rfl (l' := #[.val (.int p0), .val (.int p1), .val (.int p2), .val (.int p3), .val (.int p4), .val (.int p5), .val (.int mo), .val (.int ct), .val (.int cr), .val (.int lf), .unset, .unset, .unset, .unset, .unset, .unset, .unset, .unset]) rfl ?_
    exact ktg)
  obtain ⟨T12, h12, X12, e12, E12, A12, D12, U12, st12⟩ := newO X0 hx hZ hown (hw _ (List.mem_of_getElem? (i := 0) rfl)) (hw _ (List.mem_of_getElem? (i := 1) rfl)) (hw _ (List.mem_of_getElem? (i := 2) rfl)) e0 (g := (mkF m 39 #[.val (.int p0), .val (.int p1), .val (.int p2), .val (.int p3), .val (.int p4), .val (.int p5), .val (.int mo), .val (.int ct), .val (.int cr), .val (.int lf), .unset, .unset, .unset, .unset, .unset, .unset, .unset, .unset] [])) rfl (hb hby at_39) (by decide) (by decide)
  obtain ⟨ml, g12⟩ : ∃ nm_, nm_ = h0.size := ⟨_, rfl⟩
  rw [← g12] at A12 D12 U12 st12
  have g_ml : n0 ≤ ml := Nat.le_trans Z0 (Nat.le_of_eq g12.symm)
  have pre12 : Rch p.tables e below (s₁.setTop (entryFrame m #[(.int p0), (.int p1), (.int p2), (.int p3), (.int p4), (.int p5)] maxLocals)) (T12.setTop (mkF m 42 #[.val (.int p0), .val (.int p1), .val (.int p2), .val (.int p3), .val (.int p4), .val (.int p5), .val (.int mo), .val (.int ct), .val (.int cr), .val (.int lf), .unset, .unset, .unset, .unset, .unset, .unset, .unset, .unset] [(.ref ml)])) := fun tgt ktg => pre11 tgt (st12 tgt ktg)
  have f13 : Sta Z h12 "java/lang/String" "COMPACT_STRINGS" "Z" (.int cs) := S1.ext E12
  have z14 : n0 ≤ h12.size := Nat.le_trans Z0 E12.1
  have f15 : Exa Z h12 ml "com/example/subjectline/subjectline/server/MessageLine" := A12
  have f16 : Fld Z h12 ml "com/example/subjectline/subjectline/server/MessageLine" "text" "Ljava/lang/StringBuilder;" .null := D12 (Or.inr (hw _ (List.mem_of_getElem? (i := 30) rfl))) (ty := (.object "java/lang/StringBuilder")) (by decide)
  have f17 : Fld Z h12 ml "com/example/subjectline/subjectline/server/MessageLine" "most" "I" (.int (0 : Int32)) := D12 (Or.inr (hw _ (List.mem_of_getElem? (i := 32) rfl))) (ty := .int) (by decide)
  have f18 : Fld Z h12 ml "com/example/subjectline/subjectline/server/MessageLine" "afterCr" "Z" (.int (0 : Int32)) := D12 (Or.inl (hw _ (List.mem_of_getElem? (i := 39) rfl))) (ty := .boolean) (by decide)
  have pre19 : Rch p.tables e below (s₁.setTop (entryFrame m #[(.int p0), (.int p1), (.int p2), (.int p3), (.int p4), (.int p5)] maxLocals)) (T12.setTop (mkF m 45 #[.val (.int p0), .val (.int p1), .val (.int p2), .val (.int p3), .val (.int p4), .val (.int p5), .val (.int mo), .val (.int ct), .val (.int cr), .val (.int lf), .unset, .unset, .unset, .unset, .unset, .unset, .unset, .unset] [(.int mo), (.ref ml), (.ref ml)])) := fun tgt ktg => pre12 tgt (by
    show Steps p.tables e below (T12.setTop (mkF m 42 #[.val (.int p0), .val (.int p1), .val (.int p2), .val (.int p3), .val (.int p4), .val (.int p5), .val (.int mo), .val (.int ct), .val (.int cr), .val (.int lf), .unset, .unset, .unset, .unset, .unset, .unset, .unset, .unset] [(.ref ml)])) _
    refine XS.dup X12.here hx rfl (hb hby at_42) rfl rfl ?_
    show Steps p.tables e below (T12.setTop (mkF m 43 #[.val (.int p0), .val (.int p1), .val (.int p2), .val (.int p3), .val (.int p4), .val (.int p5), .val (.int mo), .val (.int ct), .val (.int cr), .val (.int lf), .unset, .unset, .unset, .unset, .unset, .unset, .unset, .unset] [(.ref ml), (.ref ml)])) _
    refine XS.iload X12.here hx rfl (hb hby at_43) rfl ?_
    exact ktg)
  obtain ⟨_, _, ⟨T20, L20, k20, n20⟩, -, X20, ⟨Lc20, hQ20, l20, y20, z20⟩, st20⟩ := X12.specialBack hx (y := (⟨"com/example/subjectline/subjectline/server/MessageLine", "<init>", "(I)V"⟩ : MethodName)) rfl hown (mvT hZ (hw _ (List.mem_of_getElem? (i := 3) rfl))) (mvT hZ (hw _ (List.mem_of_getElem? (i := 4) rfl))) (mvT hZ (hw _ (List.mem_of_getElem? (i := 5) rfl))) (by decide) (backOf (W := 1) (rm1 l Z a0 hw [] ml mo cs h12 n0 z14 f15 f16 f17 f18 f13 g_ml hcs) hZ (hw _ (List.mem_of_getElem? (i := 5) rfl)) (hw _ (List.mem_of_getElem? (i := 2) rfl)) (by decide) (by decide)) (g := (mkF m 45 #[.val (.int p0), .val (.int p1), .val (.int p2), .val (.int p3), .val (.int p4), .val (.int p5), .val (.int mo), .val (.int ct), .val (.int cr), .val (.int lf), .unset, .unset, .unset, .unset, .unset, .unset, .unset, .unset] [(.int mo), (.ref ml), (.ref ml)])) rfl (by rw [hml]; rfl) (Steps.refl _) (a := ml) (argsL := [(.int mo)]) (rest := [(.ref ml)]) (lenOf pd_0 rfl) rfl (by show 2 * 0 + _ ≤ _; exact Nat.le_of_eq rfl) (hb hby at_45) (fun _ _ => ⟨rfl, e12, (by decide : 1 + 2 ≤ _), (by decide : 3 + 20 ≤ _)⟩)
  dsimp only [Pt.U, Pt.locs, Pt.cells, Pt.slots] at X20 l20 y20 z20 st20 hQ20
  subst l20 y20 z20
  obtain ⟨sb, va, kv, rfl, Nq20, Kq20, M0, gs, gv⟩ := hQ20
  have N21 := Fr.app N0 Nq20
  have pre20 : Rch p.tables e below (s₁.setTop (entryFrame m #[(.int p0), (.int p1), (.int p2), (.int p3), (.int p4), (.int p5)] maxLocals)) (T20.setTop (mkF m 48 #[.val (.int p0), .val (.int p1), .val (.int p2), .val (.int p3), .val (.int p4), .val (.int p5), .val (.int mo), .val (.int ct), .val (.int cr), .val (.int lf), .unset, .unset, .unset, .unset, .unset, .unset, .unset, .unset] [(.ref ml)])) := fun tgt ktg => pre19 tgt (st20.trans ktg)
  have z22 : n0 ≤ T20.heap.size := Nat.le_trans z14 Kq20.1
  have pre23 : Rch p.tables e below (s₁.setTop (entryFrame m #[(.int p0), (.int p1), (.int p2), (.int p3), (.int p4), (.int p5)] maxLocals)) (T20.setTop (mkF m 52 #[.val (.int p0), .val (.int p1), .val (.int p2), .val (.int p3), .val (.int p4), .val (.int p5), .val (.int mo), .val (.int ct), .val (.int cr), .val (.int lf), .val (.ref ml), .unset, .unset, .unset, .unset, .unset, .unset, .unset] [(.ref ml)])) := fun tgt ktg => pre20 tgt (by
    show Steps p.tables e below (T20.setTop (mkF m 48 #[.val (.int p0), .val (.int p1), .val (.int p2), .val (.int p3), .val (.int p4), .val (.int p5), .val (.int mo), .val (.int ct), .val (.int cr), .val (.int lf), .unset, .unset, .unset, .unset, .unset, .unset, .unset, .unset] [(.ref ml)])) _
    refine XS.astore X20.here hx rfl (hb hby at_48) rfl rfl (l' := #[.val (.int p0), .val (.int p1), .val (.int p2), .val (.int p3), .val (.int p4), .val (.int p5), .val (.int mo), .val (.int ct), .val (.int cr), .val (.int lf), .val (.ref ml), .unset, .unset, .unset, .unset, .unset, .unset, .unset]) rfl ?_
    show Steps p.tables e below (T20.setTop (mkF m 50 #[.val (.int p0), .val (.int p1), .val (.int p2), .val (.int p3), .val (.int p4), .val (.int p5), .val (.int mo), .val (.int ct), .val (.int cr), .val (.int lf), .val (.ref ml), .unset, .unset, .unset, .unset, .unset, .unset, .unset] [])) _
    refine XS.aload X20.here hx rfl (hb hby at_50) rfl rfl ?_
    exact ktg)
  obtain ⟨cq24, kq24, q24a, q24b, q24c⟩ := isOf hZ rfl M0.1
  obtain ⟨_, _, ⟨T24, L24, k24, n24⟩, -, X24, ⟨Lc24, hQ24, l24, y24, z24⟩, st24⟩ := X20.virtualBack hx (y := (⟨"com/example/subjectline/subjectline/server/MessageLine", "begun", "()Z"⟩ : MethodName)) (z := (⟨"com/example/subjectline/subjectline/server/MessageLine", "begun", "()Z"⟩ : MethodName)) hown (mvT hZ (hw _ (List.mem_of_getElem? (i := 33) rfl))) (mvT hZ (hw _ (List.mem_of_getElem? (i := 34) rfl))) (notFace_of_selects (args := #[]) (mvT hZ (hw _ (List.mem_of_getElem? (i := 36) rfl)))) (mvT hZ (hw _ (List.mem_of_getElem? (i := 36) rfl))) (mvT hZ (hw _ (List.mem_of_getElem? (i := 35) rfl))) (by decide) (backOf (W := 0) (rm5 l Z a0 hw [] ml sb va kv (0 : Int32) (0 : Int32) mo cs T20.heap n0 z22 M0) hZ (hw _ (List.mem_of_getElem? (i := 37) rfl)) (hw _ (List.mem_of_getElem? (i := 2) rfl)) (by decide) (by decide)) q24a q24c (g := (mkF m 52 #[.val (.int p0), .val (.int p1), .val (.int p2), .val (.int p3), .val (.int p4), .val (.int p5), .val (.int mo), .val (.int ct), .val (.int cr), .val (.int lf), .val (.ref ml), .unset, .unset, .unset, .unset, .unset, .unset, .unset] [(.ref ml)])) rfl (by rw [hml]; rfl) (Steps.refl _) (argsL := []) (rest := []) (lenOf pd_3 rfl) rfl (by show 2 * 0 + _ ≤ _; exact Nat.le_of_eq rfl) (hb hby at_52) (fun _ _ => ⟨rfl, rfl, (by decide : 3 + 0 ≤ _), (by decide : 23 + 0 ≤ _)⟩)
  dsimp only [Pt.U, Pt.locs, Pt.cells, Pt.slots] at X24 l24 y24 z24 st24 hQ24
  subst l24 y24 z24
  obtain ⟨rfl, Nq24, eh24⟩ := hQ24
  have N25 := Fr.app N21 Nq24
  have pre24 : Rch p.tables e below (s₁.setTop (entryFrame m #[(.int p0), (.int p1), (.int p2), (.int p3), (.int p4), (.int p5)] maxLocals)) (T24.setTop (mkF m 55 #[.val (.int p0), .val (.int p1), .val (.int p2), .val (.int p3), .val (.int p4), .val (.int p5), .val (.int mo), .val (.int ct), .val (.int cr), .val (.int lf), .val (.ref ml), .unset, .unset, .unset, .unset, .unset, .unset, .unset] [(.int (bg (0 : Int32) (0 : Int32)))])) := fun tgt ktg => pre23 tgt (st24.trans ktg)
  have pre26 : Rch p.tables e below (s₁.setTop (entryFrame m #[(.int p0), (.int p1), (.int p2), (.int p3), (.int p4), (.int p5)] maxLocals)) (T24.setTop (mkF m 60 #[.val (.int p0), .val (.int p1), .val (.int p2), .val (.int p3), .val (.int p4), .val (.int p5), .val (.int mo), .val (.int ct), .val (.int cr), .val (.int lf), .val (.ref ml), .val (.int (bg (0 : Int32) (0 : Int32))), .val (.int (0 : Int32)), .unset, .unset, .unset, .unset, .unset] [])) := fun tgt ktg => pre24 tgt (by
    show Steps p.tables e below (T24.setTop (mkF m 55 #[.val (.int p0), .val (.int p1), .val (.int p2), .val (.int p3), .val (.int p4), .val (.int p5), .val (.int mo), .val (.int ct), .val (.int cr), .val (.int lf), .val (.ref ml), .unset, .unset, .unset, .unset, .unset, .unset, .unset] [(.int (bg (0 : Int32) (0 : Int32)))])) _
    refine XS.istore X24.here hx rfl (hb hby at_55) rfl (l' := #[.val (.int p0), .val (.int p1), .val (.int p2), .val (.int p3), .val (.int p4), .val (.int p5), .val (.int mo), .val (.int ct), .val (.int cr), .val (.int lf), .val (.ref ml), .val (.int (bg (0 : Int32) (0 : Int32))), .unset, .unset, .unset, .unset, .unset, .unset]) rfl ?_
    show Steps p.tables e below (T24.setTop (mkF m 57 #[.val (.int p0), .val (.int p1), .val (.int p2), .val (.int p3), .val (.int p4), .val (.int p5), .val (.int mo), .val (.int ct), .val (.int cr), .val (.int lf), .val (.ref ml), .val (.int (bg (0 : Int32) (0 : Int32))), .unset, .unset, .unset, .unset, .unset, .unset] [])) _
    refine XS.iconst X24.here hx rfl (hb hby at_57) ?_
    show Steps p.tables e below (T24.setTop (mkF m 58 #[.val (.int p0), .val (.int p1), .val (.int p2), .val (.int p3), .val (.int p4), .val (.int p5), .val (.int mo), .val (.int ct), .val (.int cr), .val (.int lf), .val (.ref ml), .val (.int (bg (0 : Int32) (0 : Int32))), .unset, .unset, .unset, .unset, .unset, .unset] [(.int (0 : Int32))])) _
    refine XS.istore X24.here hx rfl (hb hby at_58) rfl (l' := #[.val (.int p0), .val (.int p1), .val (.int p2), .val (.int p3), .val (.int p4), .val (.int p5), .val (.int mo), .val (.int ct), .val (.int cr), .val (.int lf), .val (.ref ml), .val (.int (bg (0 : Int32) (0 : Int32))), .val (.int (0 : Int32)), .unset, .unset, .unset, .unset, .unset]) rfl ?_
    exact ktg)
  have pre27 : Rch p.tables e below (s₁.setTop (entryFrame m #[(.int p0), (.int p1), (.int p2), (.int p3), (.int p4), (.int p5)] maxLocals)) (T24.setTop (mkF m 62 #[.val (.int p0), .val (.int p1), .val (.int p2), .val (.int p3), .val (.int p4), .val (.int p5), .val (.int mo), .val (.int ct), .val (.int cr), .val (.int lf), .val (.ref ml), .val (.int (bg (0 : Int32) (0 : Int32))), .val (.int (0 : Int32)), .unset, .unset, .unset, .unset, .unset] [(.ref ml)])) := fun tgt ktg => pre26 tgt (by
    show Steps p.tables e below (T24.setTop (mkF m 60 #[.val (.int p0), .val (.int p1), .val (.int p2), .val (.int p3), .val (.int p4), .val (.int p5), .val (.int mo), .val (.int ct), .val (.int cr), .val (.int lf), .val (.ref ml), .val (.int (bg (0 : Int32) (0 : Int32))), .val (.int (0 : Int32)), .unset, .unset, .unset, .unset, .unset] [])) _
    refine XS.aload X24.here hx rfl (hb hby at_60) rfl rfl ?_
    exact ktg)
  have pre28 : Rch p.tables e below (s₁.setTop (entryFrame m #[(.int p0), (.int p1), (.int p2), (.int p3), (.int p4), (.int p5)] maxLocals)) (T24.setTop (mkF m 67 #[.val (.int p0), .val (.int p1), .val (.int p2), .val (.int p3), .val (.int p4), .val (.int p5), .val (.int mo), .val (.int ct), .val (.int cr), .val (.int lf), .val (.ref ml), .val (.int (bg (0 : Int32) (0 : Int32))), .val (.int (0 : Int32)), .unset, .unset, .unset, .unset, .unset] [(.int (p0 &&& (255 : Int32))), (.ref ml)])) := fun tgt ktg => pre27 tgt (by
    show Steps p.tables e below (T24.setTop (mkF m 62 #[.val (.int p0), .val (.int p1), .val (.int p2), .val (.int p3), .val (.int p4), .val (.int p5), .val (.int mo), .val (.int ct), .val (.int cr), .val (.int lf), .val (.ref ml), .val (.int (bg (0 : Int32) (0 : Int32))), .val (.int (0 : Int32)), .unset, .unset, .unset, .unset, .unset] [(.ref ml)])) _
    refine XS.iloadN X24.here hx rfl (hb hby at_62) rfl ?_
    show Steps p.tables e below (T24.setTop (mkF m 63 #[.val (.int p0), .val (.int p1), .val (.int p2), .val (.int p3), .val (.int p4), .val (.int p5), .val (.int mo), .val (.int ct), .val (.int cr), .val (.int lf), .val (.ref ml), .val (.int (bg (0 : Int32) (0 : Int32))), .val (.int (0 : Int32)), .unset, .unset, .unset, .unset, .unset] [(.int p0), (.ref ml)])) _
    refine XS.sipush X24.here hx rfl (hb hby at_63) ?_
    show Steps p.tables e below (T24.setTop (mkF m 66 #[.val (.int p0), .val (.int p1), .val (.int p2), .val (.int p3), .val (.int p4), .val (.int p5), .val (.int mo), .val (.int ct), .val (.int cr), .val (.int lf), .val (.ref ml), .val (.int (bg (0 : Int32) (0 : Int32))), .val (.int (0 : Int32)), .unset, .unset, .unset, .unset, .unset] [(.int (255 : Int32)), (.int p0), (.ref ml)])) _
    refine XS.iand X24.here hx rfl (hb hby at_66) rfl ?_
    exact ktg)
  obtain ⟨q0, hv_q0⟩ : ∃ nm_ : Int32, nm_ = (p0 &&& (255 : Int32)) := ⟨_, rfl⟩
  have pre29 : Rch p.tables e below (s₁.setTop (entryFrame m #[(.int p0), (.int p1), (.int p2), (.int p3), (.int p4), (.int p5)] maxLocals)) (T24.setTop (mkF m 67 #[.val (.int p0), .val (.int p1), .val (.int p2), .val (.int p3), .val (.int p4), .val (.int p5), .val (.int mo), .val (.int ct), .val (.int cr), .val (.int lf), .val (.ref ml), .val (.int (bg (0 : Int32) (0 : Int32))), .val (.int (0 : Int32)), .unset, .unset, .unset, .unset, .unset] [(.int q0), (.ref ml)])) := fun tgt ktg => pre28 tgt (by rw [hv_q0] at ktg; exact ktg)
  obtain ⟨hq0_0, hq_0⟩ := own_byte hv_q0
  obtain ⟨go0, hv_go0⟩ : ∃ nm_ : Int32, nm_ = (if (0 : Int32) < ct then (1 : Int32) else (0 : Int32)) := ⟨_, rfl⟩
  have pre31 : Rch p.tables e below (s₁.setTop (entryFrame m #[(.int p0), (.int p1), (.int p2), (.int p3), (.int p4), (.int p5)] maxLocals)) (T24.setTop (mkF m 77 #[.val (.int p0), .val (.int p1), .val (.int p2), .val (.int p3), .val (.int p4), .val (.int p5), .val (.int mo), .val (.int ct), .val (.int cr), .val (.int lf), .val (.ref ml), .val (.int (bg (0 : Int32) (0 : Int32))), .val (.int (0 : Int32)), .unset, .unset, .unset, .unset, .unset] [(.int go0), (.int q0), (.ref ml)])) := fun tgt ktg => pre29 tgt (by
    show Steps p.tables e below (T24.setTop (mkF m 67 #[.val (.int p0), .val (.int p1), .val (.int p2), .val (.int p3), .val (.int p4), .val (.int p5), .val (.int mo), .val (.int ct), .val (.int cr), .val (.int lf), .val (.ref ml), .val (.int (bg (0 : Int32) (0 : Int32))), .val (.int (0 : Int32)), .unset, .unset, .unset, .unset, .unset] [(.int q0), (.ref ml)])) _
    refine XS.iload X24.here hx rfl (hb hby at_67) rfl ?_
    by_cases q30 : (0 : Int32) < ct
    · skip
      show Steps p.tables e below (T24.setTop (mkF m 69 #[.val (.int p0), .val (.int p1), .val (.int p2), .val (.int p3), .val (.int p4), .val (.int p5), .val (.int mo), .val (.int ct), .val (.int cr), .val (.int lf), .val (.ref ml), .val (.int (bg (0 : Int32) (0 : Int32))), .val (.int (0 : Int32)), .unset, .unset, .unset, .unset, .unset] [(.int ct), (.int q0), (.ref ml)])) _
      refine XS.ifNo X24.here hx rfl (hb hby at_69) rfl ((if0 _ _).trans (tlt q30).2.2.2) ?_
      show Steps p.tables e below (T24.setTop (mkF m 72 #[.val (.int p0), .val (.int p1), .val (.int p2), .val (.int p3), .val (.int p4), .val (.int p5), .val (.int mo), .val (.int ct), .val (.int cr), .val (.int lf), .val (.ref ml), .val (.int (bg (0 : Int32) (0 : Int32))), .val (.int (0 : Int32)), .unset, .unset, .unset, .unset, .unset] [(.int q0), (.ref ml)])) _
      refine XS.iconst X24.here hx rfl (hb hby at_72) ?_
      show Steps p.tables e below (T24.setTop (mkF m 73 #[.val (.int p0), .val (.int p1), .val (.int p2), .val (.int p3), .val (.int p4), .val (.int p5), .val (.int mo), .val (.int ct), .val (.int cr), .val (.int lf), .val (.ref ml), .val (.int (bg (0 : Int32) (0 : Int32))), .val (.int (0 : Int32)), .unset, .unset, .unset, .unset, .unset] [(.int (1 : Int32)), (.int q0), (.ref ml)])) _
      refine XS.goto X24.here hx rfl (pc0 := 73) (pc' := 77) rfl (hb hby at_73) (by decide) (by decide) ?_
      have ev_go0 : go0 = (1 : Int32) := by rw [hv_go0, if_pos q30]
      rw [ev_go0] at ktg
      exact ktg
    · skip
      show Steps p.tables e below (T24.setTop (mkF m 69 #[.val (.int p0), .val (.int p1), .val (.int p2), .val (.int p3), .val (.int p4), .val (.int p5), .val (.int mo), .val (.int ct), .val (.int cr), .val (.int lf), .val (.ref ml), .val (.int (bg (0 : Int32) (0 : Int32))), .val (.int (0 : Int32)), .unset, .unset, .unset, .unset, .unset] [(.int ct), (.int q0), (.ref ml)])) _
      refine XS.ifYes X24.here hx rfl (pc0 := 69) (pc' := 76) rfl (hb hby at_69) rfl ((if0 _ _).trans (flt q30).2.2.2) (by decide) (by decide) ?_
      show Steps p.tables e below (T24.setTop (mkF m 76 #[.val (.int p0), .val (.int p1), .val (.int p2), .val (.int p3), .val (.int p4), .val (.int p5), .val (.int mo), .val (.int ct), .val (.int cr), .val (.int lf), .val (.ref ml), .val (.int (bg (0 : Int32) (0 : Int32))), .val (.int (0 : Int32)), .unset, .unset, .unset, .unset, .unset] [(.int q0), (.ref ml)])) _
      refine XS.iconst X24.here hx rfl (hb hby at_76) ?_
      have ev_go0 : go0 = (0 : Int32) := by rw [hv_go0, if_neg q30]
      rw [ev_go0] at ktg
      exact ktg
    done)
  have pre32 : Rch p.tables e below (s₁.setTop (entryFrame m #[(.int p0), (.int p1), (.int p2), (.int p3), (.int p4), (.int p5)] maxLocals)) (T24.setTop (mkF m 81 #[.val (.int p0), .val (.int p1), .val (.int p2), .val (.int p3), .val (.int p4), .val (.int p5), .val (.int mo), .val (.int ct), .val (.int cr), .val (.int lf), .val (.ref ml), .val (.int (bg (0 : Int32) (0 : Int32))), .val (.int (0 : Int32)), .unset, .unset, .unset, .unset, .unset] [(.int mo), (.int (0 : Int32)), (.int go0), (.int q0), (.ref ml)])) := fun tgt ktg => pre31 tgt (by
    show Steps p.tables e below (T24.setTop (mkF m 77 #[.val (.int p0), .val (.int p1), .val (.int p2), .val (.int p3), .val (.int p4), .val (.int p5), .val (.int mo), .val (.int ct), .val (.int cr), .val (.int lf), .val (.ref ml), .val (.int (bg (0 : Int32) (0 : Int32))), .val (.int (0 : Int32)), .unset, .unset, .unset, .unset, .unset] [(.int go0), (.int q0), (.ref ml)])) _
    refine XS.iload X24.here hx rfl (hb hby at_77) rfl ?_
    show Steps p.tables e below (T24.setTop (mkF m 79 #[.val (.int p0), .val (.int p1), .val (.int p2), .val (.int p3), .val (.int p4), .val (.int p5), .val (.int mo), .val (.int ct), .val (.int cr), .val (.int lf), .val (.ref ml), .val (.int (bg (0 : Int32) (0 : Int32))), .val (.int (0 : Int32)), .unset, .unset, .unset, .unset, .unset] [(.int (0 : Int32)), (.int go0), (.int q0), (.ref ml)])) _
    refine XS.iload X24.here hx rfl (hb hby at_79) rfl ?_
    exact ktg)
  have hn_0 : ¬ (0 : Int32) < 0 ∧ (0 : Int32) < (1 : Int32) := ⟨by decide, by decide⟩
  obtain ⟨_, _, ⟨T33, L33, k33, n33⟩, -, X33, ⟨Lc33, hQ33, l33, y33, z33⟩, st33⟩ := Jvm.LawKit.callS X24 hx (y := (⟨"com/example/subjectline/subjectline/server/MessageLineBegunPinLaw", "step", "(Lcom/example/subjectline/subjectline/server/MessageLine;IZII)I"⟩ : MethodName)) hown (mvT hZ (hw _ (List.mem_of_getElem? (i := 52) rfl))) (mvT hZ (hw _ (List.mem_of_getElem? (i := 53) rfl))) (mvT hZ (hw _ (List.mem_of_getElem? (i := 54) rfl))) (mvT hZ (hw _ (List.mem_of_getElem? (i := 55) rfl))) (by decide) (backOf (W := 0) (rm8 l Z a0 hw [] ml q0 go0 (0 : Int32) mo sb va kv cs T20.heap n0 z22 M0 g_ml gs gv hq0_0 hq_0 (own_15 hn_0 (by decide)) hcs) hZ (hw _ (List.mem_of_getElem? (i := 55) rfl)) (hw _ (List.mem_of_getElem? (i := 54) rfl)) (by decide) (by decide)) (g := (mkF m 81 #[.val (.int p0), .val (.int p1), .val (.int p2), .val (.int p3), .val (.int p4), .val (.int p5), .val (.int mo), .val (.int ct), .val (.int cr), .val (.int lf), .val (.ref ml), .val (.int (bg (0 : Int32) (0 : Int32))), .val (.int (0 : Int32)), .unset, .unset, .unset, .unset, .unset] [(.int mo), (.int (0 : Int32)), (.int go0), (.int q0), (.ref ml)])) rfl (by rw [hml]; rfl) (argsL := [(.ref ml), (.int q0), (.int go0), (.int (0 : Int32)), (.int mo)]) (rest := []) (lenOf pd_8 rfl) rfl (by show 2 * 0 + _ ≤ _; exact Nat.le_of_eq rfl) (hb hby at_81) (fun _ _ => ⟨rfl, eh24, (by decide : 3 + 0 ≤ _), (by decide : 23 + 0 ≤ _)⟩)
  dsimp only [Pt.U, Pt.locs, Pt.cells, Pt.slots] at X33 l33 y33 z33 st33 hQ33
  subst l33 y33 z33
  obtain ⟨rfl, Nq33, Kq33, M1⟩ := hQ33
  have N34 := Fr.app N25 Nq33
  have pre33 : Rch p.tables e below (s₁.setTop (entryFrame m #[(.int p0), (.int p1), (.int p2), (.int p3), (.int p4), (.int p5)] maxLocals)) (T33.setTop (mkF m 84 #[.val (.int p0), .val (.int p1), .val (.int p2), .val (.int p3), .val (.int p4), .val (.int p5), .val (.int mo), .val (.int ct), .val (.int cr), .val (.int lf), .val (.ref ml), .val (.int (bg (0 : Int32) (0 : Int32))), .val (.int (0 : Int32)), .unset, .unset, .unset, .unset, .unset] [(.int (stp q0 go0 (0 : Int32) mo))])) := fun tgt ktg => pre32 tgt (st33 tgt ktg)
  have f35 : Exa Z T33.heap ml "com/example/subjectline/subjectline/server/MessageLine" := M0.1.keep Kq33
  have z36 : n0 ≤ T33.heap.size := Nat.le_trans z22 Kq33.1
  have M1' := M1
  obtain ⟨t1, hv_t1⟩ : ∃ nm_ : Int32, nm_ = (stp q0 go0 (0 : Int32) mo) := ⟨_, rfl⟩
  have pre37 : Rch p.tables e below (s₁.setTop (entryFrame m #[(.int p0), (.int p1), (.int p2), (.int p3), (.int p4), (.int p5)] maxLocals)) (T33.setTop (mkF m 84 #[.val (.int p0), .val (.int p1), .val (.int p2), .val (.int p3), .val (.int p4), .val (.int p5), .val (.int mo), .val (.int ct), .val (.int cr), .val (.int lf), .val (.ref ml), .val (.int (bg (0 : Int32) (0 : Int32))), .val (.int (0 : Int32)), .unset, .unset, .unset, .unset, .unset] [(.int t1)])) := fun tgt ktg => pre33 tgt (by rw [hv_t1] at ktg; exact ktg)
  rw [← hv_t1] at M1'
  have pre38 : Rch p.tables e below (s₁.setTop (entryFrame m #[(.int p0), (.int p1), (.int p2), (.int p3), (.int p4), (.int p5)] maxLocals)) (T33.setTop (mkF m 92 #[.val (.int p0), .val (.int p1), .val (.int p2), .val (.int p3), .val (.int p4), .val (.int p5), .val (.int mo), .val (.int ct), .val (.int cr), .val (.int lf), .val (.ref ml), .val (.int (bg (0 : Int32) (0 : Int32))), .val (.int t1), .val (.int t1), .unset, .unset, .unset, .unset] [(.ref ml)])) := fun tgt ktg => pre37 tgt (by
    show Steps p.tables e below (T33.setTop (mkF m 84 #[.val (.int p0), .val (.int p1), .val (.int p2), .val (.int p3), .val (.int p4), .val (.int p5), .val (.int mo), .val (.int ct), .val (.int cr), .val (.int lf), .val (.ref ml), .val (.int (bg (0 : Int32) (0 : Int32))), .val (.int (0 : Int32)), .unset, .unset, .unset, .unset, .unset] [(.int t1)])) _
    refine XS.istore X33.here hx rfl (hb hby at_84) rfl (l' := #[.val (.int p0), .val (.int p1), .val (.int p2), .val (.int p3), .val (.int p4), .val (.int p5), .val (.int mo), .val (.int ct), .val (.int cr), .val (.int lf), .val (.ref ml), .val (.int (bg (0 : Int32) (0 : Int32))), .val (.int t1), .unset, .unset, .unset, .unset, .unset]) rfl ?_
    show Steps p.tables e below (T33.setTop (mkF m 86 #[.val (.int p0), .val (.int p1), .val (.int p2), .val (.int p3), .val (.int p4), .val (.int p5), .val (.int mo), .val (.int ct), .val (.int cr), .val (.int lf), .val (.ref ml), .val (.int (bg (0 : Int32) (0 : Int32))), .val (.int t1), .unset, .unset, .unset, .unset, .unset] [])) _
    refine XS.iload X33.here hx rfl (hb hby at_86) rfl ?_
    show Steps p.tables e below (T33.setTop (mkF m 88 #[.val (.int p0), .val (.int p1), .val (.int p2), .val (.int p3), .val (.int p4), .val (.int p5), .val (.int mo), .val (.int ct), .val (.int cr), .val (.int lf), .val (.ref ml), .val (.int (bg (0 : Int32) (0 : Int32))), .val (.int t1), .unset, .unset, .unset, .unset, .unset] [(.int t1)])) _
    refine XS.istore X33.here hx rfl (hb hby at_88) rfl (l' := #[.val (.int p0), .val (.int p1), .val (.int p2), .val (.int p3), .val (.int p4), .val (.int p5), .val (.int mo), .val (.int ct), .val (.int cr), .val (.int lf), .val (.ref ml), .val (.int (bg (0 : Int32) (0 : Int32))), .val (.int t1), .val (.int t1), .unset, .unset, .unset, .unset]) rfl ?_
    show Steps p.tables e below (T33.setTop (mkF m 90 #[.val (.int p0), .val (.int p1), .val (.int p2), .val (.int p3), .val (.int p4), .val (.int p5), .val (.int mo), .val (.int ct), .val (.int cr), .val (.int lf), .val (.ref ml), .val (.int (bg (0 : Int32) (0 : Int32))), .val (.int t1), .val (.int t1), .unset, .unset, .unset, .unset] [])) _
    refine XS.aload X33.here hx rfl (hb hby at_90) rfl rfl ?_
    exact ktg)
  obtain ⟨cq39, kq39, q39a, q39b, q39c⟩ := isOf hZ rfl M1'.1
  obtain ⟨_, _, ⟨T39, L39, k39, n39⟩, -, X39, ⟨Lc39, hQ39, l39, y39, z39⟩, st39⟩ := X33.virtualBack hx (y := (⟨"com/example/subjectline/subjectline/server/MessageLine", "begun", "()Z"⟩ : MethodName)) (z := (⟨"com/example/subjectline/subjectline/server/MessageLine", "begun", "()Z"⟩ : MethodName)) hown (mvT hZ (hw _ (List.mem_of_getElem? (i := 33) rfl))) (mvT hZ (hw _ (List.mem_of_getElem? (i := 34) rfl))) (notFace_of_selects (args := #[]) (mvT hZ (hw _ (List.mem_of_getElem? (i := 36) rfl)))) (mvT hZ (hw _ (List.mem_of_getElem? (i := 36) rfl))) (mvT hZ (hw _ (List.mem_of_getElem? (i := 35) rfl))) (by decide) (backOf (W := 0) (rm5 l Z a0 hw [] ml sb va kv (0 : Int32) t1 mo cs T33.heap n0 z36 M1') hZ (hw _ (List.mem_of_getElem? (i := 37) rfl)) (hw _ (List.mem_of_getElem? (i := 2) rfl)) (by decide) (by decide)) q39a q39c (g := (mkF m 92 #[.val (.int p0), .val (.int p1), .val (.int p2), .val (.int p3), .val (.int p4), .val (.int p5), .val (.int mo), .val (.int ct), .val (.int cr), .val (.int lf), .val (.ref ml), .val (.int (bg (0 : Int32) (0 : Int32))), .val (.int t1), .val (.int t1), .unset, .unset, .unset, .unset] [(.ref ml)])) rfl (by rw [hml]; rfl) (Steps.refl _) (argsL := []) (rest := []) (lenOf pd_3 rfl) rfl (by show 2 * 0 + _ ≤ _; exact Nat.le_of_eq rfl) (hb hby at_92) (fun _ _ => ⟨rfl, rfl, (by decide : 3 + 0 ≤ _), (by decide : 23 + 0 ≤ _)⟩)
  dsimp only [Pt.U, Pt.locs, Pt.cells, Pt.slots] at X39 l39 y39 z39 st39 hQ39
  subst l39 y39 z39
  obtain ⟨rfl, Nq39, eh39⟩ := hQ39
  have N40 := Fr.app N34 Nq39
  have pre39 : Rch p.tables e below (s₁.setTop (entryFrame m #[(.int p0), (.int p1), (.int p2), (.int p3), (.int p4), (.int p5)] maxLocals)) (T39.setTop (mkF m 95 #[.val (.int p0), .val (.int p1), .val (.int p2), .val (.int p3), .val (.int p4), .val (.int p5), .val (.int mo), .val (.int ct), .val (.int cr), .val (.int lf), .val (.ref ml), .val (.int (bg (0 : Int32) (0 : Int32))), .val (.int t1), .val (.int t1), .unset, .unset, .unset, .unset] [(.int (bg (0 : Int32) t1))])) := fun tgt ktg => pre38 tgt (st39.trans ktg)
  have pre41 : Rch p.tables e below (s₁.setTop (entryFrame m #[(.int p0), (.int p1), (.int p2), (.int p3), (.int p4), (.int p5)] maxLocals)) (T39.setTop (mkF m 97 #[.val (.int p0), .val (.int p1), .val (.int p2), .val (.int p3), .val (.int p4), .val (.int p5), .val (.int mo), .val (.int ct), .val (.int cr), .val (.int lf), .val (.ref ml), .val (.int (bg (0 : Int32) (0 : Int32))), .val (.int t1), .val (.int t1), .val (.int (bg (0 : Int32) t1)), .unset, .unset, .unset] [])) := fun tgt ktg => pre39 tgt (by
    show Steps p.tables e below (T39.setTop (mkF m 95 #[.val (.int p0), .val (.int p1), .val (.int p2), .val (.int p3), .val (.int p4), .val (.int p5), .val (.int mo), .val (.int ct), .val (.int cr), .val (.int lf), .val (.ref ml), .val (.int (bg (0 : Int32) (0 : Int32))), .val (.int t1), .val (.int t1), .unset, .unset, .unset, .unset] [(.int (bg (0 : Int32) t1))])) _
    refine XS.istore X39.here hx rfl (hb hby at_95) rfl (l' := #[.val (.int p0), .val (.int p1), .val (.int p2), .val (.int p3), .val (.int p4), .val (.int p5), .val (.int mo), .val (.int ct), .val (.int cr), .val (.int lf), .val (.ref ml), .val (.int (bg (0 : Int32) (0 : Int32))), .val (.int t1), .val (.int t1), .val (.int (bg (0 : Int32) t1)), .unset, .unset, .unset]) rfl ?_
    exact ktg)
  have pre42 : Rch p.tables e below (s₁.setTop (entryFrame m #[(.int p0), (.int p1), (.int p2), (.int p3), (.int p4), (.int p5)] maxLocals)) (T39.setTop (mkF m 99 #[.val (.int p0), .val (.int p1), .val (.int p2), .val (.int p3), .val (.int p4), .val (.int p5), .val (.int mo), .val (.int ct), .val (.int cr), .val (.int lf), .val (.ref ml), .val (.int (bg (0 : Int32) (0 : Int32))), .val (.int t1), .val (.int t1), .val (.int (bg (0 : Int32) t1)), .unset, .unset, .unset] [(.ref ml)])) := fun tgt ktg => pre41 tgt (by
    show Steps p.tables e below (T39.setTop (mkF m 97 #[.val (.int p0), .val (.int p1), .val (.int p2), .val (.int p3), .val (.int p4), .val (.int p5), .val (.int mo), .val (.int ct), .val (.int cr), .val (.int lf), .val (.ref ml), .val (.int (bg (0 : Int32) (0 : Int32))), .val (.int t1), .val (.int t1), .val (.int (bg (0 : Int32) t1)), .unset, .unset, .unset] [])) _
    refine XS.aload X39.here hx rfl (hb hby at_97) rfl rfl ?_
    exact ktg)
  have pre43 : Rch p.tables e below (s₁.setTop (entryFrame m #[(.int p0), (.int p1), (.int p2), (.int p3), (.int p4), (.int p5)] maxLocals)) (T39.setTop (mkF m 104 #[.val (.int p0), .val (.int p1), .val (.int p2), .val (.int p3), .val (.int p4), .val (.int p5), .val (.int mo), .val (.int ct), .val (.int cr), .val (.int lf), .val (.ref ml), .val (.int (bg (0 : Int32) (0 : Int32))), .val (.int t1), .val (.int t1), .val (.int (bg (0 : Int32) t1)), .unset, .unset, .unset] [(.int (p1 &&& (255 : Int32))), (.ref ml)])) := fun tgt ktg => pre42 tgt (by
    show Steps p.tables e below (T39.setTop (mkF m 99 #[.val (.int p0), .val (.int p1), .val (.int p2), .val (.int p3), .val (.int p4), .val (.int p5), .val (.int mo), .val (.int ct), .val (.int cr), .val (.int lf), .val (.ref ml), .val (.int (bg (0 : Int32) (0 : Int32))), .val (.int t1), .val (.int t1), .val (.int (bg (0 : Int32) t1)), .unset, .unset, .unset] [(.ref ml)])) _
    refine XS.iloadN X39.here hx rfl (hb hby at_99) rfl ?_
    show Steps p.tables e below (T39.setTop (mkF m 100 #[.val (.int p0), .val (.int p1), .val (.int p2), .val (.int p3), .val (.int p4), .val (.int p5), .val (.int mo), .val (.int ct), .val (.int cr), .val (.int lf), .val (.ref ml), .val (.int (bg (0 : Int32) (0 : Int32))), .val (.int t1), .val (.int t1), .val (.int (bg (0 : Int32) t1)), .unset, .unset, .unset] [(.int p1), (.ref ml)])) _
    refine XS.sipush X39.here hx rfl (hb hby at_100) ?_
    show Steps p.tables e below (T39.setTop (mkF m 103 #[.val (.int p0), .val (.int p1), .val (.int p2), .val (.int p3), .val (.int p4), .val (.int p5), .val (.int mo), .val (.int ct), .val (.int cr), .val (.int lf), .val (.ref ml), .val (.int (bg (0 : Int32) (0 : Int32))), .val (.int t1), .val (.int t1), .val (.int (bg (0 : Int32) t1)), .unset, .unset, .unset] [(.int (255 : Int32)), (.int p1), (.ref ml)])) _
    refine XS.iand X39.here hx rfl (hb hby at_103) rfl ?_
    exact ktg)
  obtain ⟨q1, hv_q1⟩ : ∃ nm_ : Int32, nm_ = (p1 &&& (255 : Int32)) := ⟨_, rfl⟩
  have pre44 : Rch p.tables e below (s₁.setTop (entryFrame m #[(.int p0), (.int p1), (.int p2), (.int p3), (.int p4), (.int p5)] maxLocals)) (T39.setTop (mkF m 104 #[.val (.int p0), .val (.int p1), .val (.int p2), .val (.int p3), .val (.int p4), .val (.int p5), .val (.int mo), .val (.int ct), .val (.int cr), .val (.int lf), .val (.ref ml), .val (.int (bg (0 : Int32) (0 : Int32))), .val (.int t1), .val (.int t1), .val (.int (bg (0 : Int32) t1)), .unset, .unset, .unset] [(.int q1), (.ref ml)])) := fun tgt ktg => pre43 tgt (by rw [hv_q1] at ktg; exact ktg)
  obtain ⟨hq0_1, hq_1⟩ := own_byte hv_q1
  obtain ⟨go1, hv_go1⟩ : ∃ nm_ : Int32, nm_ = (if (1 : Int32) < ct then (1 : Int32) else (0 : Int32)) := ⟨_, rfl⟩
  have pre46 : Rch p.tables e below (s₁.setTop (entryFrame m #[(.int p0), (.int p1), (.int p2), (.int p3), (.int p4), (.int p5)] maxLocals)) (T39.setTop (mkF m 115 #[.val (.int p0), .val (.int p1), .val (.int p2), .val (.int p3), .val (.int p4), .val (.int p5), .val (.int mo), .val (.int ct), .val (.int cr), .val (.int lf), .val (.ref ml), .val (.int (bg (0 : Int32) (0 : Int32))), .val (.int t1), .val (.int t1), .val (.int (bg (0 : Int32) t1)), .unset, .unset, .unset] [(.int go1), (.int q1), (.ref ml)])) := fun tgt ktg => pre44 tgt (by
    show Steps p.tables e below (T39.setTop (mkF m 104 #[.val (.int p0), .val (.int p1), .val (.int p2), .val (.int p3), .val (.int p4), .val (.int p5), .val (.int mo), .val (.int ct), .val (.int cr), .val (.int lf), .val (.ref ml), .val (.int (bg (0 : Int32) (0 : Int32))), .val (.int t1), .val (.int t1), .val (.int (bg (0 : Int32) t1)), .unset, .unset, .unset] [(.int q1), (.ref ml)])) _
    refine XS.iload X39.here hx rfl (hb hby at_104) rfl ?_
    show Steps p.tables e below (T39.setTop (mkF m 106 #[.val (.int p0), .val (.int p1), .val (.int p2), .val (.int p3), .val (.int p4), .val (.int p5), .val (.int mo), .val (.int ct), .val (.int cr), .val (.int lf), .val (.ref ml), .val (.int (bg (0 : Int32) (0 : Int32))), .val (.int t1), .val (.int t1), .val (.int (bg (0 : Int32) t1)), .unset, .unset, .unset] [(.int ct), (.int q1), (.ref ml)])) _
    refine XS.iconst X39.here hx rfl (hb hby at_106) ?_
    by_cases q45 : (1 : Int32) < ct
    · skip
      show Steps p.tables e below (T39.setTop (mkF m 107 #[.val (.int p0), .val (.int p1), .val (.int p2), .val (.int p3), .val (.int p4), .val (.int p5), .val (.int mo), .val (.int ct), .val (.int cr), .val (.int lf), .val (.ref ml), .val (.int (bg (0 : Int32) (0 : Int32))), .val (.int t1), .val (.int t1), .val (.int (bg (0 : Int32) t1)), .unset, .unset, .unset] [(.int (1 : Int32)), (.int ct), (.int q1), (.ref ml)])) _
      refine XS.icmpNo X39.here hx rfl (hb hby at_107) rfl (tlt q45).2.2.2 ?_
      show Steps p.tables e below (T39.setTop (mkF m 110 #[.val (.int p0), .val (.int p1), .val (.int p2), .val (.int p3), .val (.int p4), .val (.int p5), .val (.int mo), .val (.int ct), .val (.int cr), .val (.int lf), .val (.ref ml), .val (.int (bg (0 : Int32) (0 : Int32))), .val (.int t1), .val (.int t1), .val (.int (bg (0 : Int32) t1)), .unset, .unset, .unset] [(.int q1), (.ref ml)])) _
      refine XS.iconst X39.here hx rfl (hb hby at_110) ?_
      show Steps p.tables e below (T39.setTop (mkF m 111 #[.val (.int p0), .val (.int p1), .val (.int p2), .val (.int p3), .val (.int p4), .val (.int p5), .val (.int mo), .val (.int ct), .val (.int cr), .val (.int lf), .val (.ref ml), .val (.int (bg (0 : Int32) (0 : Int32))), .val (.int t1), .val (.int t1), .val (.int (bg (0 : Int32) t1)), .unset, .unset, .unset] [(.int (1 : Int32)), (.int q1), (.ref ml)])) _
      refine XS.goto X39.here hx rfl (pc0 := 111) (pc' := 115) rfl (hb hby at_111) (by decide) (by decide) ?_
      have ev_go1 : go1 = (1 : Int32) := by rw [hv_go1, if_pos q45]
      rw [ev_go1] at ktg
      exact ktg
    · skip
      show Steps p.tables e below (T39.setTop (mkF m 107 #[.val (.int p0), .val (.int p1), .val (.int p2), .val (.int p3), .val (.int p4), .val (.int p5), .val (.int mo), .val (.int ct), .val (.int cr), .val (.int lf), .val (.ref ml), .val (.int (bg (0 : Int32) (0 : Int32))), .val (.int t1), .val (.int t1), .val (.int (bg (0 : Int32) t1)), .unset, .unset, .unset] [(.int (1 : Int32)), (.int ct), (.int q1), (.ref ml)])) _
      refine XS.icmpYes X39.here hx rfl (pc0 := 107) (pc' := 114) rfl (hb hby at_107) rfl (flt q45).2.2.2 (by decide) (by decide) ?_
      show Steps p.tables e below (T39.setTop (mkF m 114 #[.val (.int p0), .val (.int p1), .val (.int p2), .val (.int p3), .val (.int p4), .val (.int p5), .val (.int mo), .val (.int ct), .val (.int cr), .val (.int lf), .val (.ref ml), .val (.int (bg (0 : Int32) (0 : Int32))), .val (.int t1), .val (.int t1), .val (.int (bg (0 : Int32) t1)), .unset, .unset, .unset] [(.int q1), (.ref ml)])) _
      refine XS.iconst X39.here hx rfl (hb hby at_114) ?_
      have ev_go1 : go1 = (0 : Int32) := by rw [hv_go1, if_neg q45]
      rw [ev_go1] at ktg
      exact ktg
    done)
  have pre47 : Rch p.tables e below (s₁.setTop (entryFrame m #[(.int p0), (.int p1), (.int p2), (.int p3), (.int p4), (.int p5)] maxLocals)) (T39.setTop (mkF m 119 #[.val (.int p0), .val (.int p1), .val (.int p2), .val (.int p3), .val (.int p4), .val (.int p5), .val (.int mo), .val (.int ct), .val (.int cr), .val (.int lf), .val (.ref ml), .val (.int (bg (0 : Int32) (0 : Int32))), .val (.int t1), .val (.int t1), .val (.int (bg (0 : Int32) t1)), .unset, .unset, .unset] [(.int mo), (.int t1), (.int go1), (.int q1), (.ref ml)])) := fun tgt ktg => pre46 tgt (by
    show Steps p.tables e below (T39.setTop (mkF m 115 #[.val (.int p0), .val (.int p1), .val (.int p2), .val (.int p3), .val (.int p4), .val (.int p5), .val (.int mo), .val (.int ct), .val (.int cr), .val (.int lf), .val (.ref ml), .val (.int (bg (0 : Int32) (0 : Int32))), .val (.int t1), .val (.int t1), .val (.int (bg (0 : Int32) t1)), .unset, .unset, .unset] [(.int go1), (.int q1), (.ref ml)])) _
    refine XS.iload X39.here hx rfl (hb hby at_115) rfl ?_
    show Steps p.tables e below (T39.setTop (mkF m 117 #[.val (.int p0), .val (.int p1), .val (.int p2), .val (.int p3), .val (.int p4), .val (.int p5), .val (.int mo), .val (.int ct), .val (.int cr), .val (.int lf), .val (.ref ml), .val (.int (bg (0 : Int32) (0 : Int32))), .val (.int t1), .val (.int t1), .val (.int (bg (0 : Int32) t1)), .unset, .unset, .unset] [(.int t1), (.int go1), (.int q1), (.ref ml)])) _
    refine XS.iload X39.here hx rfl (hb hby at_117) rfl ?_
    exact ktg)
  have hn_1 : ¬ t1 < 0 ∧ t1 < (2 : Int32) := own_stp (b := (1 : Int32)) (by decide) hn_0 hv_t1
  obtain ⟨_, _, ⟨T48, L48, k48, n48⟩, -, X48, ⟨Lc48, hQ48, l48, y48, z48⟩, st48⟩ := Jvm.LawKit.callS X39 hx (y := (⟨"com/example/subjectline/subjectline/server/MessageLineBegunPinLaw", "step", "(Lcom/example/subjectline/subjectline/server/MessageLine;IZII)I"⟩ : MethodName)) hown (mvT hZ (hw _ (List.mem_of_getElem? (i := 52) rfl))) (mvT hZ (hw _ (List.mem_of_getElem? (i := 53) rfl))) (mvT hZ (hw _ (List.mem_of_getElem? (i := 54) rfl))) (mvT hZ (hw _ (List.mem_of_getElem? (i := 55) rfl))) (by decide) (backOf (W := 0) (rm8 l Z a0 hw [] ml q1 go1 t1 mo sb va kv cs T33.heap n0 z36 M1' g_ml gs gv hq0_1 hq_1 (own_15 hn_1 (by decide)) hcs) hZ (hw _ (List.mem_of_getElem? (i := 55) rfl)) (hw _ (List.mem_of_getElem? (i := 54) rfl)) (by decide) (by decide)) (g := (mkF m 119 #[.val (.int p0), .val (.int p1), .val (.int p2), .val (.int p3), .val (.int p4), .val (.int p5), .val (.int mo), .val (.int ct), .val (.int cr), .val (.int lf), .val (.ref ml), .val (.int (bg (0 : Int32) (0 : Int32))), .val (.int t1), .val (.int t1), .val (.int (bg (0 : Int32) t1)), .unset, .unset, .unset] [(.int mo), (.int t1), (.int go1), (.int q1), (.ref ml)])) rfl (by rw [hml]; rfl) (argsL := [(.ref ml), (.int q1), (.int go1), (.int t1), (.int mo)]) (rest := []) (lenOf pd_8 rfl) rfl (by show 2 * 0 + _ ≤ _; exact Nat.le_of_eq rfl) (hb hby at_119) (fun _ _ => ⟨rfl, eh39, (by decide : 3 + 0 ≤ _), (by decide : 23 + 0 ≤ _)⟩)
  dsimp only [Pt.U, Pt.locs, Pt.cells, Pt.slots] at X48 l48 y48 z48 st48 hQ48
  subst l48 y48 z48
  obtain ⟨rfl, Nq48, Kq48, M2⟩ := hQ48
  have N49 := Fr.app N40 Nq48
  have pre48 : Rch p.tables e below (s₁.setTop (entryFrame m #[(.int p0), (.int p1), (.int p2), (.int p3), (.int p4), (.int p5)] maxLocals)) (T48.setTop (mkF m 122 #[.val (.int p0), .val (.int p1), .val (.int p2), .val (.int p3), .val (.int p4), .val (.int p5), .val (.int mo), .val (.int ct), .val (.int cr), .val (.int lf), .val (.ref ml), .val (.int (bg (0 : Int32) (0 : Int32))), .val (.int t1), .val (.int t1), .val (.int (bg (0 : Int32) t1)), .unset, .unset, .unset] [(.int (stp q1 go1 t1 mo))])) := fun tgt ktg => pre47 tgt (st48 tgt ktg)
  have f50 : Exa Z T48.heap ml "com/example/subjectline/subjectline/server/MessageLine" := M1'.1.keep Kq48
  have z51 : n0 ≤ T48.heap.size := Nat.le_trans z36 Kq48.1
  have M2' := M2
  obtain ⟨t2, hv_t2⟩ : ∃ nm_ : Int32, nm_ = (stp q1 go1 t1 mo) := ⟨_, rfl⟩
  have pre52 : Rch p.tables e below (s₁.setTop (entryFrame m #[(.int p0), (.int p1), (.int p2), (.int p3), (.int p4), (.int p5)] maxLocals)) (T48.setTop (mkF m 122 #[.val (.int p0), .val (.int p1), .val (.int p2), .val (.int p3), .val (.int p4), .val (.int p5), .val (.int mo), .val (.int ct), .val (.int cr), .val (.int lf), .val (.ref ml), .val (.int (bg (0 : Int32) (0 : Int32))), .val (.int t1), .val (.int t1), .val (.int (bg (0 : Int32) t1)), .unset, .unset, .unset] [(.int t2)])) := fun tgt ktg => pre48 tgt (by rw [hv_t2] at ktg; exact ktg)
  rw [← hv_t2] at M2'
  have pre53 : Rch p.tables e below (s₁.setTop (entryFrame m #[(.int p0), (.int p1), (.int p2), (.int p3), (.int p4), (.int p5)] maxLocals)) (T48.setTop (mkF m 124 #[.val (.int p0), .val (.int p1), .val (.int p2), .val (.int p3), .val (.int p4), .val (.int p5), .val (.int mo), .val (.int ct), .val (.int cr), .val (.int lf), .val (.ref ml), .val (.int (bg (0 : Int32) (0 : Int32))), .val (.int t2), .val (.int t1), .val (.int (bg (0 : Int32) t1)), .unset, .unset, .unset] [])) := fun tgt ktg => pre52 tgt (by
    show Steps p.tables e below (T48.setTop (mkF m 122 #[.val (.int p0), .val (.int p1), .val (.int p2), .val (.int p3), .val (.int p4), .val (.int p5), .val (.int mo), .val (.int ct), .val (.int cr), .val (.int lf), .val (.ref ml), .val (.int (bg (0 : Int32) (0 : Int32))), .val (.int t1), .val (.int t1), .val (.int (bg (0 : Int32) t1)), .unset, .unset, .unset] [(.int t2)])) _
    refine XS.istore X48.here hx rfl (hb hby at_122) rfl (l' := #[.val (.int p0), .val (.int p1), .val (.int p2), .val (.int p3), .val (.int p4), .val (.int p5), .val (.int mo), .val (.int ct), .val (.int cr), .val (.int lf), .val (.ref ml), .val (.int (bg (0 : Int32) (0 : Int32))), .val (.int t2), .val (.int t1), .val (.int (bg (0 : Int32) t1)), .unset, .unset, .unset]) rfl ?_
    exact ktg)
  have pre54 : Rch p.tables e below (s₁.setTop (entryFrame m #[(.int p0), (.int p1), (.int p2), (.int p3), (.int p4), (.int p5)] maxLocals)) (T48.setTop (mkF m 126 #[.val (.int p0), .val (.int p1), .val (.int p2), .val (.int p3), .val (.int p4), .val (.int p5), .val (.int mo), .val (.int ct), .val (.int cr), .val (.int lf), .val (.ref ml), .val (.int (bg (0 : Int32) (0 : Int32))), .val (.int t2), .val (.int t1), .val (.int (bg (0 : Int32) t1)), .unset, .unset, .unset] [(.ref ml)])) := fun tgt ktg => pre53 tgt (by
    show Steps p.tables e below (T48.setTop (mkF m 124 #[.val (.int p0), .val (.int p1), .val (.int p2), .val (.int p3), .val (.int p4), .val (.int p5), .val (.int mo), .val (.int ct), .val (.int cr), .val (.int lf), .val (.ref ml), .val (.int (bg (0 : Int32) (0 : Int32))), .val (.int t2), .val (.int t1), .val (.int (bg (0 : Int32) t1)), .unset, .unset, .unset] [])) _
    refine XS.aload X48.here hx rfl (hb hby at_124) rfl rfl ?_
    exact ktg)
  have pre55 : Rch p.tables e below (s₁.setTop (entryFrame m #[(.int p0), (.int p1), (.int p2), (.int p3), (.int p4), (.int p5)] maxLocals)) (T48.setTop (mkF m 131 #[.val (.int p0), .val (.int p1), .val (.int p2), .val (.int p3), .val (.int p4), .val (.int p5), .val (.int mo), .val (.int ct), .val (.int cr), .val (.int lf), .val (.ref ml), .val (.int (bg (0 : Int32) (0 : Int32))), .val (.int t2), .val (.int t1), .val (.int (bg (0 : Int32) t1)), .unset, .unset, .unset] [(.int (p2 &&& (255 : Int32))), (.ref ml)])) := fun tgt ktg => pre54 tgt (by
    show Steps p.tables e below (T48.setTop (mkF m 126 #[.val (.int p0), .val (.int p1), .val (.int p2), .val (.int p3), .val (.int p4), .val (.int p5), .val (.int mo), .val (.int ct), .val (.int cr), .val (.int lf), .val (.ref ml), .val (.int (bg (0 : Int32) (0 : Int32))), .val (.int t2), .val (.int t1), .val (.int (bg (0 : Int32) t1)), .unset, .unset, .unset] [(.ref ml)])) _
    refine XS.iloadN X48.here hx rfl (hb hby at_126) rfl ?_
    show Steps p.tables e below (T48.setTop (mkF m 127 #[.val (.int p0), .val (.int p1), .val (.int p2), .val (.int p3), .val (.int p4), .val (.int p5), .val (.int mo), .val (.int ct), .val (.int cr), .val (.int lf), .val (.ref ml), .val (.int (bg (0 : Int32) (0 : Int32))), .val (.int t2), .val (.int t1), .val (.int (bg (0 : Int32) t1)), .unset, .unset, .unset] [(.int p2), (.ref ml)])) _
    refine XS.sipush X48.here hx rfl (hb hby at_127) ?_
    show Steps p.tables e below (T48.setTop (mkF m 130 #[.val (.int p0), .val (.int p1), .val (.int p2), .val (.int p3), .val (.int p4), .val (.int p5), .val (.int mo), .val (.int ct), .val (.int cr), .val (.int lf), .val (.ref ml), .val (.int (bg (0 : Int32) (0 : Int32))), .val (.int t2), .val (.int t1), .val (.int (bg (0 : Int32) t1)), .unset, .unset, .unset] [(.int (255 : Int32)), (.int p2), (.ref ml)])) _
    refine XS.iand X48.here hx rfl (hb hby at_130) rfl ?_
    exact ktg)
  obtain ⟨q2, hv_q2⟩ : ∃ nm_ : Int32, nm_ = (p2 &&& (255 : Int32)) := ⟨_, rfl⟩
  have pre56 : Rch p.tables e below (s₁.setTop (entryFrame m #[(.int p0), (.int p1), (.int p2), (.int p3), (.int p4), (.int p5)] maxLocals)) (T48.setTop (mkF m 131 #[.val (.int p0), .val (.int p1), .val (.int p2), .val (.int p3), .val (.int p4), .val (.int p5), .val (.int mo), .val (.int ct), .val (.int cr), .val (.int lf), .val (.ref ml), .val (.int (bg (0 : Int32) (0 : Int32))), .val (.int t2), .val (.int t1), .val (.int (bg (0 : Int32) t1)), .unset, .unset, .unset] [(.int q2), (.ref ml)])) := fun tgt ktg => pre55 tgt (by rw [hv_q2] at ktg; exact ktg)
  obtain ⟨hq0_2, hq_2⟩ := own_byte hv_q2
  obtain ⟨go2, hv_go2⟩ : ∃ nm_ : Int32, nm_ = (if (2 : Int32) < ct then (1 : Int32) else (0 : Int32)) := ⟨_, rfl⟩
  have pre58 : Rch p.tables e below (s₁.setTop (entryFrame m #[(.int p0), (.int p1), (.int p2), (.int p3), (.int p4), (.int p5)] maxLocals)) (T48.setTop (mkF m 142 #[.val (.int p0), .val (.int p1), .val (.int p2), .val (.int p3), .val (.int p4), .val (.int p5), .val (.int mo), .val (.int ct), .val (.int cr), .val (.int lf), .val (.ref ml), .val (.int (bg (0 : Int32) (0 : Int32))), .val (.int t2), .val (.int t1), .val (.int (bg (0 : Int32) t1)), .unset, .unset, .unset] [(.int go2), (.int q2), (.ref ml)])) := fun tgt ktg => pre56 tgt (by
    show Steps p.tables e below (T48.setTop (mkF m 131 #[.val (.int p0), .val (.int p1), .val (.int p2), .val (.int p3), .val (.int p4), .val (.int p5), .val (.int mo), .val (.int ct), .val (.int cr), .val (.int lf), .val (.ref ml), .val (.int (bg (0 : Int32) (0 : Int32))), .val (.int t2), .val (.int t1), .val (.int (bg (0 : Int32) t1)), .unset, .unset, .unset] [(.int q2), (.ref ml)])) _
    refine XS.iload X48.here hx rfl (hb hby at_131) rfl ?_
    show Steps p.tables e below (T48.setTop (mkF m 133 #[.val (.int p0), .val (.int p1), .val (.int p2), .val (.int p3), .val (.int p4), .val (.int p5), .val (.int mo), .val (.int ct), .val (.int cr), .val (.int lf), .val (.ref ml), .val (.int (bg (0 : Int32) (0 : Int32))), .val (.int t2), .val (.int t1), .val (.int (bg (0 : Int32) t1)), .unset, .unset, .unset] [(.int ct), (.int q2), (.ref ml)])) _
    refine XS.iconst X48.here hx rfl (hb hby at_133) ?_
    by_cases q57 : (2 : Int32) < ct
    · skip
      show Steps p.tables e below (T48.setTop (mkF m 134 #[.val (.int p0), .val (.int p1), .val (.int p2), .val (.int p3), .val (.int p4), .val (.int p5), .val (.int mo), .val (.int ct), .val (.int cr), .val (.int lf), .val (.ref ml), .val (.int (bg (0 : Int32) (0 : Int32))), .val (.int t2), .val (.int t1), .val (.int (bg (0 : Int32) t1)), .unset, .unset, .unset] [(.int (2 : Int32)), (.int ct), (.int q2), (.ref ml)])) _
      refine XS.icmpNo X48.here hx rfl (hb hby at_134) rfl (tlt q57).2.2.2 ?_
      show Steps p.tables e below (T48.setTop (mkF m 137 #[.val (.int p0), .val (.int p1), .val (.int p2), .val (.int p3), .val (.int p4), .val (.int p5), .val (.int mo), .val (.int ct), .val (.int cr), .val (.int lf), .val (.ref ml), .val (.int (bg (0 : Int32) (0 : Int32))), .val (.int t2), .val (.int t1), .val (.int (bg (0 : Int32) t1)), .unset, .unset, .unset] [(.int q2), (.ref ml)])) _
      refine XS.iconst X48.here hx rfl (hb hby at_137) ?_
      show Steps p.tables e below (T48.setTop (mkF m 138 #[.val (.int p0), .val (.int p1), .val (.int p2), .val (.int p3), .val (.int p4), .val (.int p5), .val (.int mo), .val (.int ct), .val (.int cr), .val (.int lf), .val (.ref ml), .val (.int (bg (0 : Int32) (0 : Int32))), .val (.int t2), .val (.int t1), .val (.int (bg (0 : Int32) t1)), .unset, .unset, .unset] [(.int (1 : Int32)), (.int q2), (.ref ml)])) _
      refine XS.goto X48.here hx rfl (pc0 := 138) (pc' := 142) rfl (hb hby at_138) (by decide) (by decide) ?_
      have ev_go2 : go2 = (1 : Int32) := by rw [hv_go2, if_pos q57]
      rw [ev_go2] at ktg
      exact ktg
    · skip
      show Steps p.tables e below (T48.setTop (mkF m 134 #[.val (.int p0), .val (.int p1), .val (.int p2), .val (.int p3), .val (.int p4), .val (.int p5), .val (.int mo), .val (.int ct), .val (.int cr), .val (.int lf), .val (.ref ml), .val (.int (bg (0 : Int32) (0 : Int32))), .val (.int t2), .val (.int t1), .val (.int (bg (0 : Int32) t1)), .unset, .unset, .unset] [(.int (2 : Int32)), (.int ct), (.int q2), (.ref ml)])) _
      refine XS.icmpYes X48.here hx rfl (pc0 := 134) (pc' := 141) rfl (hb hby at_134) rfl (flt q57).2.2.2 (by decide) (by decide) ?_
      show Steps p.tables e below (T48.setTop (mkF m 141 #[.val (.int p0), .val (.int p1), .val (.int p2), .val (.int p3), .val (.int p4), .val (.int p5), .val (.int mo), .val (.int ct), .val (.int cr), .val (.int lf), .val (.ref ml), .val (.int (bg (0 : Int32) (0 : Int32))), .val (.int t2), .val (.int t1), .val (.int (bg (0 : Int32) t1)), .unset, .unset, .unset] [(.int q2), (.ref ml)])) _
      refine XS.iconst X48.here hx rfl (hb hby at_141) ?_
      have ev_go2 : go2 = (0 : Int32) := by rw [hv_go2, if_neg q57]
      rw [ev_go2] at ktg
      exact ktg
    done)
  have pre59 : Rch p.tables e below (s₁.setTop (entryFrame m #[(.int p0), (.int p1), (.int p2), (.int p3), (.int p4), (.int p5)] maxLocals)) (T48.setTop (mkF m 146 #[.val (.int p0), .val (.int p1), .val (.int p2), .val (.int p3), .val (.int p4), .val (.int p5), .val (.int mo), .val (.int ct), .val (.int cr), .val (.int lf), .val (.ref ml), .val (.int (bg (0 : Int32) (0 : Int32))), .val (.int t2), .val (.int t1), .val (.int (bg (0 : Int32) t1)), .unset, .unset, .unset] [(.int mo), (.int t2), (.int go2), (.int q2), (.ref ml)])) := fun tgt ktg => pre58 tgt (by
    show Steps p.tables e below (T48.setTop (mkF m 142 #[.val (.int p0), .val (.int p1), .val (.int p2), .val (.int p3), .val (.int p4), .val (.int p5), .val (.int mo), .val (.int ct), .val (.int cr), .val (.int lf), .val (.ref ml), .val (.int (bg (0 : Int32) (0 : Int32))), .val (.int t2), .val (.int t1), .val (.int (bg (0 : Int32) t1)), .unset, .unset, .unset] [(.int go2), (.int q2), (.ref ml)])) _
    refine XS.iload X48.here hx rfl (hb hby at_142) rfl ?_
    show Steps p.tables e below (T48.setTop (mkF m 144 #[.val (.int p0), .val (.int p1), .val (.int p2), .val (.int p3), .val (.int p4), .val (.int p5), .val (.int mo), .val (.int ct), .val (.int cr), .val (.int lf), .val (.ref ml), .val (.int (bg (0 : Int32) (0 : Int32))), .val (.int t2), .val (.int t1), .val (.int (bg (0 : Int32) t1)), .unset, .unset, .unset] [(.int t2), (.int go2), (.int q2), (.ref ml)])) _
    refine XS.iload X48.here hx rfl (hb hby at_144) rfl ?_
    exact ktg)
  have hn_2 : ¬ t2 < 0 ∧ t2 < (3 : Int32) := own_stp (b := (2 : Int32)) (by decide) hn_1 hv_t2
  obtain ⟨_, _, ⟨T60, L60, k60, n60⟩, -, X60, ⟨Lc60, hQ60, l60, y60, z60⟩, st60⟩ := Jvm.LawKit.callS X48 hx (y := (⟨"com/example/subjectline/subjectline/server/MessageLineBegunPinLaw", "step", "(Lcom/example/subjectline/subjectline/server/MessageLine;IZII)I"⟩ : MethodName)) hown (mvT hZ (hw _ (List.mem_of_getElem? (i := 52) rfl))) (mvT hZ (hw _ (List.mem_of_getElem? (i := 53) rfl))) (mvT hZ (hw _ (List.mem_of_getElem? (i := 54) rfl))) (mvT hZ (hw _ (List.mem_of_getElem? (i := 55) rfl))) (by decide) (backOf (W := 0) (rm8 l Z a0 hw [] ml q2 go2 t2 mo sb va kv cs T48.heap n0 z51 M2' g_ml gs gv hq0_2 hq_2 (own_15 hn_2 (by decide)) hcs) hZ (hw _ (List.mem_of_getElem? (i := 55) rfl)) (hw _ (List.mem_of_getElem? (i := 54) rfl)) (by decide) (by decide)) (g := (mkF m 146 #[.val (.int p0), .val (.int p1), .val (.int p2), .val (.int p3), .val (.int p4), .val (.int p5), .val (.int mo), .val (.int ct), .val (.int cr), .val (.int lf), .val (.ref ml), .val (.int (bg (0 : Int32) (0 : Int32))), .val (.int t2), .val (.int t1), .val (.int (bg (0 : Int32) t1)), .unset, .unset, .unset] [(.int mo), (.int t2), (.int go2), (.int q2), (.ref ml)])) rfl (by rw [hml]; rfl) (argsL := [(.ref ml), (.int q2), (.int go2), (.int t2), (.int mo)]) (rest := []) (lenOf pd_8 rfl) rfl (by show 2 * 0 + _ ≤ _; exact Nat.le_of_eq rfl) (hb hby at_146) (fun _ _ => ⟨rfl, rfl, (by decide : 3 + 0 ≤ _), (by decide : 23 + 0 ≤ _)⟩)
  dsimp only [Pt.U, Pt.locs, Pt.cells, Pt.slots] at X60 l60 y60 z60 st60 hQ60
  subst l60 y60 z60
  obtain ⟨rfl, Nq60, Kq60, M3⟩ := hQ60
  have N61 := Fr.app N49 Nq60
  have pre60 : Rch p.tables e below (s₁.setTop (entryFrame m #[(.int p0), (.int p1), (.int p2), (.int p3), (.int p4), (.int p5)] maxLocals)) (T60.setTop (mkF m 149 #[.val (.int p0), .val (.int p1), .val (.int p2), .val (.int p3), .val (.int p4), .val (.int p5), .val (.int mo), .val (.int ct), .val (.int cr), .val (.int lf), .val (.ref ml), .val (.int (bg (0 : Int32) (0 : Int32))), .val (.int t2), .val (.int t1), .val (.int (bg (0 : Int32) t1)), .unset, .unset, .unset] [(.int (stp q2 go2 t2 mo))])) := fun tgt ktg => pre59 tgt (st60 tgt ktg)
  have f62 : Exa Z T60.heap ml "com/example/subjectline/subjectline/server/MessageLine" := M2'.1.keep Kq60
  have z63 : n0 ≤ T60.heap.size := Nat.le_trans z51 Kq60.1
  have M3' := M3
  obtain ⟨t3, hv_t3⟩ : ∃ nm_ : Int32, nm_ = (stp q2 go2 t2 mo) := ⟨_, rfl⟩
  have pre64 : Rch p.tables e below (s₁.setTop (entryFrame m #[(.int p0), (.int p1), (.int p2), (.int p3), (.int p4), (.int p5)] maxLocals)) (T60.setTop (mkF m 149 #[.val (.int p0), .val (.int p1), .val (.int p2), .val (.int p3), .val (.int p4), .val (.int p5), .val (.int mo), .val (.int ct), .val (.int cr), .val (.int lf), .val (.ref ml), .val (.int (bg (0 : Int32) (0 : Int32))), .val (.int t2), .val (.int t1), .val (.int (bg (0 : Int32) t1)), .unset, .unset, .unset] [(.int t3)])) := fun tgt ktg => pre60 tgt (by rw [hv_t3] at ktg; exact ktg)
  rw [← hv_t3] at M3'
  have pre65 : Rch p.tables e below (s₁.setTop (entryFrame m #[(.int p0), (.int p1), (.int p2), (.int p3), (.int p4), (.int p5)] maxLocals)) (T60.setTop (mkF m 153 #[.val (.int p0), .val (.int p1), .val (.int p2), .val (.int p3), .val (.int p4), .val (.int p5), .val (.int mo), .val (.int ct), .val (.int cr), .val (.int lf), .val (.ref ml), .val (.int (bg (0 : Int32) (0 : Int32))), .val (.int t3), .val (.int t1), .val (.int (bg (0 : Int32) t1)), .unset, .unset, .unset] [(.int cr)])) := fun tgt ktg => pre64 tgt (by
    show Steps p.tables e below (T60.setTop (mkF m 149 #[.val (.int p0), .val (.int p1), .val (.int p2), .val (.int p3), .val (.int p4), .val (.int p5), .val (.int mo), .val (.int ct), .val (.int cr), .val (.int lf), .val (.ref ml), .val (.int (bg (0 : Int32) (0 : Int32))), .val (.int t2), .val (.int t1), .val (.int (bg (0 : Int32) t1)), .unset, .unset, .unset] [(.int t3)])) _
    refine XS.istore X60.here hx rfl (hb hby at_149) rfl (l' := #[.val (.int p0), .val (.int p1), .val (.int p2), .val (.int p3), .val (.int p4), .val (.int p5), .val (.int mo), .val (.int ct), .val (.int cr), .val (.int lf), .val (.ref ml), .val (.int (bg (0 : Int32) (0 : Int32))), .val (.int t3), .val (.int t1), .val (.int (bg (0 : Int32) t1)), .unset, .unset, .unset]) rfl ?_
    show Steps p.tables e below (T60.setTop (mkF m 151 #[.val (.int p0), .val (.int p1), .val (.int p2), .val (.int p3), .val (.int p4), .val (.int p5), .val (.int mo), .val (.int ct), .val (.int cr), .val (.int lf), .val (.ref ml), .val (.int (bg (0 : Int32) (0 : Int32))), .val (.int t3), .val (.int t1), .val (.int (bg (0 : Int32) t1)), .unset, .unset, .unset] [])) _
    refine XS.iload X60.here hx rfl (hb hby at_151) rfl ?_
    exact ktg)
  by_cases c66 : cr = (0 : Int32)
  · skip
    have pre67 : Rch p.tables e below (s₁.setTop (entryFrame m #[(.int p0), (.int p1), (.int p2), (.int p3), (.int p4), (.int p5)] maxLocals)) (T60.setTop (mkF m 164 #[.val (.int p0), .val (.int p1), .val (.int p2), .val (.int p3), .val (.int p4), .val (.int p5), .val (.int mo), .val (.int ct), .val (.int cr), .val (.int lf), .val (.ref ml), .val (.int (bg (0 : Int32) (0 : Int32))), .val (.int t3), .val (.int t1), .val (.int (bg (0 : Int32) t1)), .unset, .unset, .unset] [])) := fun tgt ktg => pre65 tgt (by
      show Steps p.tables e below (T60.setTop (mkF m 153 #[.val (.int p0), .val (.int p1), .val (.int p2), .val (.int p3), .val (.int p4), .val (.int p5), .val (.int mo), .val (.int ct), .val (.int cr), .val (.int lf), .val (.ref ml), .val (.int (bg (0 : Int32) (0 : Int32))), .val (.int t3), .val (.int t1), .val (.int (bg (0 : Int32) t1)), .unset, .unset, .unset] [(.int cr)])) _
      refine XS.ifYes X60.here hx rfl (pc0 := 153) (pc' := 164) rfl (hb hby at_153) rfl ((if0 _ _).trans (teq c66).1) (by decide) (by decide) ?_
      exact ktg)
    have pre68 : Rch p.tables e below (s₁.setTop (entryFrame m #[(.int p0), (.int p1), (.int p2), (.int p3), (.int p4), (.int p5)] maxLocals)) (T60.setTop (mkF m 166 #[.val (.int p0), .val (.int p1), .val (.int p2), .val (.int p3), .val (.int p4), .val (.int p5), .val (.int mo), .val (.int ct), .val (.int cr), .val (.int lf), .val (.ref ml), .val (.int (bg (0 : Int32) (0 : Int32))), .val (.int t3), .val (.int t1), .val (.int (bg (0 : Int32) t1)), .unset, .unset, .unset] [(.ref ml)])) := fun tgt ktg => pre67 tgt (by
      show Steps p.tables e below (T60.setTop (mkF m 164 #[.val (.int p0), .val (.int p1), .val (.int p2), .val (.int p3), .val (.int p4), .val (.int p5), .val (.int mo), .val (.int ct), .val (.int cr), .val (.int lf), .val (.ref ml), .val (.int (bg (0 : Int32) (0 : Int32))), .val (.int t3), .val (.int t1), .val (.int (bg (0 : Int32) t1)), .unset, .unset, .unset] [])) _
      refine XS.aload X60.here hx rfl (hb hby at_164) rfl rfl ?_
      exact ktg)
    obtain ⟨cq69, kq69, q69a, q69b, q69c⟩ := isOf hZ rfl M3'.1
    obtain ⟨_, _, ⟨T69, L69, k69, n69⟩, -, X69, ⟨Lc69, hQ69, l69, y69, z69⟩, st69⟩ := X60.virtualBack hx (y := (⟨"com/example/subjectline/subjectline/server/MessageLine", "begun", "()Z"⟩ : MethodName)) (z := (⟨"com/example/subjectline/subjectline/server/MessageLine", "begun", "()Z"⟩ : MethodName)) hown (mvT hZ (hw _ (List.mem_of_getElem? (i := 33) rfl))) (mvT hZ (hw _ (List.mem_of_getElem? (i := 34) rfl))) (notFace_of_selects (args := #[]) (mvT hZ (hw _ (List.mem_of_getElem? (i := 36) rfl)))) (mvT hZ (hw _ (List.mem_of_getElem? (i := 36) rfl))) (mvT hZ (hw _ (List.mem_of_getElem? (i := 35) rfl))) (by decide) (backOf (W := 0) (rm5 l Z a0 hw [] ml sb va kv (0 : Int32) t3 mo cs T60.heap n0 z63 M3') hZ (hw _ (List.mem_of_getElem? (i := 37) rfl)) (hw _ (List.mem_of_getElem? (i := 2) rfl)) (by decide) (by decide)) q69a q69c (g := (mkF m 166 #[.val (.int p0), .val (.int p1), .val (.int p2), .val (.int p3), .val (.int p4), .val (.int p5), .val (.int mo), .val (.int ct), .val (.int cr), .val (.int lf), .val (.ref ml), .val (.int (bg (0 : Int32) (0 : Int32))), .val (.int t3), .val (.int t1), .val (.int (bg (0 : Int32) t1)), .unset, .unset, .unset] [(.ref ml)])) rfl (by rw [hml]; rfl) (Steps.refl _) (argsL := []) (rest := []) (lenOf pd_3 rfl) rfl (by show 2 * 0 + _ ≤ _; exact Nat.le_of_eq rfl) (hb hby at_166) (fun _ _ => ⟨rfl, rfl, (by decide : 3 + 0 ≤ _), (by decide : 23 + 0 ≤ _)⟩)
    dsimp only [Pt.U, Pt.locs, Pt.cells, Pt.slots] at X69 l69 y69 z69 st69 hQ69
    subst l69 y69 z69
    obtain ⟨rfl, Nq69, eh69⟩ := hQ69
    have N70 := Fr.app N61 Nq69
    have pre69 : Rch p.tables e below (s₁.setTop (entryFrame m #[(.int p0), (.int p1), (.int p2), (.int p3), (.int p4), (.int p5)] maxLocals)) (T69.setTop (mkF m 169 #[.val (.int p0), .val (.int p1), .val (.int p2), .val (.int p3), .val (.int p4), .val (.int p5), .val (.int mo), .val (.int ct), .val (.int cr), .val (.int lf), .val (.ref ml), .val (.int (bg (0 : Int32) (0 : Int32))), .val (.int t3), .val (.int t1), .val (.int (bg (0 : Int32) t1)), .unset, .unset, .unset] [(.int (bg (0 : Int32) t3))])) := fun tgt ktg => pre68 tgt (st69.trans ktg)
    have pre71 : Rch p.tables e below (s₁.setTop (entryFrame m #[(.int p0), (.int p1), (.int p2), (.int p3), (.int p4), (.int p5)] maxLocals)) (T69.setTop (mkF m 171 #[.val (.int p0), .val (.int p1), .val (.int p2), .val (.int p3), .val (.int p4), .val (.int p5), .val (.int mo), .val (.int ct), .val (.int cr), .val (.int lf), .val (.ref ml), .val (.int (bg (0 : Int32) (0 : Int32))), .val (.int t3), .val (.int t1), .val (.int (bg (0 : Int32) t1)), .val (.int (bg (0 : Int32) t3)), .unset, .unset] [])) := fun tgt ktg => pre69 tgt (by
      show Steps p.tables e below (T69.setTop (mkF m 169 #[.val (.int p0), .val (.int p1), .val (.int p2), .val (.int p3), .val (.int p4), .val (.int p5), .val (.int mo), .val (.int ct), .val (.int cr), .val (.int lf), .val (.ref ml), .val (.int (bg (0 : Int32) (0 : Int32))), .val (.int t3), .val (.int t1), .val (.int (bg (0 : Int32) t1)), .unset, .unset, .unset] [(.int (bg (0 : Int32) t3))])) _
      refine XS.istore X69.here hx rfl (hb hby at_169) rfl (l' := #[.val (.int p0), .val (.int p1), .val (.int p2), .val (.int p3), .val (.int p4), .val (.int p5), .val (.int mo), .val (.int ct), .val (.int cr), .val (.int lf), .val (.ref ml), .val (.int (bg (0 : Int32) (0 : Int32))), .val (.int t3), .val (.int t1), .val (.int (bg (0 : Int32) t1)), .val (.int (bg (0 : Int32) t3)), .unset, .unset]) rfl ?_
      exact ktg)
    obtain ⟨v73, hv_v73⟩ : ∃ nm_ : Int32, nm_ = (if (0 : Int32) < t3 then (1 : Int32) else (0 : Int32)) := ⟨_, rfl⟩
    have pre74 : Rch p.tables e below (s₁.setTop (entryFrame m #[(.int p0), (.int p1), (.int p2), (.int p3), (.int p4), (.int p5)] maxLocals)) (T69.setTop (mkF m 186 #[.val (.int p0), .val (.int p1), .val (.int p2), .val (.int p3), .val (.int p4), .val (.int p5), .val (.int mo), .val (.int ct), .val (.int cr), .val (.int lf), .val (.ref ml), .val (.int (bg (0 : Int32) (0 : Int32))), .val (.int t3), .val (.int t1), .val (.int (bg (0 : Int32) t1)), .val (.int (bg (0 : Int32) t3)), .unset, .unset] [(.int v73)])) := fun tgt ktg => pre71 tgt (by
      show Steps p.tables e below (T69.setTop (mkF m 171 #[.val (.int p0), .val (.int p1), .val (.int p2), .val (.int p3), .val (.int p4), .val (.int p5), .val (.int mo), .val (.int ct), .val (.int cr), .val (.int lf), .val (.ref ml), .val (.int (bg (0 : Int32) (0 : Int32))), .val (.int t3), .val (.int t1), .val (.int (bg (0 : Int32) t1)), .val (.int (bg (0 : Int32) t3)), .unset, .unset] [])) _
      refine XS.iload X69.here hx rfl (hb hby at_171) rfl ?_
      by_cases q72 : (0 : Int32) < t3
      · skip
        show Steps p.tables e below (T69.setTop (mkF m 173 #[.val (.int p0), .val (.int p1), .val (.int p2), .val (.int p3), .val (.int p4), .val (.int p5), .val (.int mo), .val (.int ct), .val (.int cr), .val (.int lf), .val (.ref ml), .val (.int (bg (0 : Int32) (0 : Int32))), .val (.int t3), .val (.int t1), .val (.int (bg (0 : Int32) t1)), .val (.int (bg (0 : Int32) t3)), .unset, .unset] [(.int t3)])) _
        refine XS.ifYes X69.here hx rfl (pc0 := 173) (pc' := 181) rfl (hb hby at_173) rfl ((if0 _ _).trans (tlt q72).2.2.1) (by decide) (by decide) ?_
        show Steps p.tables e below (T69.setTop (mkF m 181 #[.val (.int p0), .val (.int p1), .val (.int p2), .val (.int p3), .val (.int p4), .val (.int p5), .val (.int mo), .val (.int ct), .val (.int cr), .val (.int lf), .val (.ref ml), .val (.int (bg (0 : Int32) (0 : Int32))), .val (.int t3), .val (.int t1), .val (.int (bg (0 : Int32) t1)), .val (.int (bg (0 : Int32) t3)), .unset, .unset] [])) _
        refine XS.iconst X69.here hx rfl (hb hby at_181) ?_
        show Steps p.tables e below (T69.setTop (mkF m 182 #[.val (.int p0), .val (.int p1), .val (.int p2), .val (.int p3), .val (.int p4), .val (.int p5), .val (.int mo), .val (.int ct), .val (.int cr), .val (.int lf), .val (.ref ml), .val (.int (bg (0 : Int32) (0 : Int32))), .val (.int t3), .val (.int t1), .val (.int (bg (0 : Int32) t1)), .val (.int (bg (0 : Int32) t3)), .unset, .unset] [(.int (1 : Int32))])) _
        refine XS.goto X69.here hx rfl (pc0 := 182) (pc' := 186) rfl (hb hby at_182) (by decide) (by decide) ?_
        have ev_v73 : v73 = (1 : Int32) := by rw [hv_v73, if_pos q72]
        rw [ev_v73] at ktg
        exact ktg
      · skip
        show Steps p.tables e below (T69.setTop (mkF m 173 #[.val (.int p0), .val (.int p1), .val (.int p2), .val (.int p3), .val (.int p4), .val (.int p5), .val (.int mo), .val (.int ct), .val (.int cr), .val (.int lf), .val (.ref ml), .val (.int (bg (0 : Int32) (0 : Int32))), .val (.int t3), .val (.int t1), .val (.int (bg (0 : Int32) t1)), .val (.int (bg (0 : Int32) t3)), .unset, .unset] [(.int t3)])) _
        refine XS.ifNo X69.here hx rfl (hb hby at_173) rfl ((if0 _ _).trans (flt q72).2.2.1) ?_
        show Steps p.tables e below (T69.setTop (mkF m 176 #[.val (.int p0), .val (.int p1), .val (.int p2), .val (.int p3), .val (.int p4), .val (.int p5), .val (.int mo), .val (.int ct), .val (.int cr), .val (.int lf), .val (.ref ml), .val (.int (bg (0 : Int32) (0 : Int32))), .val (.int t3), .val (.int t1), .val (.int (bg (0 : Int32) t1)), .val (.int (bg (0 : Int32) t3)), .unset, .unset] [])) _
        refine XS.iload X69.here hx rfl (hb hby at_176) rfl ?_
        show Steps p.tables e below (T69.setTop (mkF m 178 #[.val (.int p0), .val (.int p1), .val (.int p2), .val (.int p3), .val (.int p4), .val (.int p5), .val (.int mo), .val (.int ct), .val (.int cr), .val (.int lf), .val (.ref ml), .val (.int (bg (0 : Int32) (0 : Int32))), .val (.int t3), .val (.int t1), .val (.int (bg (0 : Int32) t1)), .val (.int (bg (0 : Int32) t3)), .unset, .unset] [(.int cr)])) _
        refine XS.ifYes X69.here hx rfl (pc0 := 178) (pc' := 185) rfl (hb hby at_178) rfl ((if0 _ _).trans (teq c66).1) (by decide) (by decide) ?_
        show Steps p.tables e below (T69.setTop (mkF m 185 #[.val (.int p0), .val (.int p1), .val (.int p2), .val (.int p3), .val (.int p4), .val (.int p5), .val (.int mo), .val (.int ct), .val (.int cr), .val (.int lf), .val (.ref ml), .val (.int (bg (0 : Int32) (0 : Int32))), .val (.int t3), .val (.int t1), .val (.int (bg (0 : Int32) t1)), .val (.int (bg (0 : Int32) t3)), .unset, .unset] [])) _
        refine XS.iconst X69.here hx rfl (hb hby at_185) ?_
        have ev_v73 : v73 = (0 : Int32) := by rw [hv_v73, if_neg q72]
        rw [ev_v73] at ktg
        exact ktg
      done)
    have pre75 : Rch p.tables e below (s₁.setTop (entryFrame m #[(.int p0), (.int p1), (.int p2), (.int p3), (.int p4), (.int p5)] maxLocals)) (T69.setTop (mkF m 190 #[.val (.int p0), .val (.int p1), .val (.int p2), .val (.int p3), .val (.int p4), .val (.int p5), .val (.int mo), .val (.int ct), .val (.int cr), .val (.int lf), .val (.ref ml), .val (.int (bg (0 : Int32) (0 : Int32))), .val (.int t3), .val (.int t1), .val (.int (bg (0 : Int32) t1)), .val (.int (bg (0 : Int32) t3)), .val (.int v73), .unset] [(.int lf)])) := fun tgt ktg => pre74 tgt (by
      show Steps p.tables e below (T69.setTop (mkF m 186 #[.val (.int p0), .val (.int p1), .val (.int p2), .val (.int p3), .val (.int p4), .val (.int p5), .val (.int mo), .val (.int ct), .val (.int cr), .val (.int lf), .val (.ref ml), .val (.int (bg (0 : Int32) (0 : Int32))), .val (.int t3), .val (.int t1), .val (.int (bg (0 : Int32) t1)), .val (.int (bg (0 : Int32) t3)), .unset, .unset] [(.int v73)])) _
      refine XS.istore X69.here hx rfl (hb hby at_186) rfl (l' := #[.val (.int p0), .val (.int p1), .val (.int p2), .val (.int p3), .val (.int p4), .val (.int p5), .val (.int mo), .val (.int ct), .val (.int cr), .val (.int lf), .val (.ref ml), .val (.int (bg (0 : Int32) (0 : Int32))), .val (.int t3), .val (.int t1), .val (.int (bg (0 : Int32) t1)), .val (.int (bg (0 : Int32) t3)), .val (.int v73), .unset]) rfl ?_
      show Steps p.tables e below (T69.setTop (mkF m 188 #[.val (.int p0), .val (.int p1), .val (.int p2), .val (.int p3), .val (.int p4), .val (.int p5), .val (.int mo), .val (.int ct), .val (.int cr), .val (.int lf), .val (.ref ml), .val (.int (bg (0 : Int32) (0 : Int32))), .val (.int t3), .val (.int t1), .val (.int (bg (0 : Int32) t1)), .val (.int (bg (0 : Int32) t3)), .val (.int v73), .unset] [])) _
      refine XS.iload X69.here hx rfl (hb hby at_188) rfl ?_
      exact ktg)
    by_cases c76 : lf = (0 : Int32)
    · skip
      have pre77 : Rch p.tables e below (s₁.setTop (entryFrame m #[(.int p0), (.int p1), (.int p2), (.int p3), (.int p4), (.int p5)] maxLocals)) (T69.setTop (mkF m 206 #[.val (.int p0), .val (.int p1), .val (.int p2), .val (.int p3), .val (.int p4), .val (.int p5), .val (.int mo), .val (.int ct), .val (.int cr), .val (.int lf), .val (.ref ml), .val (.int (bg (0 : Int32) (0 : Int32))), .val (.int t3), .val (.int t1), .val (.int (bg (0 : Int32) t1)), .val (.int (bg (0 : Int32) t3)), .val (.int v73), .unset] [])) := fun tgt ktg => pre75 tgt (by
        show Steps p.tables e below (T69.setTop (mkF m 190 #[.val (.int p0), .val (.int p1), .val (.int p2), .val (.int p3), .val (.int p4), .val (.int p5), .val (.int mo), .val (.int ct), .val (.int cr), .val (.int lf), .val (.ref ml), .val (.int (bg (0 : Int32) (0 : Int32))), .val (.int t3), .val (.int t1), .val (.int (bg (0 : Int32) t1)), .val (.int (bg (0 : Int32) t3)), .val (.int v73), .unset] [(.int lf)])) _
        refine XS.ifYes X69.here hx rfl (pc0 := 190) (pc' := 206) rfl (hb hby at_190) rfl ((if0 _ _).trans (teq c76).1) (by decide) (by decide) ?_
        exact ktg)
      have pre78 : Rch p.tables e below (s₁.setTop (entryFrame m #[(.int p0), (.int p1), (.int p2), (.int p3), (.int p4), (.int p5)] maxLocals)) (T69.setTop (mkF m 208 #[.val (.int p0), .val (.int p1), .val (.int p2), .val (.int p3), .val (.int p4), .val (.int p5), .val (.int mo), .val (.int ct), .val (.int cr), .val (.int lf), .val (.ref ml), .val (.int (bg (0 : Int32) (0 : Int32))), .val (.int t3), .val (.int t1), .val (.int (bg (0 : Int32) t1)), .val (.int (bg (0 : Int32) t3)), .val (.int v73), .unset] [(.ref ml)])) := fun tgt ktg => pre77 tgt (by
        show Steps p.tables e below (T69.setTop (mkF m 206 #[.val (.int p0), .val (.int p1), .val (.int p2), .val (.int p3), .val (.int p4), .val (.int p5), .val (.int mo), .val (.int ct), .val (.int cr), .val (.int lf), .val (.ref ml), .val (.int (bg (0 : Int32) (0 : Int32))), .val (.int t3), .val (.int t1), .val (.int (bg (0 : Int32) t1)), .val (.int (bg (0 : Int32) t3)), .val (.int v73), .unset] [])) _
        refine XS.aload X69.here hx rfl (hb hby at_206) rfl rfl ?_
        exact ktg)
      obtain ⟨cq79, kq79, q79a, q79b, q79c⟩ := isOf hZ eh69 M3'.1
      obtain ⟨_, _, ⟨T79, L79, k79, n79⟩, -, X79, ⟨Lc79, hQ79, l79, y79, z79⟩, st79⟩ := X69.virtualBack hx (y := (⟨"com/example/subjectline/subjectline/server/MessageLine", "begun", "()Z"⟩ : MethodName)) (z := (⟨"com/example/subjectline/subjectline/server/MessageLine", "begun", "()Z"⟩ : MethodName)) hown (mvT hZ (hw _ (List.mem_of_getElem? (i := 33) rfl))) (mvT hZ (hw _ (List.mem_of_getElem? (i := 34) rfl))) (notFace_of_selects (args := #[]) (mvT hZ (hw _ (List.mem_of_getElem? (i := 36) rfl)))) (mvT hZ (hw _ (List.mem_of_getElem? (i := 36) rfl))) (mvT hZ (hw _ (List.mem_of_getElem? (i := 35) rfl))) (by decide) (backOf (W := 0) (rm5 l Z a0 hw [] ml sb va kv (0 : Int32) t3 mo cs T60.heap n0 z63 M3') hZ (hw _ (List.mem_of_getElem? (i := 37) rfl)) (hw _ (List.mem_of_getElem? (i := 2) rfl)) (by decide) (by decide)) q79a q79c (g := (mkF m 208 #[.val (.int p0), .val (.int p1), .val (.int p2), .val (.int p3), .val (.int p4), .val (.int p5), .val (.int mo), .val (.int ct), .val (.int cr), .val (.int lf), .val (.ref ml), .val (.int (bg (0 : Int32) (0 : Int32))), .val (.int t3), .val (.int t1), .val (.int (bg (0 : Int32) t1)), .val (.int (bg (0 : Int32) t3)), .val (.int v73), .unset] [(.ref ml)])) rfl (by rw [hml]; rfl) (Steps.refl _) (argsL := []) (rest := []) (lenOf pd_3 rfl) rfl (by show 2 * 0 + _ ≤ _; exact Nat.le_of_eq rfl) (hb hby at_208) (fun _ _ => ⟨rfl, eh69, (by decide : 3 + 0 ≤ _), (by decide : 23 + 0 ≤ _)⟩)
      dsimp only [Pt.U, Pt.locs, Pt.cells, Pt.slots] at X79 l79 y79 z79 st79 hQ79
      subst l79 y79 z79
      obtain ⟨rfl, Nq79, eh79⟩ := hQ79
      have N80 := Fr.app N70 Nq79
      have pre79 : Rch p.tables e below (s₁.setTop (entryFrame m #[(.int p0), (.int p1), (.int p2), (.int p3), (.int p4), (.int p5)] maxLocals)) (T79.setTop (mkF m 211 #[.val (.int p0), .val (.int p1), .val (.int p2), .val (.int p3), .val (.int p4), .val (.int p5), .val (.int mo), .val (.int ct), .val (.int cr), .val (.int lf), .val (.ref ml), .val (.int (bg (0 : Int32) (0 : Int32))), .val (.int t3), .val (.int t1), .val (.int (bg (0 : Int32) t1)), .val (.int (bg (0 : Int32) t3)), .val (.int v73), .unset] [(.int (bg (0 : Int32) t3))])) := fun tgt ktg => pre78 tgt (st79.trans ktg)
      have pre81 : Rch p.tables e below (s₁.setTop (entryFrame m #[(.int p0), (.int p1), (.int p2), (.int p3), (.int p4), (.int p5)] maxLocals)) (T79.setTop (mkF m 215 #[.val (.int p0), .val (.int p1), .val (.int p2), .val (.int p3), .val (.int p4), .val (.int p5), .val (.int mo), .val (.int ct), .val (.int cr), .val (.int lf), .val (.ref ml), .val (.int (bg (0 : Int32) (0 : Int32))), .val (.int t3), .val (.int t1), .val (.int (bg (0 : Int32) t1)), .val (.int (bg (0 : Int32) t3)), .val (.int v73), .val (.int (bg (0 : Int32) t3))] [(.int (bg (0 : Int32) (0 : Int32)))])) := fun tgt ktg => pre79 tgt (by
        show Steps p.tables e below (T79.setTop (mkF m 211 #[.val (.int p0), .val (.int p1), .val (.int p2), .val (.int p3), .val (.int p4), .val (.int p5), .val (.int mo), .val (.int ct), .val (.int cr), .val (.int lf), .val (.ref ml), .val (.int (bg (0 : Int32) (0 : Int32))), .val (.int t3), .val (.int t1), .val (.int (bg (0 : Int32) t1)), .val (.int (bg (0 : Int32) t3)), .val (.int v73), .unset] [(.int (bg (0 : Int32) t3))])) _
        refine XS.istore X79.here hx rfl (hb hby at_211) rfl (l' := #[.val (.int p0), .val (.int p1), .val (.int p2), .val (.int p3), .val (.int p4), .val (.int p5), .val (.int mo), .val (.int ct), .val (.int cr), .val (.int lf), .val (.ref ml), .val (.int (bg (0 : Int32) (0 : Int32))), .val (.int t3), .val (.int t1), .val (.int (bg (0 : Int32) t1)), .val (.int (bg (0 : Int32) t3)), .val (.int v73), .val (.int (bg (0 : Int32) t3))]) rfl ?_
        show Steps p.tables e below (T79.setTop (mkF m 213 #[.val (.int p0), .val (.int p1), .val (.int p2), .val (.int p3), .val (.int p4), .val (.int p5), .val (.int mo), .val (.int ct), .val (.int cr), .val (.int lf), .val (.ref ml), .val (.int (bg (0 : Int32) (0 : Int32))), .val (.int t3), .val (.int t1), .val (.int (bg (0 : Int32) t1)), .val (.int (bg (0 : Int32) t3)), .val (.int v73), .val (.int (bg (0 : Int32) t3))] [])) _
        refine XS.iload X79.here hx rfl (hb hby at_213) rfl ?_
        exact ktg)
      have pre82 : Rch p.tables e below (s₁.setTop (entryFrame m #[(.int p0), (.int p1), (.int p2), (.int p3), (.int p4), (.int p5)] maxLocals)) (T79.setTop (mkF m 222 #[.val (.int p0), .val (.int p1), .val (.int p2), .val (.int p3), .val (.int p4), .val (.int p5), .val (.int mo), .val (.int ct), .val (.int cr), .val (.int lf), .val (.ref ml), .val (.int (bg (0 : Int32) (0 : Int32))), .val (.int t3), .val (.int t1), .val (.int (bg (0 : Int32) t1)), .val (.int (bg (0 : Int32) t3)), .val (.int v73), .val (.int (bg (0 : Int32) t3))] [(.int t1), (.int (bg (0 : Int32) t1))])) := fun tgt ktg => pre81 tgt (by
        show Steps p.tables e below (T79.setTop (mkF m 215 #[.val (.int p0), .val (.int p1), .val (.int p2), .val (.int p3), .val (.int p4), .val (.int p5), .val (.int mo), .val (.int ct), .val (.int cr), .val (.int lf), .val (.ref ml), .val (.int (bg (0 : Int32) (0 : Int32))), .val (.int t3), .val (.int t1), .val (.int (bg (0 : Int32) t1)), .val (.int (bg (0 : Int32) t3)), .val (.int v73), .val (.int (bg (0 : Int32) t3))] [(.int (bg (0 : Int32) (0 : Int32)))])) _
        refine XS.ifNo X79.here hx rfl (hb hby at_215) rfl ((if0 _ _).trans (teq (rfl : bg 0 0 = 0)).2) ?_
        show Steps p.tables e below (T79.setTop (mkF m 218 #[.val (.int p0), .val (.int p1), .val (.int p2), .val (.int p3), .val (.int p4), .val (.int p5), .val (.int mo), .val (.int ct), .val (.int cr), .val (.int lf), .val (.ref ml), .val (.int (bg (0 : Int32) (0 : Int32))), .val (.int t3), .val (.int t1), .val (.int (bg (0 : Int32) t1)), .val (.int (bg (0 : Int32) t3)), .val (.int v73), .val (.int (bg (0 : Int32) t3))] [])) _
        refine XS.iload X79.here hx rfl (hb hby at_218) rfl ?_
        show Steps p.tables e below (T79.setTop (mkF m 220 #[.val (.int p0), .val (.int p1), .val (.int p2), .val (.int p3), .val (.int p4), .val (.int p5), .val (.int mo), .val (.int ct), .val (.int cr), .val (.int lf), .val (.ref ml), .val (.int (bg (0 : Int32) (0 : Int32))), .val (.int t3), .val (.int t1), .val (.int (bg (0 : Int32) t1)), .val (.int (bg (0 : Int32) t3)), .val (.int v73), .val (.int (bg (0 : Int32) t3))] [(.int (bg (0 : Int32) t1))])) _
        refine XS.iload X79.here hx rfl (hb hby at_220) rfl ?_
        exact ktg)
      obtain ⟨v84, hv_v84⟩ : ∃ nm_ : Int32, nm_ = (if (0 : Int32) < t1 then (1 : Int32) else (0 : Int32)) := ⟨_, rfl⟩
      have pre85 : Rch p.tables e below (s₁.setTop (entryFrame m #[(.int p0), (.int p1), (.int p2), (.int p3), (.int p4), (.int p5)] maxLocals)) (T79.setTop (mkF m 230 #[.val (.int p0), .val (.int p1), .val (.int p2), .val (.int p3), .val (.int p4), .val (.int p5), .val (.int mo), .val (.int ct), .val (.int cr), .val (.int lf), .val (.ref ml), .val (.int (bg (0 : Int32) (0 : Int32))), .val (.int t3), .val (.int t1), .val (.int (bg (0 : Int32) t1)), .val (.int (bg (0 : Int32) t3)), .val (.int v73), .val (.int (bg (0 : Int32) t3))] [(.int v84), (.int (bg (0 : Int32) t1))])) := fun tgt ktg => pre82 tgt (by
        by_cases q83 : (0 : Int32) < t1
        · skip
          show Steps p.tables e below (T79.setTop (mkF m 222 #[.val (.int p0), .val (.int p1), .val (.int p2), .val (.int p3), .val (.int p4), .val (.int p5), .val (.int mo), .val (.int ct), .val (.int cr), .val (.int lf), .val (.ref ml), .val (.int (bg (0 : Int32) (0 : Int32))), .val (.int t3), .val (.int t1), .val (.int (bg (0 : Int32) t1)), .val (.int (bg (0 : Int32) t3)), .val (.int v73), .val (.int (bg (0 : Int32) t3))] [(.int t1), (.int (bg (0 : Int32) t1))])) _
          refine XS.ifNo X79.here hx rfl (hb hby at_222) rfl ((if0 _ _).trans (tlt q83).2.2.2) ?_
          show Steps p.tables e below (T79.setTop (mkF m 225 #[.val (.int p0), .val (.int p1), .val (.int p2), .val (.int p3), .val (.int p4), .val (.int p5), .val (.int mo), .val (.int ct), .val (.int cr), .val (.int lf), .val (.ref ml), .val (.int (bg (0 : Int32) (0 : Int32))), .val (.int t3), .val (.int t1), .val (.int (bg (0 : Int32) t1)), .val (.int (bg (0 : Int32) t3)), .val (.int v73), .val (.int (bg (0 : Int32) t3))] [(.int (bg (0 : Int32) t1))])) _
          refine XS.iconst X79.here hx rfl (hb hby at_225) ?_
          show Steps p.tables e below (T79.setTop (mkF m 226 #[.val (.int p0), .val (.int p1), .val (.int p2), .val (.int p3), .val (.int p4), .val (.int p5), .val (.int mo), .val (.int ct), .val (.int cr), .val (.int lf), .val (.ref ml), .val (.int (bg (0 : Int32) (0 : Int32))), .val (.int t3), .val (.int t1), .val (.int (bg (0 : Int32) t1)), .val (.int (bg (0 : Int32) t3)), .val (.int v73), .val (.int (bg (0 : Int32) t3))] [(.int (1 : Int32)), (.int (bg (0 : Int32) t1))])) _
          refine XS.goto X79.here hx rfl (pc0 := 226) (pc' := 230) rfl (hb hby at_226) (by decide) (by decide) ?_
          have ev_v84 : v84 = (1 : Int32) := by rw [hv_v84, if_pos q83]
          rw [ev_v84] at ktg
          exact ktg
        · skip
          show Steps p.tables e below (T79.setTop (mkF m 222 #[.val (.int p0), .val (.int p1), .val (.int p2), .val (.int p3), .val (.int p4), .val (.int p5), .val (.int mo), .val (.int ct), .val (.int cr), .val (.int lf), .val (.ref ml), .val (.int (bg (0 : Int32) (0 : Int32))), .val (.int t3), .val (.int t1), .val (.int (bg (0 : Int32) t1)), .val (.int (bg (0 : Int32) t3)), .val (.int v73), .val (.int (bg (0 : Int32) t3))] [(.int t1), (.int (bg (0 : Int32) t1))])) _
          refine XS.ifYes X79.here hx rfl (pc0 := 222) (pc' := 229) rfl (hb hby at_222) rfl ((if0 _ _).trans (flt q83).2.2.2) (by decide) (by decide) ?_
          show Steps p.tables e below (T79.setTop (mkF m 229 #[.val (.int p0), .val (.int p1), .val (.int p2), .val (.int p3), .val (.int p4), .val (.int p5), .val (.int mo), .val (.int ct), .val (.int cr), .val (.int lf), .val (.ref ml), .val (.int (bg (0 : Int32) (0 : Int32))), .val (.int t3), .val (.int t1), .val (.int (bg (0 : Int32) t1)), .val (.int (bg (0 : Int32) t3)), .val (.int v73), .val (.int (bg (0 : Int32) t3))] [(.int (bg (0 : Int32) t1))])) _
          refine XS.iconst X79.here hx rfl (hb hby at_229) ?_
          have ev_v84 : v84 = (0 : Int32) := by rw [hv_v84, if_neg q83]
          rw [ev_v84] at ktg
          exact ktg
        done)
      have pre86 : Rch p.tables e below (s₁.setTop (entryFrame m #[(.int p0), (.int p1), (.int p2), (.int p3), (.int p4), (.int p5)] maxLocals)) (T79.setTop (mkF m 252 #[.val (.int p0), .val (.int p1), .val (.int p2), .val (.int p3), .val (.int p4), .val (.int p5), .val (.int mo), .val (.int ct), .val (.int cr), .val (.int lf), .val (.ref ml), .val (.int (bg (0 : Int32) (0 : Int32))), .val (.int t3), .val (.int t1), .val (.int (bg (0 : Int32) t1)), .val (.int (bg (0 : Int32) t3)), .val (.int v73), .val (.int (bg (0 : Int32) t3))] [(.int (1 : Int32))])) := fun tgt ktg => pre85 tgt (by
        show Steps p.tables e below (T79.setTop (mkF m 230 #[.val (.int p0), .val (.int p1), .val (.int p2), .val (.int p3), .val (.int p4), .val (.int p5), .val (.int mo), .val (.int ct), .val (.int cr), .val (.int lf), .val (.ref ml), .val (.int (bg (0 : Int32) (0 : Int32))), .val (.int t3), .val (.int t1), .val (.int (bg (0 : Int32) t1)), .val (.int (bg (0 : Int32) t3)), .val (.int v73), .val (.int (bg (0 : Int32) t3))] [(.int v84), (.int (bg (0 : Int32) t1))])) _
        refine XS.icmpNo X79.here hx rfl (hb hby at_230) rfl (teq (own_af hv_v84)).2 ?_
        show Steps p.tables e below (T79.setTop (mkF m 233 #[.val (.int p0), .val (.int p1), .val (.int p2), .val (.int p3), .val (.int p4), .val (.int p5), .val (.int mo), .val (.int ct), .val (.int cr), .val (.int lf), .val (.ref ml), .val (.int (bg (0 : Int32) (0 : Int32))), .val (.int t3), .val (.int t1), .val (.int (bg (0 : Int32) t1)), .val (.int (bg (0 : Int32) t3)), .val (.int v73), .val (.int (bg (0 : Int32) t3))] [])) _
        refine XS.iload X79.here hx rfl (hb hby at_233) rfl ?_
        show Steps p.tables e below (T79.setTop (mkF m 235 #[.val (.int p0), .val (.int p1), .val (.int p2), .val (.int p3), .val (.int p4), .val (.int p5), .val (.int mo), .val (.int ct), .val (.int cr), .val (.int lf), .val (.ref ml), .val (.int (bg (0 : Int32) (0 : Int32))), .val (.int t3), .val (.int t1), .val (.int (bg (0 : Int32) t1)), .val (.int (bg (0 : Int32) t3)), .val (.int v73), .val (.int (bg (0 : Int32) t3))] [(.int (bg (0 : Int32) t3))])) _
        refine XS.iload X79.here hx rfl (hb hby at_235) rfl ?_
        show Steps p.tables e below (T79.setTop (mkF m 237 #[.val (.int p0), .val (.int p1), .val (.int p2), .val (.int p3), .val (.int p4), .val (.int p5), .val (.int mo), .val (.int ct), .val (.int cr), .val (.int lf), .val (.ref ml), .val (.int (bg (0 : Int32) (0 : Int32))), .val (.int t3), .val (.int t1), .val (.int (bg (0 : Int32) t1)), .val (.int (bg (0 : Int32) t3)), .val (.int v73), .val (.int (bg (0 : Int32) t3))] [(.int v73), (.int (bg (0 : Int32) t3))])) _
        refine XS.icmpNo X79.here hx rfl (hb hby at_237) rfl (teq (own_ex hv_v73)).2 ?_
        show Steps p.tables e below (T79.setTop (mkF m 240 #[.val (.int p0), .val (.int p1), .val (.int p2), .val (.int p3), .val (.int p4), .val (.int p5), .val (.int mo), .val (.int ct), .val (.int cr), .val (.int lf), .val (.ref ml), .val (.int (bg (0 : Int32) (0 : Int32))), .val (.int t3), .val (.int t1), .val (.int (bg (0 : Int32) t1)), .val (.int (bg (0 : Int32) t3)), .val (.int v73), .val (.int (bg (0 : Int32) t3))] [])) _
        refine XS.iload X79.here hx rfl (hb hby at_240) rfl ?_
        show Steps p.tables e below (T79.setTop (mkF m 242 #[.val (.int p0), .val (.int p1), .val (.int p2), .val (.int p3), .val (.int p4), .val (.int p5), .val (.int mo), .val (.int ct), .val (.int cr), .val (.int lf), .val (.ref ml), .val (.int (bg (0 : Int32) (0 : Int32))), .val (.int t3), .val (.int t1), .val (.int (bg (0 : Int32) t1)), .val (.int (bg (0 : Int32) t3)), .val (.int v73), .val (.int (bg (0 : Int32) t3))] [(.int (bg (0 : Int32) t3))])) _
        refine XS.iload X79.here hx rfl (hb hby at_242) rfl ?_
        show Steps p.tables e below (T79.setTop (mkF m 244 #[.val (.int p0), .val (.int p1), .val (.int p2), .val (.int p3), .val (.int p4), .val (.int p5), .val (.int mo), .val (.int ct), .val (.int cr), .val (.int lf), .val (.ref ml), .val (.int (bg (0 : Int32) (0 : Int32))), .val (.int t3), .val (.int t1), .val (.int (bg (0 : Int32) t1)), .val (.int (bg (0 : Int32) t3)), .val (.int v73), .val (.int (bg (0 : Int32) t3))] [(.int v73), (.int (bg (0 : Int32) t3))])) _
        refine XS.icmpNo X79.here hx rfl (hb hby at_244) rfl (teq (own_ex hv_v73)).2 ?_
        show Steps p.tables e below (T79.setTop (mkF m 247 #[.val (.int p0), .val (.int p1), .val (.int p2), .val (.int p3), .val (.int p4), .val (.int p5), .val (.int mo), .val (.int ct), .val (.int cr), .val (.int lf), .val (.ref ml), .val (.int (bg (0 : Int32) (0 : Int32))), .val (.int t3), .val (.int t1), .val (.int (bg (0 : Int32) t1)), .val (.int (bg (0 : Int32) t3)), .val (.int v73), .val (.int (bg (0 : Int32) t3))] [])) _
        refine XS.iconst X79.here hx rfl (hb hby at_247) ?_
        show Steps p.tables e below (T79.setTop (mkF m 248 #[.val (.int p0), .val (.int p1), .val (.int p2), .val (.int p3), .val (.int p4), .val (.int p5), .val (.int mo), .val (.int ct), .val (.int cr), .val (.int lf), .val (.ref ml), .val (.int (bg (0 : Int32) (0 : Int32))), .val (.int t3), .val (.int t1), .val (.int (bg (0 : Int32) t1)), .val (.int (bg (0 : Int32) t3)), .val (.int v73), .val (.int (bg (0 : Int32) t3))] [(.int (1 : Int32))])) _
        refine XS.goto X79.here hx rfl (pc0 := 248) (pc' := 252) rfl (hb hby at_248) (by decide) (by decide) ?_
        exact ktg)
      obtain ⟨fs, hr, hrun, hended, hW, hsame⟩ := X79.leave (v := some (.int (1 : Int32))) (fun h => by rw [Bd.returns] at h; cases h)
      refine ⟨_, _, pre86 _ ?_, hrun, hended, _, _, rfl, ?_, ⟨_, rfl⟩, hW, hsame.mono (by decide) (by decide)⟩
      · show Steps p.tables e below (T79.setTop (mkF m 252 #[.val (.int p0), .val (.int p1), .val (.int p2), .val (.int p3), .val (.int p4), .val (.int p5), .val (.int mo), .val (.int ct), .val (.int cr), .val (.int lf), .val (.ref ml), .val (.int (bg (0 : Int32) (0 : Int32))), .val (.int t3), .val (.int t1), .val (.int (bg (0 : Int32) t1)), .val (.int (bg (0 : Int32) t3)), .val (.int v73), .val (.int (bg (0 : Int32) t3))] [(.int (1 : Int32))])) _
        exact retN X79 hx (t := .boolean) Bd.returns (by simp) (hb hby at_252) hr
      · show Q0 Z p0 p1 p2 p3 p4 p5 h0 n0 _ T79.heap _
        rw [eh79]
        exact ⟨rfl, N80⟩
    · skip
      have pre87 : Rch p.tables e below (s₁.setTop (entryFrame m #[(.int p0), (.int p1), (.int p2), (.int p3), (.int p4), (.int p5)] maxLocals)) (T69.setTop (mkF m 193 #[.val (.int p0), .val (.int p1), .val (.int p2), .val (.int p3), .val (.int p4), .val (.int p5), .val (.int mo), .val (.int ct), .val (.int cr), .val (.int lf), .val (.ref ml), .val (.int (bg (0 : Int32) (0 : Int32))), .val (.int t3), .val (.int t1), .val (.int (bg (0 : Int32) t1)), .val (.int (bg (0 : Int32) t3)), .val (.int v73), .unset] [])) := fun tgt ktg => pre75 tgt (by
        show Steps p.tables e below (T69.setTop (mkF m 190 #[.val (.int p0), .val (.int p1), .val (.int p2), .val (.int p3), .val (.int p4), .val (.int p5), .val (.int mo), .val (.int ct), .val (.int cr), .val (.int lf), .val (.ref ml), .val (.int (bg (0 : Int32) (0 : Int32))), .val (.int t3), .val (.int t1), .val (.int (bg (0 : Int32) t1)), .val (.int (bg (0 : Int32) t3)), .val (.int v73), .unset] [(.int lf)])) _
        refine XS.ifNo X69.here hx rfl (hb hby at_190) rfl ((if0 _ _).trans (feq c76).1) ?_
        exact ktg)
      have pre88 : Rch p.tables e below (s₁.setTop (entryFrame m #[(.int p0), (.int p1), (.int p2), (.int p3), (.int p4), (.int p5)] maxLocals)) (T69.setTop (mkF m 195 #[.val (.int p0), .val (.int p1), .val (.int p2), .val (.int p3), .val (.int p4), .val (.int p5), .val (.int mo), .val (.int ct), .val (.int cr), .val (.int lf), .val (.ref ml), .val (.int (bg (0 : Int32) (0 : Int32))), .val (.int t3), .val (.int t1), .val (.int (bg (0 : Int32) t1)), .val (.int (bg (0 : Int32) t3)), .val (.int v73), .unset] [(.int v73)])) := fun tgt ktg => pre87 tgt (by
        show Steps p.tables e below (T69.setTop (mkF m 193 #[.val (.int p0), .val (.int p1), .val (.int p2), .val (.int p3), .val (.int p4), .val (.int p5), .val (.int mo), .val (.int ct), .val (.int cr), .val (.int lf), .val (.ref ml), .val (.int (bg (0 : Int32) (0 : Int32))), .val (.int t3), .val (.int t1), .val (.int (bg (0 : Int32) t1)), .val (.int (bg (0 : Int32) t3)), .val (.int v73), .unset] [])) _
        refine XS.iload X69.here hx rfl (hb hby at_193) rfl ?_
        exact ktg)
      by_cases c89 : v73 = (0 : Int32)
      · skip
        have pre90 : Rch p.tables e below (s₁.setTop (entryFrame m #[(.int p0), (.int p1), (.int p2), (.int p3), (.int p4), (.int p5)] maxLocals)) (T69.setTop (mkF m 206 #[.val (.int p0), .val (.int p1), .val (.int p2), .val (.int p3), .val (.int p4), .val (.int p5), .val (.int mo), .val (.int ct), .val (.int cr), .val (.int lf), .val (.ref ml), .val (.int (bg (0 : Int32) (0 : Int32))), .val (.int t3), .val (.int t1), .val (.int (bg (0 : Int32) t1)), .val (.int (bg (0 : Int32) t3)), .val (.int v73), .unset] [])) := fun tgt ktg => pre88 tgt (by
          show Steps p.tables e below (T69.setTop (mkF m 195 #[.val (.int p0), .val (.int p1), .val (.int p2), .val (.int p3), .val (.int p4), .val (.int p5), .val (.int mo), .val (.int ct), .val (.int cr), .val (.int lf), .val (.ref ml), .val (.int (bg (0 : Int32) (0 : Int32))), .val (.int t3), .val (.int t1), .val (.int (bg (0 : Int32) t1)), .val (.int (bg (0 : Int32) t3)), .val (.int v73), .unset] [(.int v73)])) _
          refine XS.ifYes X69.here hx rfl (pc0 := 195) (pc' := 206) rfl (hb hby at_195) rfl ((if0 _ _).trans (teq c89).1) (by decide) (by decide) ?_
          exact ktg)
        have pre91 : Rch p.tables e below (s₁.setTop (entryFrame m #[(.int p0), (.int p1), (.int p2), (.int p3), (.int p4), (.int p5)] maxLocals)) (T69.setTop (mkF m 208 #[.val (.int p0), .val (.int p1), .val (.int p2), .val (.int p3), .val (.int p4), .val (.int p5), .val (.int mo), .val (.int ct), .val (.int cr), .val (.int lf), .val (.ref ml), .val (.int (bg (0 : Int32) (0 : Int32))), .val (.int t3), .val (.int t1), .val (.int (bg (0 : Int32) t1)), .val (.int (bg (0 : Int32) t3)), .val (.int v73), .unset] [(.ref ml)])) := fun tgt ktg => pre90 tgt (by
          show Steps p.tables e below (T69.setTop (mkF m 206 #[.val (.int p0), .val (.int p1), .val (.int p2), .val (.int p3), .val (.int p4), .val (.int p5), .val (.int mo), .val (.int ct), .val (.int cr), .val (.int lf), .val (.ref ml), .val (.int (bg (0 : Int32) (0 : Int32))), .val (.int t3), .val (.int t1), .val (.int (bg (0 : Int32) t1)), .val (.int (bg (0 : Int32) t3)), .val (.int v73), .unset] [])) _
          refine XS.aload X69.here hx rfl (hb hby at_206) rfl rfl ?_
          exact ktg)
        obtain ⟨cq92, kq92, q92a, q92b, q92c⟩ := isOf hZ eh69 M3'.1
        obtain ⟨_, _, ⟨T92, L92, k92, n92⟩, -, X92, ⟨Lc92, hQ92, l92, y92, z92⟩, st92⟩ := X69.virtualBack hx (y := (⟨"com/example/subjectline/subjectline/server/MessageLine", "begun", "()Z"⟩ : MethodName)) (z := (⟨"com/example/subjectline/subjectline/server/MessageLine", "begun", "()Z"⟩ : MethodName)) hown (mvT hZ (hw _ (List.mem_of_getElem? (i := 33) rfl))) (mvT hZ (hw _ (List.mem_of_getElem? (i := 34) rfl))) (notFace_of_selects (args := #[]) (mvT hZ (hw _ (List.mem_of_getElem? (i := 36) rfl)))) (mvT hZ (hw _ (List.mem_of_getElem? (i := 36) rfl))) (mvT hZ (hw _ (List.mem_of_getElem? (i := 35) rfl))) (by decide) (backOf (W := 0) (rm5 l Z a0 hw [] ml sb va kv (0 : Int32) t3 mo cs T60.heap n0 z63 M3') hZ (hw _ (List.mem_of_getElem? (i := 37) rfl)) (hw _ (List.mem_of_getElem? (i := 2) rfl)) (by decide) (by decide)) q92a q92c (g := (mkF m 208 #[.val (.int p0), .val (.int p1), .val (.int p2), .val (.int p3), .val (.int p4), .val (.int p5), .val (.int mo), .val (.int ct), .val (.int cr), .val (.int lf), .val (.ref ml), .val (.int (bg (0 : Int32) (0 : Int32))), .val (.int t3), .val (.int t1), .val (.int (bg (0 : Int32) t1)), .val (.int (bg (0 : Int32) t3)), .val (.int v73), .unset] [(.ref ml)])) rfl (by rw [hml]; rfl) (Steps.refl _) (argsL := []) (rest := []) (lenOf pd_3 rfl) rfl (by show 2 * 0 + _ ≤ _; exact Nat.le_of_eq rfl) (hb hby at_208) (fun _ _ => ⟨rfl, eh69, (by decide : 3 + 0 ≤ _), (by decide : 23 + 0 ≤ _)⟩)
        dsimp only [Pt.U, Pt.locs, Pt.cells, Pt.slots] at X92 l92 y92 z92 st92 hQ92
        subst l92 y92 z92
        obtain ⟨rfl, Nq92, eh92⟩ := hQ92
        have N93 := Fr.app N70 Nq92
        have pre92 : Rch p.tables e below (s₁.setTop (entryFrame m #[(.int p0), (.int p1), (.int p2), (.int p3), (.int p4), (.int p5)] maxLocals)) (T92.setTop (mkF m 211 #[.val (.int p0), .val (.int p1), .val (.int p2), .val (.int p3), .val (.int p4), .val (.int p5), .val (.int mo), .val (.int ct), .val (.int cr), .val (.int lf), .val (.ref ml), .val (.int (bg (0 : Int32) (0 : Int32))), .val (.int t3), .val (.int t1), .val (.int (bg (0 : Int32) t1)), .val (.int (bg (0 : Int32) t3)), .val (.int v73), .unset] [(.int (bg (0 : Int32) t3))])) := fun tgt ktg => pre91 tgt (st92.trans ktg)
        have pre94 : Rch p.tables e below (s₁.setTop (entryFrame m #[(.int p0), (.int p1), (.int p2), (.int p3), (.int p4), (.int p5)] maxLocals)) (T92.setTop (mkF m 215 #[.val (.int p0), .val (.int p1), .val (.int p2), .val (.int p3), .val (.int p4), .val (.int p5), .val (.int mo), .val (.int ct), .val (.int cr), .val (.int lf), .val (.ref ml), .val (.int (bg (0 : Int32) (0 : Int32))), .val (.int t3), .val (.int t1), .val (.int (bg (0 : Int32) t1)), .val (.int (bg (0 : Int32) t3)), .val (.int v73), .val (.int (bg (0 : Int32) t3))] [(.int (bg (0 : Int32) (0 : Int32)))])) := fun tgt ktg => pre92 tgt (by
          show Steps p.tables e below (T92.setTop (mkF m 211 #[.val (.int p0), .val (.int p1), .val (.int p2), .val (.int p3), .val (.int p4), .val (.int p5), .val (.int mo), .val (.int ct), .val (.int cr), .val (.int lf), .val (.ref ml), .val (.int (bg (0 : Int32) (0 : Int32))), .val (.int t3), .val (.int t1), .val (.int (bg (0 : Int32) t1)), .val (.int (bg (0 : Int32) t3)), .val (.int v73), .unset] [(.int (bg (0 : Int32) t3))])) _
          refine XS.istore X92.here hx rfl (hb hby at_211) rfl (l' := #[.val (.int p0), .val (.int p1), .val (.int p2), .val (.int p3), .val (.int p4), .val (.int p5), .val (.int mo), .val (.int ct), .val (.int cr), .val (.int lf), .val (.ref ml), .val (.int (bg (0 : Int32) (0 : Int32))), .val (.int t3), .val (.int t1), .val (.int (bg (0 : Int32) t1)), .val (.int (bg (0 : Int32) t3)), .val (.int v73), .val (.int (bg (0 : Int32) t3))]) rfl ?_
          show Steps p.tables e below (T92.setTop (mkF m 213 #[.val (.int p0), .val (.int p1), .val (.int p2), .val (.int p3), .val (.int p4), .val (.int p5), .val (.int mo), .val (.int ct), .val (.int cr), .val (.int lf), .val (.ref ml), .val (.int (bg (0 : Int32) (0 : Int32))), .val (.int t3), .val (.int t1), .val (.int (bg (0 : Int32) t1)), .val (.int (bg (0 : Int32) t3)), .val (.int v73), .val (.int (bg (0 : Int32) t3))] [])) _
          refine XS.iload X92.here hx rfl (hb hby at_213) rfl ?_
          exact ktg)
        have pre95 : Rch p.tables e below (s₁.setTop (entryFrame m #[(.int p0), (.int p1), (.int p2), (.int p3), (.int p4), (.int p5)] maxLocals)) (T92.setTop (mkF m 222 #[.val (.int p0), .val (.int p1), .val (.int p2), .val (.int p3), .val (.int p4), .val (.int p5), .val (.int mo), .val (.int ct), .val (.int cr), .val (.int lf), .val (.ref ml), .val (.int (bg (0 : Int32) (0 : Int32))), .val (.int t3), .val (.int t1), .val (.int (bg (0 : Int32) t1)), .val (.int (bg (0 : Int32) t3)), .val (.int v73), .val (.int (bg (0 : Int32) t3))] [(.int t1), (.int (bg (0 : Int32) t1))])) := fun tgt ktg => pre94 tgt (by
          show Steps p.tables e below (T92.setTop (mkF m 215 #[.val (.int p0), .val (.int p1), .val (.int p2), .val (.int p3), .val (.int p4), .val (.int p5), .val (.int mo), .val (.int ct), .val (.int cr), .val (.int lf), .val (.ref ml), .val (.int (bg (0 : Int32) (0 : Int32))), .val (.int t3), .val (.int t1), .val (.int (bg (0 : Int32) t1)), .val (.int (bg (0 : Int32) t3)), .val (.int v73), .val (.int (bg (0 : Int32) t3))] [(.int (bg (0 : Int32) (0 : Int32)))])) _
          refine XS.ifNo X92.here hx rfl (hb hby at_215) rfl ((if0 _ _).trans (teq (rfl : bg 0 0 = 0)).2) ?_
          show Steps p.tables e below (T92.setTop (mkF m 218 #[.val (.int p0), .val (.int p1), .val (.int p2), .val (.int p3), .val (.int p4), .val (.int p5), .val (.int mo), .val (.int ct), .val (.int cr), .val (.int lf), .val (.ref ml), .val (.int (bg (0 : Int32) (0 : Int32))), .val (.int t3), .val (.int t1), .val (.int (bg (0 : Int32) t1)), .val (.int (bg (0 : Int32) t3)), .val (.int v73), .val (.int (bg (0 : Int32) t3))] [])) _
          refine XS.iload X92.here hx rfl (hb hby at_218) rfl ?_
          show Steps p.tables e below (T92.setTop (mkF m 220 #[.val (.int p0), .val (.int p1), .val (.int p2), .val (.int p3), .val (.int p4), .val (.int p5), .val (.int mo), .val (.int ct), .val (.int cr), .val (.int lf), .val (.ref ml), .val (.int (bg (0 : Int32) (0 : Int32))), .val (.int t3), .val (.int t1), .val (.int (bg (0 : Int32) t1)), .val (.int (bg (0 : Int32) t3)), .val (.int v73), .val (.int (bg (0 : Int32) t3))] [(.int (bg (0 : Int32) t1))])) _
          refine XS.iload X92.here hx rfl (hb hby at_220) rfl ?_
          exact ktg)
        obtain ⟨v97, hv_v97⟩ : ∃ nm_ : Int32, nm_ = (if (0 : Int32) < t1 then (1 : Int32) else (0 : Int32)) := ⟨_, rfl⟩
        have pre98 : Rch p.tables e below (s₁.setTop (entryFrame m #[(.int p0), (.int p1), (.int p2), (.int p3), (.int p4), (.int p5)] maxLocals)) (T92.setTop (mkF m 230 #[.val (.int p0), .val (.int p1), .val (.int p2), .val (.int p3), .val (.int p4), .val (.int p5), .val (.int mo), .val (.int ct), .val (.int cr), .val (.int lf), .val (.ref ml), .val (.int (bg (0 : Int32) (0 : Int32))), .val (.int t3), .val (.int t1), .val (.int (bg (0 : Int32) t1)), .val (.int (bg (0 : Int32) t3)), .val (.int v73), .val (.int (bg (0 : Int32) t3))] [(.int v97), (.int (bg (0 : Int32) t1))])) := fun tgt ktg => pre95 tgt (by
          by_cases q96 : (0 : Int32) < t1
          · skip
            show Steps p.tables e below (T92.setTop (mkF m 222 #[.val (.int p0), .val (.int p1), .val (.int p2), .val (.int p3), .val (.int p4), .val (.int p5), .val (.int mo), .val (.int ct), .val (.int cr), .val (.int lf), .val (.ref ml), .val (.int (bg (0 : Int32) (0 : Int32))), .val (.int t3), .val (.int t1), .val (.int (bg (0 : Int32) t1)), .val (.int (bg (0 : Int32) t3)), .val (.int v73), .val (.int (bg (0 : Int32) t3))] [(.int t1), (.int (bg (0 : Int32) t1))])) _
            refine XS.ifNo X92.here hx rfl (hb hby at_222) rfl ((if0 _ _).trans (tlt q96).2.2.2) ?_
            show Steps p.tables e below (T92.setTop (mkF m 225 #[.val (.int p0), .val (.int p1), .val (.int p2), .val (.int p3), .val (.int p4), .val (.int p5), .val (.int mo), .val (.int ct), .val (.int cr), .val (.int lf), .val (.ref ml), .val (.int (bg (0 : Int32) (0 : Int32))), .val (.int t3), .val (.int t1), .val (.int (bg (0 : Int32) t1)), .val (.int (bg (0 : Int32) t3)), .val (.int v73), .val (.int (bg (0 : Int32) t3))] [(.int (bg (0 : Int32) t1))])) _
            refine XS.iconst X92.here hx rfl (hb hby at_225) ?_
            show Steps p.tables e below (T92.setTop (mkF m 226 #[.val (.int p0), .val (.int p1), .val (.int p2), .val (.int p3), .val (.int p4), .val (.int p5), .val (.int mo), .val (.int ct), .val (.int cr), .val (.int lf), .val (.ref ml), .val (.int (bg (0 : Int32) (0 : Int32))), .val (.int t3), .val (.int t1), .val (.int (bg (0 : Int32) t1)), .val (.int (bg (0 : Int32) t3)), .val (.int v73), .val (.int (bg (0 : Int32) t3))] [(.int (1 : Int32)), (.int (bg (0 : Int32) t1))])) _
            refine XS.goto X92.here hx rfl (pc0 := 226) (pc' := 230) rfl (hb hby at_226) (by decide) (by decide) ?_
            have ev_v97 : v97 = (1 : Int32) := by rw [hv_v97, if_pos q96]
            rw [ev_v97] at ktg
            exact ktg
          · skip
            show Steps p.tables e below (T92.setTop (mkF m 222 #[.val (.int p0), .val (.int p1), .val (.int p2), .val (.int p3), .val (.int p4), .val (.int p5), .val (.int mo), .val (.int ct), .val (.int cr), .val (.int lf), .val (.ref ml), .val (.int (bg (0 : Int32) (0 : Int32))), .val (.int t3), .val (.int t1), .val (.int (bg (0 : Int32) t1)), .val (.int (bg (0 : Int32) t3)), .val (.int v73), .val (.int (bg (0 : Int32) t3))] [(.int t1), (.int (bg (0 : Int32) t1))])) _
            refine XS.ifYes X92.here hx rfl (pc0 := 222) (pc' := 229) rfl (hb hby at_222) rfl ((if0 _ _).trans (flt q96).2.2.2) (by decide) (by decide) ?_
            show Steps p.tables e below (T92.setTop (mkF m 229 #[.val (.int p0), .val (.int p1), .val (.int p2), .val (.int p3), .val (.int p4), .val (.int p5), .val (.int mo), .val (.int ct), .val (.int cr), .val (.int lf), .val (.ref ml), .val (.int (bg (0 : Int32) (0 : Int32))), .val (.int t3), .val (.int t1), .val (.int (bg (0 : Int32) t1)), .val (.int (bg (0 : Int32) t3)), .val (.int v73), .val (.int (bg (0 : Int32) t3))] [(.int (bg (0 : Int32) t1))])) _
            refine XS.iconst X92.here hx rfl (hb hby at_229) ?_
            have ev_v97 : v97 = (0 : Int32) := by rw [hv_v97, if_neg q96]
            rw [ev_v97] at ktg
            exact ktg
          done)
        have pre99 : Rch p.tables e below (s₁.setTop (entryFrame m #[(.int p0), (.int p1), (.int p2), (.int p3), (.int p4), (.int p5)] maxLocals)) (T92.setTop (mkF m 252 #[.val (.int p0), .val (.int p1), .val (.int p2), .val (.int p3), .val (.int p4), .val (.int p5), .val (.int mo), .val (.int ct), .val (.int cr), .val (.int lf), .val (.ref ml), .val (.int (bg (0 : Int32) (0 : Int32))), .val (.int t3), .val (.int t1), .val (.int (bg (0 : Int32) t1)), .val (.int (bg (0 : Int32) t3)), .val (.int v73), .val (.int (bg (0 : Int32) t3))] [(.int (1 : Int32))])) := fun tgt ktg => pre98 tgt (by
          show Steps p.tables e below (T92.setTop (mkF m 230 #[.val (.int p0), .val (.int p1), .val (.int p2), .val (.int p3), .val (.int p4), .val (.int p5), .val (.int mo), .val (.int ct), .val (.int cr), .val (.int lf), .val (.ref ml), .val (.int (bg (0 : Int32) (0 : Int32))), .val (.int t3), .val (.int t1), .val (.int (bg (0 : Int32) t1)), .val (.int (bg (0 : Int32) t3)), .val (.int v73), .val (.int (bg (0 : Int32) t3))] [(.int v97), (.int (bg (0 : Int32) t1))])) _
          refine XS.icmpNo X92.here hx rfl (hb hby at_230) rfl (teq (own_af hv_v97)).2 ?_
          show Steps p.tables e below (T92.setTop (mkF m 233 #[.val (.int p0), .val (.int p1), .val (.int p2), .val (.int p3), .val (.int p4), .val (.int p5), .val (.int mo), .val (.int ct), .val (.int cr), .val (.int lf), .val (.ref ml), .val (.int (bg (0 : Int32) (0 : Int32))), .val (.int t3), .val (.int t1), .val (.int (bg (0 : Int32) t1)), .val (.int (bg (0 : Int32) t3)), .val (.int v73), .val (.int (bg (0 : Int32) t3))] [])) _
          refine XS.iload X92.here hx rfl (hb hby at_233) rfl ?_
          show Steps p.tables e below (T92.setTop (mkF m 235 #[.val (.int p0), .val (.int p1), .val (.int p2), .val (.int p3), .val (.int p4), .val (.int p5), .val (.int mo), .val (.int ct), .val (.int cr), .val (.int lf), .val (.ref ml), .val (.int (bg (0 : Int32) (0 : Int32))), .val (.int t3), .val (.int t1), .val (.int (bg (0 : Int32) t1)), .val (.int (bg (0 : Int32) t3)), .val (.int v73), .val (.int (bg (0 : Int32) t3))] [(.int (bg (0 : Int32) t3))])) _
          refine XS.iload X92.here hx rfl (hb hby at_235) rfl ?_
          show Steps p.tables e below (T92.setTop (mkF m 237 #[.val (.int p0), .val (.int p1), .val (.int p2), .val (.int p3), .val (.int p4), .val (.int p5), .val (.int mo), .val (.int ct), .val (.int cr), .val (.int lf), .val (.ref ml), .val (.int (bg (0 : Int32) (0 : Int32))), .val (.int t3), .val (.int t1), .val (.int (bg (0 : Int32) t1)), .val (.int (bg (0 : Int32) t3)), .val (.int v73), .val (.int (bg (0 : Int32) t3))] [(.int v73), (.int (bg (0 : Int32) t3))])) _
          refine XS.icmpNo X92.here hx rfl (hb hby at_237) rfl (teq (own_ex hv_v73)).2 ?_
          show Steps p.tables e below (T92.setTop (mkF m 240 #[.val (.int p0), .val (.int p1), .val (.int p2), .val (.int p3), .val (.int p4), .val (.int p5), .val (.int mo), .val (.int ct), .val (.int cr), .val (.int lf), .val (.ref ml), .val (.int (bg (0 : Int32) (0 : Int32))), .val (.int t3), .val (.int t1), .val (.int (bg (0 : Int32) t1)), .val (.int (bg (0 : Int32) t3)), .val (.int v73), .val (.int (bg (0 : Int32) t3))] [])) _
          refine XS.iload X92.here hx rfl (hb hby at_240) rfl ?_
          show Steps p.tables e below (T92.setTop (mkF m 242 #[.val (.int p0), .val (.int p1), .val (.int p2), .val (.int p3), .val (.int p4), .val (.int p5), .val (.int mo), .val (.int ct), .val (.int cr), .val (.int lf), .val (.ref ml), .val (.int (bg (0 : Int32) (0 : Int32))), .val (.int t3), .val (.int t1), .val (.int (bg (0 : Int32) t1)), .val (.int (bg (0 : Int32) t3)), .val (.int v73), .val (.int (bg (0 : Int32) t3))] [(.int (bg (0 : Int32) t3))])) _
          refine XS.iload X92.here hx rfl (hb hby at_242) rfl ?_
          show Steps p.tables e below (T92.setTop (mkF m 244 #[.val (.int p0), .val (.int p1), .val (.int p2), .val (.int p3), .val (.int p4), .val (.int p5), .val (.int mo), .val (.int ct), .val (.int cr), .val (.int lf), .val (.ref ml), .val (.int (bg (0 : Int32) (0 : Int32))), .val (.int t3), .val (.int t1), .val (.int (bg (0 : Int32) t1)), .val (.int (bg (0 : Int32) t3)), .val (.int v73), .val (.int (bg (0 : Int32) t3))] [(.int v73), (.int (bg (0 : Int32) t3))])) _
          refine XS.icmpNo X92.here hx rfl (hb hby at_244) rfl (teq (own_ex hv_v73)).2 ?_
          show Steps p.tables e below (T92.setTop (mkF m 247 #[.val (.int p0), .val (.int p1), .val (.int p2), .val (.int p3), .val (.int p4), .val (.int p5), .val (.int mo), .val (.int ct), .val (.int cr), .val (.int lf), .val (.ref ml), .val (.int (bg (0 : Int32) (0 : Int32))), .val (.int t3), .val (.int t1), .val (.int (bg (0 : Int32) t1)), .val (.int (bg (0 : Int32) t3)), .val (.int v73), .val (.int (bg (0 : Int32) t3))] [])) _
          refine XS.iconst X92.here hx rfl (hb hby at_247) ?_
          show Steps p.tables e below (T92.setTop (mkF m 248 #[.val (.int p0), .val (.int p1), .val (.int p2), .val (.int p3), .val (.int p4), .val (.int p5), .val (.int mo), .val (.int ct), .val (.int cr), .val (.int lf), .val (.ref ml), .val (.int (bg (0 : Int32) (0 : Int32))), .val (.int t3), .val (.int t1), .val (.int (bg (0 : Int32) t1)), .val (.int (bg (0 : Int32) t3)), .val (.int v73), .val (.int (bg (0 : Int32) t3))] [(.int (1 : Int32))])) _
          refine XS.goto X92.here hx rfl (pc0 := 248) (pc' := 252) rfl (hb hby at_248) (by decide) (by decide) ?_
          exact ktg)
        obtain ⟨fs, hr, hrun, hended, hW, hsame⟩ := X92.leave (v := some (.int (1 : Int32))) (fun h => by rw [Bd.returns] at h; cases h)
        refine ⟨_, _, pre99 _ ?_, hrun, hended, _, _, rfl, ?_, ⟨_, rfl⟩, hW, hsame.mono (by decide) (by decide)⟩
        · show Steps p.tables e below (T92.setTop (mkF m 252 #[.val (.int p0), .val (.int p1), .val (.int p2), .val (.int p3), .val (.int p4), .val (.int p5), .val (.int mo), .val (.int ct), .val (.int cr), .val (.int lf), .val (.ref ml), .val (.int (bg (0 : Int32) (0 : Int32))), .val (.int t3), .val (.int t1), .val (.int (bg (0 : Int32) t1)), .val (.int (bg (0 : Int32) t3)), .val (.int v73), .val (.int (bg (0 : Int32) t3))] [(.int (1 : Int32))])) _
          exact retN X92 hx (t := .boolean) Bd.returns (by simp) (hb hby at_252) hr
        · show Q0 Z p0 p1 p2 p3 p4 p5 h0 n0 _ T92.heap _
          rw [eh92]
          exact ⟨rfl, N93⟩
      · skip
        have pre100 : Rch p.tables e below (s₁.setTop (entryFrame m #[(.int p0), (.int p1), (.int p2), (.int p3), (.int p4), (.int p5)] maxLocals)) (T69.setTop (mkF m 198 #[.val (.int p0), .val (.int p1), .val (.int p2), .val (.int p3), .val (.int p4), .val (.int p5), .val (.int mo), .val (.int ct), .val (.int cr), .val (.int lf), .val (.ref ml), .val (.int (bg (0 : Int32) (0 : Int32))), .val (.int t3), .val (.int t1), .val (.int (bg (0 : Int32) t1)), .val (.int (bg (0 : Int32) t3)), .val (.int v73), .unset] [])) := fun tgt ktg => pre88 tgt (by
          show Steps p.tables e below (T69.setTop (mkF m 195 #[.val (.int p0), .val (.int p1), .val (.int p2), .val (.int p3), .val (.int p4), .val (.int p5), .val (.int mo), .val (.int ct), .val (.int cr), .val (.int lf), .val (.ref ml), .val (.int (bg (0 : Int32) (0 : Int32))), .val (.int t3), .val (.int t1), .val (.int (bg (0 : Int32) t1)), .val (.int (bg (0 : Int32) t3)), .val (.int v73), .unset] [(.int v73)])) _
          refine XS.ifNo X69.here hx rfl (hb hby at_195) rfl ((if0 _ _).trans (feq c89).1) ?_
          exact ktg)
        have pre101 : Rch p.tables e below (s₁.setTop (entryFrame m #[(.int p0), (.int p1), (.int p2), (.int p3), (.int p4), (.int p5)] maxLocals)) (T69.setTop (mkF m 202 #[.val (.int p0), .val (.int p1), .val (.int p2), .val (.int p3), .val (.int p4), .val (.int p5), .val (.int mo), .val (.int ct), .val (.int cr), .val (.int lf), .val (.ref ml), .val (.int (bg (0 : Int32) (0 : Int32))), .val (.int t3), .val (.int t1), .val (.int (bg (0 : Int32) t1)), .val (.int (bg (0 : Int32) t3)), .val (.int v73), .unset] [(.int (10 : Int32)), (.ref ml)])) := fun tgt ktg => pre100 tgt (by
          show Steps p.tables e below (T69.setTop (mkF m 198 #[.val (.int p0), .val (.int p1), .val (.int p2), .val (.int p3), .val (.int p4), .val (.int p5), .val (.int mo), .val (.int ct), .val (.int cr), .val (.int lf), .val (.ref ml), .val (.int (bg (0 : Int32) (0 : Int32))), .val (.int t3), .val (.int t1), .val (.int (bg (0 : Int32) t1)), .val (.int (bg (0 : Int32) t3)), .val (.int v73), .unset] [])) _
          refine XS.aload X69.here hx rfl (hb hby at_198) rfl rfl ?_
          show Steps p.tables e below (T69.setTop (mkF m 200 #[.val (.int p0), .val (.int p1), .val (.int p2), .val (.int p3), .val (.int p4), .val (.int p5), .val (.int mo), .val (.int ct), .val (.int cr), .val (.int lf), .val (.ref ml), .val (.int (bg (0 : Int32) (0 : Int32))), .val (.int t3), .val (.int t1), .val (.int (bg (0 : Int32) t1)), .val (.int (bg (0 : Int32) t3)), .val (.int v73), .unset] [(.ref ml)])) _
          refine XS.bipush X69.here hx rfl (hb hby at_200) ?_
          exact ktg)
        obtain ⟨cq102, kq102, q102a, q102b, q102c⟩ := isOf hZ eh69 M3'.1
        obtain ⟨_, _, ⟨T102, L102, k102, n102⟩, -, X102, ⟨Lc102, hQ102, l102, y102, z102⟩, st102⟩ := X69.virtualBack hx (y := (⟨"com/example/subjectline/subjectline/server/MessageLine", "take", "(I)Z"⟩ : MethodName)) (z := (⟨"com/example/subjectline/subjectline/server/MessageLine", "take", "(I)Z"⟩ : MethodName)) hown (mvT hZ (hw _ (List.mem_of_getElem? (i := 56) rfl))) (mvT hZ (hw _ (List.mem_of_getElem? (i := 57) rfl))) (notFace_of_selects (args := #[]) (mvT hZ (hw _ (List.mem_of_getElem? (i := 59) rfl)))) (mvT hZ (hw _ (List.mem_of_getElem? (i := 59) rfl))) (mvT hZ (hw _ (List.mem_of_getElem? (i := 58) rfl))) (by decide) (backOf (W := 0) (rmTn l Z a0 hw [] ml sb va kv (0 : Int32) t3 mo cs T60.heap n0 z63 M3') hZ (hw _ (List.mem_of_getElem? (i := 60) rfl)) (hw _ (List.mem_of_getElem? (i := 2) rfl)) (by decide) (by decide)) q102a q102c (g := (mkF m 202 #[.val (.int p0), .val (.int p1), .val (.int p2), .val (.int p3), .val (.int p4), .val (.int p5), .val (.int mo), .val (.int ct), .val (.int cr), .val (.int lf), .val (.ref ml), .val (.int (bg (0 : Int32) (0 : Int32))), .val (.int t3), .val (.int t1), .val (.int (bg (0 : Int32) t1)), .val (.int (bg (0 : Int32) t3)), .val (.int v73), .unset] [(.int (10 : Int32)), (.ref ml)])) rfl (by rw [hml]; rfl) (Steps.refl _) (argsL := [(.int (10 : Int32))]) (rest := []) (lenOf pd_7 rfl) rfl (by show 2 * 0 + _ ≤ _; exact Nat.le_of_eq rfl) (hb hby at_202) (fun _ _ => ⟨rfl, eh69, (by decide : 3 + 0 ≤ _), (by decide : 23 + 0 ≤ _)⟩)
        dsimp only [Pt.U, Pt.locs, Pt.cells, Pt.slots] at X102 l102 y102 z102 st102 hQ102
        subst l102 y102 z102
        obtain ⟨rfl, Nq102, eh102⟩ := hQ102
        have N103 := Fr.app N70 Nq102
        have pre102 : Rch p.tables e below (s₁.setTop (entryFrame m #[(.int p0), (.int p1), (.int p2), (.int p3), (.int p4), (.int p5)] maxLocals)) (T102.setTop (mkF m 205 #[.val (.int p0), .val (.int p1), .val (.int p2), .val (.int p3), .val (.int p4), .val (.int p5), .val (.int mo), .val (.int ct), .val (.int cr), .val (.int lf), .val (.ref ml), .val (.int (bg (0 : Int32) (0 : Int32))), .val (.int t3), .val (.int t1), .val (.int (bg (0 : Int32) t1)), .val (.int (bg (0 : Int32) t3)), .val (.int v73), .unset] [(.int (1 : Int32))])) := fun tgt ktg => pre101 tgt (st102.trans ktg)
        have pre104 : Rch p.tables e below (s₁.setTop (entryFrame m #[(.int p0), (.int p1), (.int p2), (.int p3), (.int p4), (.int p5)] maxLocals)) (T102.setTop (mkF m 208 #[.val (.int p0), .val (.int p1), .val (.int p2), .val (.int p3), .val (.int p4), .val (.int p5), .val (.int mo), .val (.int ct), .val (.int cr), .val (.int lf), .val (.ref ml), .val (.int (bg (0 : Int32) (0 : Int32))), .val (.int t3), .val (.int t1), .val (.int (bg (0 : Int32) t1)), .val (.int (bg (0 : Int32) t3)), .val (.int v73), .unset] [(.ref ml)])) := fun tgt ktg => pre102 tgt (by
          show Steps p.tables e below (T102.setTop (mkF m 205 #[.val (.int p0), .val (.int p1), .val (.int p2), .val (.int p3), .val (.int p4), .val (.int p5), .val (.int mo), .val (.int ct), .val (.int cr), .val (.int lf), .val (.ref ml), .val (.int (bg (0 : Int32) (0 : Int32))), .val (.int t3), .val (.int t1), .val (.int (bg (0 : Int32) t1)), .val (.int (bg (0 : Int32) t3)), .val (.int v73), .unset] [(.int (1 : Int32))])) _
          refine XT.pop X102.here hx rfl (hb hby at_205) rfl rfl ?_
          show Steps p.tables e below (T102.setTop (mkF m 206 #[.val (.int p0), .val (.int p1), .val (.int p2), .val (.int p3), .val (.int p4), .val (.int p5), .val (.int mo), .val (.int ct), .val (.int cr), .val (.int lf), .val (.ref ml), .val (.int (bg (0 : Int32) (0 : Int32))), .val (.int t3), .val (.int t1), .val (.int (bg (0 : Int32) t1)), .val (.int (bg (0 : Int32) t3)), .val (.int v73), .unset] [])) _
          refine XS.aload X102.here hx rfl (hb hby at_206) rfl rfl ?_
          exact ktg)
        obtain ⟨cq105, kq105, q105a, q105b, q105c⟩ := isOf hZ eh102 M3'.1
        obtain ⟨_, _, ⟨T105, L105, k105, n105⟩, -, X105, ⟨Lc105, hQ105, l105, y105, z105⟩, st105⟩ := X102.virtualBack hx (y := (⟨"com/example/subjectline/subjectline/server/MessageLine", "begun", "()Z"⟩ : MethodName)) (z := (⟨"com/example/subjectline/subjectline/server/MessageLine", "begun", "()Z"⟩ : MethodName)) hown (mvT hZ (hw _ (List.mem_of_getElem? (i := 33) rfl))) (mvT hZ (hw _ (List.mem_of_getElem? (i := 34) rfl))) (notFace_of_selects (args := #[]) (mvT hZ (hw _ (List.mem_of_getElem? (i := 36) rfl)))) (mvT hZ (hw _ (List.mem_of_getElem? (i := 36) rfl))) (mvT hZ (hw _ (List.mem_of_getElem? (i := 35) rfl))) (by decide) (backOf (W := 0) (rm5 l Z a0 hw [] ml sb va kv (0 : Int32) t3 mo cs T60.heap n0 z63 M3') hZ (hw _ (List.mem_of_getElem? (i := 37) rfl)) (hw _ (List.mem_of_getElem? (i := 2) rfl)) (by decide) (by decide)) q105a q105c (g := (mkF m 208 #[.val (.int p0), .val (.int p1), .val (.int p2), .val (.int p3), .val (.int p4), .val (.int p5), .val (.int mo), .val (.int ct), .val (.int cr), .val (.int lf), .val (.ref ml), .val (.int (bg (0 : Int32) (0 : Int32))), .val (.int t3), .val (.int t1), .val (.int (bg (0 : Int32) t1)), .val (.int (bg (0 : Int32) t3)), .val (.int v73), .unset] [(.ref ml)])) rfl (by rw [hml]; rfl) (Steps.refl _) (argsL := []) (rest := []) (lenOf pd_3 rfl) rfl (by show 2 * 0 + _ ≤ _; exact Nat.le_of_eq rfl) (hb hby at_208) (fun _ _ => ⟨rfl, eh102, (by decide : 3 + 0 ≤ _), (by decide : 23 + 0 ≤ _)⟩)
        dsimp only [Pt.U, Pt.locs, Pt.cells, Pt.slots] at X105 l105 y105 z105 st105 hQ105
        subst l105 y105 z105
        obtain ⟨rfl, Nq105, eh105⟩ := hQ105
        have N106 := Fr.app N103 Nq105
        have pre105 : Rch p.tables e below (s₁.setTop (entryFrame m #[(.int p0), (.int p1), (.int p2), (.int p3), (.int p4), (.int p5)] maxLocals)) (T105.setTop (mkF m 211 #[.val (.int p0), .val (.int p1), .val (.int p2), .val (.int p3), .val (.int p4), .val (.int p5), .val (.int mo), .val (.int ct), .val (.int cr), .val (.int lf), .val (.ref ml), .val (.int (bg (0 : Int32) (0 : Int32))), .val (.int t3), .val (.int t1), .val (.int (bg (0 : Int32) t1)), .val (.int (bg (0 : Int32) t3)), .val (.int v73), .unset] [(.int (bg (0 : Int32) t3))])) := fun tgt ktg => pre104 tgt (st105.trans ktg)
        have pre107 : Rch p.tables e below (s₁.setTop (entryFrame m #[(.int p0), (.int p1), (.int p2), (.int p3), (.int p4), (.int p5)] maxLocals)) (T105.setTop (mkF m 215 #[.val (.int p0), .val (.int p1), .val (.int p2), .val (.int p3), .val (.int p4), .val (.int p5), .val (.int mo), .val (.int ct), .val (.int cr), .val (.int lf), .val (.ref ml), .val (.int (bg (0 : Int32) (0 : Int32))), .val (.int t3), .val (.int t1), .val (.int (bg (0 : Int32) t1)), .val (.int (bg (0 : Int32) t3)), .val (.int v73), .val (.int (bg (0 : Int32) t3))] [(.int (bg (0 : Int32) (0 : Int32)))])) := fun tgt ktg => pre105 tgt (by
          show Steps p.tables e below (T105.setTop (mkF m 211 #[.val (.int p0), .val (.int p1), .val (.int p2), .val (.int p3), .val (.int p4), .val (.int p5), .val (.int mo), .val (.int ct), .val (.int cr), .val (.int lf), .val (.ref ml), .val (.int (bg (0 : Int32) (0 : Int32))), .val (.int t3), .val (.int t1), .val (.int (bg (0 : Int32) t1)), .val (.int (bg (0 : Int32) t3)), .val (.int v73), .unset] [(.int (bg (0 : Int32) t3))])) _
          refine XS.istore X105.here hx rfl (hb hby at_211) rfl (l' := #[.val (.int p0), .val (.int p1), .val (.int p2), .val (.int p3), .val (.int p4), .val (.int p5), .val (.int mo), .val (.int ct), .val (.int cr), .val (.int lf), .val (.ref ml), .val (.int (bg (0 : Int32) (0 : Int32))), .val (.int t3), .val (.int t1), .val (.int (bg (0 : Int32) t1)), .val (.int (bg (0 : Int32) t3)), .val (.int v73), .val (.int (bg (0 : Int32) t3))]) rfl ?_
          show Steps p.tables e below (T105.setTop (mkF m 213 #[.val (.int p0), .val (.int p1), .val (.int p2), .val (.int p3), .val (.int p4), .val (.int p5), .val (.int mo), .val (.int ct), .val (.int cr), .val (.int lf), .val (.ref ml), .val (.int (bg (0 : Int32) (0 : Int32))), .val (.int t3), .val (.int t1), .val (.int (bg (0 : Int32) t1)), .val (.int (bg (0 : Int32) t3)), .val (.int v73), .val (.int (bg (0 : Int32) t3))] [])) _
          refine XS.iload X105.here hx rfl (hb hby at_213) rfl ?_
          exact ktg)
        have pre108 : Rch p.tables e below (s₁.setTop (entryFrame m #[(.int p0), (.int p1), (.int p2), (.int p3), (.int p4), (.int p5)] maxLocals)) (T105.setTop (mkF m 222 #[.val (.int p0), .val (.int p1), .val (.int p2), .val (.int p3), .val (.int p4), .val (.int p5), .val (.int mo), .val (.int ct), .val (.int cr), .val (.int lf), .val (.ref ml), .val (.int (bg (0 : Int32) (0 : Int32))), .val (.int t3), .val (.int t1), .val (.int (bg (0 : Int32) t1)), .val (.int (bg (0 : Int32) t3)), .val (.int v73), .val (.int (bg (0 : Int32) t3))] [(.int t1), (.int (bg (0 : Int32) t1))])) := fun tgt ktg => pre107 tgt (by
          show Steps p.tables e below (T105.setTop (mkF m 215 #[.val (.int p0), .val (.int p1), .val (.int p2), .val (.int p3), .val (.int p4), .val (.int p5), .val (.int mo), .val (.int ct), .val (.int cr), .val (.int lf), .val (.ref ml), .val (.int (bg (0 : Int32) (0 : Int32))), .val (.int t3), .val (.int t1), .val (.int (bg (0 : Int32) t1)), .val (.int (bg (0 : Int32) t3)), .val (.int v73), .val (.int (bg (0 : Int32) t3))] [(.int (bg (0 : Int32) (0 : Int32)))])) _
          refine XS.ifNo X105.here hx rfl (hb hby at_215) rfl ((if0 _ _).trans (teq (rfl : bg 0 0 = 0)).2) ?_
          show Steps p.tables e below (T105.setTop (mkF m 218 #[.val (.int p0), .val (.int p1), .val (.int p2), .val (.int p3), .val (.int p4), .val (.int p5), .val (.int mo), .val (.int ct), .val (.int cr), .val (.int lf), .val (.ref ml), .val (.int (bg (0 : Int32) (0 : Int32))), .val (.int t3), .val (.int t1), .val (.int (bg (0 : Int32) t1)), .val (.int (bg (0 : Int32) t3)), .val (.int v73), .val (.int (bg (0 : Int32) t3))] [])) _
          refine XS.iload X105.here hx rfl (hb hby at_218) rfl ?_
          show Steps p.tables e below (T105.setTop (mkF m 220 #[.val (.int p0), .val (.int p1), .val (.int p2), .val (.int p3), .val (.int p4), .val (.int p5), .val (.int mo), .val (.int ct), .val (.int cr), .val (.int lf), .val (.ref ml), .val (.int (bg (0 : Int32) (0 : Int32))), .val (.int t3), .val (.int t1), .val (.int (bg (0 : Int32) t1)), .val (.int (bg (0 : Int32) t3)), .val (.int v73), .val (.int (bg (0 : Int32) t3))] [(.int (bg (0 : Int32) t1))])) _
          refine XS.iload X105.here hx rfl (hb hby at_220) rfl ?_
          exact ktg)
        obtain ⟨v110, hv_v110⟩ : ∃ nm_ : Int32, nm_ = (if (0 : Int32) < t1 then (1 : Int32) else (0 : Int32)) := ⟨_, rfl⟩
        have pre111 : Rch p.tables e below (s₁.setTop (entryFrame m #[(.int p0), (.int p1), (.int p2), (.int p3), (.int p4), (.int p5)] maxLocals)) (T105.setTop (mkF m 230 #[.val (.int p0), .val (.int p1), .val (.int p2), .val (.int p3), .val (.int p4), .val (.int p5), .val (.int mo), .val (.int ct), .val (.int cr), .val (.int lf), .val (.ref ml), .val (.int (bg (0 : Int32) (0 : Int32))), .val (.int t3), .val (.int t1), .val (.int (bg (0 : Int32) t1)), .val (.int (bg (0 : Int32) t3)), .val (.int v73), .val (.int (bg (0 : Int32) t3))] [(.int v110), (.int (bg (0 : Int32) t1))])) := fun tgt ktg => pre108 tgt (by
          by_cases q109 : (0 : Int32) < t1
          · skip
            show Steps p.tables e below (T105.setTop (mkF m 222 #[.val (.int p0), .val (.int p1), .val (.int p2), .val (.int p3), .val (.int p4), .val (.int p5), .val (.int mo), .val (.int ct), .val (.int cr), .val (.int lf), .val (.ref ml), .val (.int (bg (0 : Int32) (0 : Int32))), .val (.int t3), .val (.int t1), .val (.int (bg (0 : Int32) t1)), .val (.int (bg (0 : Int32) t3)), .val (.int v73), .val (.int (bg (0 : Int32) t3))] [(.int t1), (.int (bg (0 : Int32) t1))])) _
            refine XS.ifNo X105.here hx rfl (hb hby at_222) rfl ((if0 _ _).trans (tlt q109).2.2.2) ?_
            show Steps p.tables e below (T105.setTop (mkF m 225 #[.val (.int p0), .val (.int p1), .val (.int p2), .val (.int p3), .val (.int p4), .val (.int p5), .val (.int mo), .val (.int ct), .val (.int cr), .val (.int lf), .val (.ref ml), .val (.int (bg (0 : Int32) (0 : Int32))), .val (.int t3), .val (.int t1), .val (.int (bg (0 : Int32) t1)), .val (.int (bg (0 : Int32) t3)), .val (.int v73), .val (.int (bg (0 : Int32) t3))] [(.int (bg (0 : Int32) t1))])) _
            refine XS.iconst X105.here hx rfl (hb hby at_225) ?_
            show Steps p.tables e below (T105.setTop (mkF m 226 #[.val (.int p0), .val (.int p1), .val (.int p2), .val (.int p3), .val (.int p4), .val (.int p5), .val (.int mo), .val (.int ct), .val (.int cr), .val (.int lf), .val (.ref ml), .val (.int (bg (0 : Int32) (0 : Int32))), .val (.int t3), .val (.int t1), .val (.int (bg (0 : Int32) t1)), .val (.int (bg (0 : Int32) t3)), .val (.int v73), .val (.int (bg (0 : Int32) t3))] [(.int (1 : Int32)), (.int (bg (0 : Int32) t1))])) _
            refine XS.goto X105.here hx rfl (pc0 := 226) (pc' := 230) rfl (hb hby at_226) (by decide) (by decide) ?_
            have ev_v110 : v110 = (1 : Int32) := by rw [hv_v110, if_pos q109]
            rw [ev_v110] at ktg
            exact ktg
          · skip
            show Steps p.tables e below (T105.setTop (mkF m 222 #[.val (.int p0), .val (.int p1), .val (.int p2), .val (.int p3), .val (.int p4), .val (.int p5), .val (.int mo), .val (.int ct), .val (.int cr), .val (.int lf), .val (.ref ml), .val (.int (bg (0 : Int32) (0 : Int32))), .val (.int t3), .val (.int t1), .val (.int (bg (0 : Int32) t1)), .val (.int (bg (0 : Int32) t3)), .val (.int v73), .val (.int (bg (0 : Int32) t3))] [(.int t1), (.int (bg (0 : Int32) t1))])) _
            refine XS.ifYes X105.here hx rfl (pc0 := 222) (pc' := 229) rfl (hb hby at_222) rfl ((if0 _ _).trans (flt q109).2.2.2) (by decide) (by decide) ?_
            show Steps p.tables e below (T105.setTop (mkF m 229 #[.val (.int p0), .val (.int p1), .val (.int p2), .val (.int p3), .val (.int p4), .val (.int p5), .val (.int mo), .val (.int ct), .val (.int cr), .val (.int lf), .val (.ref ml), .val (.int (bg (0 : Int32) (0 : Int32))), .val (.int t3), .val (.int t1), .val (.int (bg (0 : Int32) t1)), .val (.int (bg (0 : Int32) t3)), .val (.int v73), .val (.int (bg (0 : Int32) t3))] [(.int (bg (0 : Int32) t1))])) _
            refine XS.iconst X105.here hx rfl (hb hby at_229) ?_
            have ev_v110 : v110 = (0 : Int32) := by rw [hv_v110, if_neg q109]
            rw [ev_v110] at ktg
            exact ktg
          done)
        have pre112 : Rch p.tables e below (s₁.setTop (entryFrame m #[(.int p0), (.int p1), (.int p2), (.int p3), (.int p4), (.int p5)] maxLocals)) (T105.setTop (mkF m 252 #[.val (.int p0), .val (.int p1), .val (.int p2), .val (.int p3), .val (.int p4), .val (.int p5), .val (.int mo), .val (.int ct), .val (.int cr), .val (.int lf), .val (.ref ml), .val (.int (bg (0 : Int32) (0 : Int32))), .val (.int t3), .val (.int t1), .val (.int (bg (0 : Int32) t1)), .val (.int (bg (0 : Int32) t3)), .val (.int v73), .val (.int (bg (0 : Int32) t3))] [(.int (1 : Int32))])) := fun tgt ktg => pre111 tgt (by
          show Steps p.tables e below (T105.setTop (mkF m 230 #[.val (.int p0), .val (.int p1), .val (.int p2), .val (.int p3), .val (.int p4), .val (.int p5), .val (.int mo), .val (.int ct), .val (.int cr), .val (.int lf), .val (.ref ml), .val (.int (bg (0 : Int32) (0 : Int32))), .val (.int t3), .val (.int t1), .val (.int (bg (0 : Int32) t1)), .val (.int (bg (0 : Int32) t3)), .val (.int v73), .val (.int (bg (0 : Int32) t3))] [(.int v110), (.int (bg (0 : Int32) t1))])) _
          refine XS.icmpNo X105.here hx rfl (hb hby at_230) rfl (teq (own_af hv_v110)).2 ?_
          show Steps p.tables e below (T105.setTop (mkF m 233 #[.val (.int p0), .val (.int p1), .val (.int p2), .val (.int p3), .val (.int p4), .val (.int p5), .val (.int mo), .val (.int ct), .val (.int cr), .val (.int lf), .val (.ref ml), .val (.int (bg (0 : Int32) (0 : Int32))), .val (.int t3), .val (.int t1), .val (.int (bg (0 : Int32) t1)), .val (.int (bg (0 : Int32) t3)), .val (.int v73), .val (.int (bg (0 : Int32) t3))] [])) _
          refine XS.iload X105.here hx rfl (hb hby at_233) rfl ?_
          show Steps p.tables e below (T105.setTop (mkF m 235 #[.val (.int p0), .val (.int p1), .val (.int p2), .val (.int p3), .val (.int p4), .val (.int p5), .val (.int mo), .val (.int ct), .val (.int cr), .val (.int lf), .val (.ref ml), .val (.int (bg (0 : Int32) (0 : Int32))), .val (.int t3), .val (.int t1), .val (.int (bg (0 : Int32) t1)), .val (.int (bg (0 : Int32) t3)), .val (.int v73), .val (.int (bg (0 : Int32) t3))] [(.int (bg (0 : Int32) t3))])) _
          refine XS.iload X105.here hx rfl (hb hby at_235) rfl ?_
          show Steps p.tables e below (T105.setTop (mkF m 237 #[.val (.int p0), .val (.int p1), .val (.int p2), .val (.int p3), .val (.int p4), .val (.int p5), .val (.int mo), .val (.int ct), .val (.int cr), .val (.int lf), .val (.ref ml), .val (.int (bg (0 : Int32) (0 : Int32))), .val (.int t3), .val (.int t1), .val (.int (bg (0 : Int32) t1)), .val (.int (bg (0 : Int32) t3)), .val (.int v73), .val (.int (bg (0 : Int32) t3))] [(.int v73), (.int (bg (0 : Int32) t3))])) _
          refine XS.icmpNo X105.here hx rfl (hb hby at_237) rfl (teq (own_ex hv_v73)).2 ?_
          show Steps p.tables e below (T105.setTop (mkF m 240 #[.val (.int p0), .val (.int p1), .val (.int p2), .val (.int p3), .val (.int p4), .val (.int p5), .val (.int mo), .val (.int ct), .val (.int cr), .val (.int lf), .val (.ref ml), .val (.int (bg (0 : Int32) (0 : Int32))), .val (.int t3), .val (.int t1), .val (.int (bg (0 : Int32) t1)), .val (.int (bg (0 : Int32) t3)), .val (.int v73), .val (.int (bg (0 : Int32) t3))] [])) _
          refine XS.iload X105.here hx rfl (hb hby at_240) rfl ?_
          show Steps p.tables e below (T105.setTop (mkF m 242 #[.val (.int p0), .val (.int p1), .val (.int p2), .val (.int p3), .val (.int p4), .val (.int p5), .val (.int mo), .val (.int ct), .val (.int cr), .val (.int lf), .val (.ref ml), .val (.int (bg (0 : Int32) (0 : Int32))), .val (.int t3), .val (.int t1), .val (.int (bg (0 : Int32) t1)), .val (.int (bg (0 : Int32) t3)), .val (.int v73), .val (.int (bg (0 : Int32) t3))] [(.int (bg (0 : Int32) t3))])) _
          refine XS.iload X105.here hx rfl (hb hby at_242) rfl ?_
          show Steps p.tables e below (T105.setTop (mkF m 244 #[.val (.int p0), .val (.int p1), .val (.int p2), .val (.int p3), .val (.int p4), .val (.int p5), .val (.int mo), .val (.int ct), .val (.int cr), .val (.int lf), .val (.ref ml), .val (.int (bg (0 : Int32) (0 : Int32))), .val (.int t3), .val (.int t1), .val (.int (bg (0 : Int32) t1)), .val (.int (bg (0 : Int32) t3)), .val (.int v73), .val (.int (bg (0 : Int32) t3))] [(.int v73), (.int (bg (0 : Int32) t3))])) _
          refine XS.icmpNo X105.here hx rfl (hb hby at_244) rfl (teq (own_ex hv_v73)).2 ?_
          show Steps p.tables e below (T105.setTop (mkF m 247 #[.val (.int p0), .val (.int p1), .val (.int p2), .val (.int p3), .val (.int p4), .val (.int p5), .val (.int mo), .val (.int ct), .val (.int cr), .val (.int lf), .val (.ref ml), .val (.int (bg (0 : Int32) (0 : Int32))), .val (.int t3), .val (.int t1), .val (.int (bg (0 : Int32) t1)), .val (.int (bg (0 : Int32) t3)), .val (.int v73), .val (.int (bg (0 : Int32) t3))] [])) _
          refine XS.iconst X105.here hx rfl (hb hby at_247) ?_
          show Steps p.tables e below (T105.setTop (mkF m 248 #[.val (.int p0), .val (.int p1), .val (.int p2), .val (.int p3), .val (.int p4), .val (.int p5), .val (.int mo), .val (.int ct), .val (.int cr), .val (.int lf), .val (.ref ml), .val (.int (bg (0 : Int32) (0 : Int32))), .val (.int t3), .val (.int t1), .val (.int (bg (0 : Int32) t1)), .val (.int (bg (0 : Int32) t3)), .val (.int v73), .val (.int (bg (0 : Int32) t3))] [(.int (1 : Int32))])) _
          refine XS.goto X105.here hx rfl (pc0 := 248) (pc' := 252) rfl (hb hby at_248) (by decide) (by decide) ?_
          exact ktg)
        obtain ⟨fs, hr, hrun, hended, hW, hsame⟩ := X105.leave (v := some (.int (1 : Int32))) (fun h => by rw [Bd.returns] at h; cases h)
        refine ⟨_, _, pre112 _ ?_, hrun, hended, _, _, rfl, ?_, ⟨_, rfl⟩, hW, hsame.mono (by decide) (by decide)⟩
        · show Steps p.tables e below (T105.setTop (mkF m 252 #[.val (.int p0), .val (.int p1), .val (.int p2), .val (.int p3), .val (.int p4), .val (.int p5), .val (.int mo), .val (.int ct), .val (.int cr), .val (.int lf), .val (.ref ml), .val (.int (bg (0 : Int32) (0 : Int32))), .val (.int t3), .val (.int t1), .val (.int (bg (0 : Int32) t1)), .val (.int (bg (0 : Int32) t3)), .val (.int v73), .val (.int (bg (0 : Int32) t3))] [(.int (1 : Int32))])) _
          exact retN X105 hx (t := .boolean) Bd.returns (by simp) (hb hby at_252) hr
        · show Q0 Z p0 p1 p2 p3 p4 p5 h0 n0 _ T105.heap _
          rw [eh105]
          exact ⟨rfl, N106⟩
  · skip
    have pre113 : Rch p.tables e below (s₁.setTop (entryFrame m #[(.int p0), (.int p1), (.int p2), (.int p3), (.int p4), (.int p5)] maxLocals)) (T60.setTop (mkF m 156 #[.val (.int p0), .val (.int p1), .val (.int p2), .val (.int p3), .val (.int p4), .val (.int p5), .val (.int mo), .val (.int ct), .val (.int cr), .val (.int lf), .val (.ref ml), .val (.int (bg (0 : Int32) (0 : Int32))), .val (.int t3), .val (.int t1), .val (.int (bg (0 : Int32) t1)), .unset, .unset, .unset] [])) := fun tgt ktg => pre65 tgt (by
      show Steps p.tables e below (T60.setTop (mkF m 153 #[.val (.int p0), .val (.int p1), .val (.int p2), .val (.int p3), .val (.int p4), .val (.int p5), .val (.int mo), .val (.int ct), .val (.int cr), .val (.int lf), .val (.ref ml), .val (.int (bg (0 : Int32) (0 : Int32))), .val (.int t3), .val (.int t1), .val (.int (bg (0 : Int32) t1)), .unset, .unset, .unset] [(.int cr)])) _
      refine XS.ifNo X60.here hx rfl (hb hby at_153) rfl ((if0 _ _).trans (feq c66).1) ?_
      exact ktg)
    have pre114 : Rch p.tables e below (s₁.setTop (entryFrame m #[(.int p0), (.int p1), (.int p2), (.int p3), (.int p4), (.int p5)] maxLocals)) (T60.setTop (mkF m 160 #[.val (.int p0), .val (.int p1), .val (.int p2), .val (.int p3), .val (.int p4), .val (.int p5), .val (.int mo), .val (.int ct), .val (.int cr), .val (.int lf), .val (.ref ml), .val (.int (bg (0 : Int32) (0 : Int32))), .val (.int t3), .val (.int t1), .val (.int (bg (0 : Int32) t1)), .unset, .unset, .unset] [(.int (13 : Int32)), (.ref ml)])) := fun tgt ktg => pre113 tgt (by
      show Steps p.tables e below (T60.setTop (mkF m 156 #[.val (.int p0), .val (.int p1), .val (.int p2), .val (.int p3), .val (.int p4), .val (.int p5), .val (.int mo), .val (.int ct), .val (.int cr), .val (.int lf), .val (.ref ml), .val (.int (bg (0 : Int32) (0 : Int32))), .val (.int t3), .val (.int t1), .val (.int (bg (0 : Int32) t1)), .unset, .unset, .unset] [])) _
      refine XS.aload X60.here hx rfl (hb hby at_156) rfl rfl ?_
      show Steps p.tables e below (T60.setTop (mkF m 158 #[.val (.int p0), .val (.int p1), .val (.int p2), .val (.int p3), .val (.int p4), .val (.int p5), .val (.int mo), .val (.int ct), .val (.int cr), .val (.int lf), .val (.ref ml), .val (.int (bg (0 : Int32) (0 : Int32))), .val (.int t3), .val (.int t1), .val (.int (bg (0 : Int32) t1)), .unset, .unset, .unset] [(.ref ml)])) _
      refine XS.bipush X60.here hx rfl (hb hby at_158) ?_
      exact ktg)
    obtain ⟨cq115, kq115, q115a, q115b, q115c⟩ := isOf hZ rfl M3'.1
    obtain ⟨_, _, ⟨T115, L115, k115, n115⟩, -, X115, ⟨Lc115, hQ115, l115, y115, z115⟩, st115⟩ := X60.virtualBack hx (y := (⟨"com/example/subjectline/subjectline/server/MessageLine", "take", "(I)Z"⟩ : MethodName)) (z := (⟨"com/example/subjectline/subjectline/server/MessageLine", "take", "(I)Z"⟩ : MethodName)) hown (mvT hZ (hw _ (List.mem_of_getElem? (i := 56) rfl))) (mvT hZ (hw _ (List.mem_of_getElem? (i := 57) rfl))) (notFace_of_selects (args := #[]) (mvT hZ (hw _ (List.mem_of_getElem? (i := 59) rfl)))) (mvT hZ (hw _ (List.mem_of_getElem? (i := 59) rfl))) (mvT hZ (hw _ (List.mem_of_getElem? (i := 58) rfl))) (by decide) (backOf (W := 0) (rmTr l Z a0 hw [] ml sb va kv t3 mo cs T60.heap n0 z63 M3' g_ml gs gv) hZ (hw _ (List.mem_of_getElem? (i := 60) rfl)) (hw _ (List.mem_of_getElem? (i := 2) rfl)) (by decide) (by decide)) q115a q115c (g := (mkF m 160 #[.val (.int p0), .val (.int p1), .val (.int p2), .val (.int p3), .val (.int p4), .val (.int p5), .val (.int mo), .val (.int ct), .val (.int cr), .val (.int lf), .val (.ref ml), .val (.int (bg (0 : Int32) (0 : Int32))), .val (.int t3), .val (.int t1), .val (.int (bg (0 : Int32) t1)), .unset, .unset, .unset] [(.int (13 : Int32)), (.ref ml)])) rfl (by rw [hml]; rfl) (Steps.refl _) (argsL := [(.int (13 : Int32))]) (rest := []) (lenOf pd_7 rfl) rfl (by show 2 * 0 + _ ≤ _; exact Nat.le_of_eq rfl) (hb hby at_160) (fun _ _ => ⟨rfl, rfl, (by decide : 3 + 0 ≤ _), (by decide : 23 + 0 ≤ _)⟩)
    dsimp only [Pt.U, Pt.locs, Pt.cells, Pt.slots] at X115 l115 y115 z115 st115 hQ115
    subst l115 y115 z115
    obtain ⟨rfl, Nq115, Kq115, M9⟩ := hQ115
    have N116 := Fr.app N61 Nq115
    have pre115 : Rch p.tables e below (s₁.setTop (entryFrame m #[(.int p0), (.int p1), (.int p2), (.int p3), (.int p4), (.int p5)] maxLocals)) (T115.setTop (mkF m 163 #[.val (.int p0), .val (.int p1), .val (.int p2), .val (.int p3), .val (.int p4), .val (.int p5), .val (.int mo), .val (.int ct), .val (.int cr), .val (.int lf), .val (.ref ml), .val (.int (bg (0 : Int32) (0 : Int32))), .val (.int t3), .val (.int t1), .val (.int (bg (0 : Int32) t1)), .unset, .unset, .unset] [(.int (0 : Int32))])) := fun tgt ktg => pre114 tgt (st115.trans ktg)
    have f117 : Exa Z T115.heap ml "com/example/subjectline/subjectline/server/MessageLine" := M3'.1.keep Kq115
    have z118 : n0 ≤ T115.heap.size := Nat.le_trans z63 Kq115.1
    have pre119 : Rch p.tables e below (s₁.setTop (entryFrame m #[(.int p0), (.int p1), (.int p2), (.int p3), (.int p4), (.int p5)] maxLocals)) (T115.setTop (mkF m 166 #[.val (.int p0), .val (.int p1), .val (.int p2), .val (.int p3), .val (.int p4), .val (.int p5), .val (.int mo), .val (.int ct), .val (.int cr), .val (.int lf), .val (.ref ml), .val (.int (bg (0 : Int32) (0 : Int32))), .val (.int t3), .val (.int t1), .val (.int (bg (0 : Int32) t1)), .unset, .unset, .unset] [(.ref ml)])) := fun tgt ktg => pre115 tgt (by
      show Steps p.tables e below (T115.setTop (mkF m 163 #[.val (.int p0), .val (.int p1), .val (.int p2), .val (.int p3), .val (.int p4), .val (.int p5), .val (.int mo), .val (.int ct), .val (.int cr), .val (.int lf), .val (.ref ml), .val (.int (bg (0 : Int32) (0 : Int32))), .val (.int t3), .val (.int t1), .val (.int (bg (0 : Int32) t1)), .unset, .unset, .unset] [(.int (0 : Int32))])) _
      refine XT.pop X115.here hx rfl (hb hby at_163) rfl rfl ?_
      show Steps p.tables e below (T115.setTop (mkF m 164 #[.val (.int p0), .val (.int p1), .val (.int p2), .val (.int p3), .val (.int p4), .val (.int p5), .val (.int mo), .val (.int ct), .val (.int cr), .val (.int lf), .val (.ref ml), .val (.int (bg (0 : Int32) (0 : Int32))), .val (.int t3), .val (.int t1), .val (.int (bg (0 : Int32) t1)), .unset, .unset, .unset] [])) _
      refine XS.aload X115.here hx rfl (hb hby at_164) rfl rfl ?_
      exact ktg)
    obtain ⟨cq120, kq120, q120a, q120b, q120c⟩ := isOf hZ rfl M9.1
    obtain ⟨_, _, ⟨T120, L120, k120, n120⟩, -, X120, ⟨Lc120, hQ120, l120, y120, z120⟩, st120⟩ := X115.virtualBack hx (y := (⟨"com/example/subjectline/subjectline/server/MessageLine", "begun", "()Z"⟩ : MethodName)) (z := (⟨"com/example/subjectline/subjectline/server/MessageLine", "begun", "()Z"⟩ : MethodName)) hown (mvT hZ (hw _ (List.mem_of_getElem? (i := 33) rfl))) (mvT hZ (hw _ (List.mem_of_getElem? (i := 34) rfl))) (notFace_of_selects (args := #[]) (mvT hZ (hw _ (List.mem_of_getElem? (i := 36) rfl)))) (mvT hZ (hw _ (List.mem_of_getElem? (i := 36) rfl))) (mvT hZ (hw _ (List.mem_of_getElem? (i := 35) rfl))) (by decide) (backOf (W := 0) (rm5 l Z a0 hw [] ml sb va kv (1 : Int32) t3 mo cs T115.heap n0 z118 M9) hZ (hw _ (List.mem_of_getElem? (i := 37) rfl)) (hw _ (List.mem_of_getElem? (i := 2) rfl)) (by decide) (by decide)) q120a q120c (g := (mkF m 166 #[.val (.int p0), .val (.int p1), .val (.int p2), .val (.int p3), .val (.int p4), .val (.int p5), .val (.int mo), .val (.int ct), .val (.int cr), .val (.int lf), .val (.ref ml), .val (.int (bg (0 : Int32) (0 : Int32))), .val (.int t3), .val (.int t1), .val (.int (bg (0 : Int32) t1)), .unset, .unset, .unset] [(.ref ml)])) rfl (by rw [hml]; rfl) (Steps.refl _) (argsL := []) (rest := []) (lenOf pd_3 rfl) rfl (by show 2 * 0 + _ ≤ _; exact Nat.le_of_eq rfl) (hb hby at_166) (fun _ _ => ⟨rfl, rfl, (by decide : 3 + 0 ≤ _), (by decide : 23 + 0 ≤ _)⟩)
    dsimp only [Pt.U, Pt.locs, Pt.cells, Pt.slots] at X120 l120 y120 z120 st120 hQ120
    subst l120 y120 z120
    obtain ⟨rfl, Nq120, eh120⟩ := hQ120
    have N121 := Fr.app N116 Nq120
    have pre120 : Rch p.tables e below (s₁.setTop (entryFrame m #[(.int p0), (.int p1), (.int p2), (.int p3), (.int p4), (.int p5)] maxLocals)) (T120.setTop (mkF m 169 #[.val (.int p0), .val (.int p1), .val (.int p2), .val (.int p3), .val (.int p4), .val (.int p5), .val (.int mo), .val (.int ct), .val (.int cr), .val (.int lf), .val (.ref ml), .val (.int (bg (0 : Int32) (0 : Int32))), .val (.int t3), .val (.int t1), .val (.int (bg (0 : Int32) t1)), .unset, .unset, .unset] [(.int (bg (1 : Int32) t3))])) := fun tgt ktg => pre119 tgt (st120.trans ktg)
    have pre122 : Rch p.tables e below (s₁.setTop (entryFrame m #[(.int p0), (.int p1), (.int p2), (.int p3), (.int p4), (.int p5)] maxLocals)) (T120.setTop (mkF m 171 #[.val (.int p0), .val (.int p1), .val (.int p2), .val (.int p3), .val (.int p4), .val (.int p5), .val (.int mo), .val (.int ct), .val (.int cr), .val (.int lf), .val (.ref ml), .val (.int (bg (0 : Int32) (0 : Int32))), .val (.int t3), .val (.int t1), .val (.int (bg (0 : Int32) t1)), .val (.int (bg (1 : Int32) t3)), .unset, .unset] [])) := fun tgt ktg => pre120 tgt (by
      show Steps p.tables e below (T120.setTop (mkF m 169 #[.val (.int p0), .val (.int p1), .val (.int p2), .val (.int p3), .val (.int p4), .val (.int p5), .val (.int mo), .val (.int ct), .val (.int cr), .val (.int lf), .val (.ref ml), .val (.int (bg (0 : Int32) (0 : Int32))), .val (.int t3), .val (.int t1), .val (.int (bg (0 : Int32) t1)), .unset, .unset, .unset] [(.int (bg (1 : Int32) t3))])) _
      refine XS.istore X120.here hx rfl (hb hby at_169) rfl (l' := #[.val (.int p0), .val (.int p1), .val (.int p2), .val (.int p3), .val (.int p4), .val (.int p5), .val (.int mo), .val (.int ct), .val (.int cr), .val (.int lf), .val (.ref ml), .val (.int (bg (0 : Int32) (0 : Int32))), .val (.int t3), .val (.int t1), .val (.int (bg (0 : Int32) t1)), .val (.int (bg (1 : Int32) t3)), .unset, .unset]) rfl ?_
      exact ktg)
    have pre124 : Rch p.tables e below (s₁.setTop (entryFrame m #[(.int p0), (.int p1), (.int p2), (.int p3), (.int p4), (.int p5)] maxLocals)) (T120.setTop (mkF m 186 #[.val (.int p0), .val (.int p1), .val (.int p2), .val (.int p3), .val (.int p4), .val (.int p5), .val (.int mo), .val (.int ct), .val (.int cr), .val (.int lf), .val (.ref ml), .val (.int (bg (0 : Int32) (0 : Int32))), .val (.int t3), .val (.int t1), .val (.int (bg (0 : Int32) t1)), .val (.int (bg (1 : Int32) t3)), .unset, .unset] [(.int (1 : Int32))])) := fun tgt ktg => pre122 tgt (by
      show Steps p.tables e below (T120.setTop (mkF m 171 #[.val (.int p0), .val (.int p1), .val (.int p2), .val (.int p3), .val (.int p4), .val (.int p5), .val (.int mo), .val (.int ct), .val (.int cr), .val (.int lf), .val (.ref ml), .val (.int (bg (0 : Int32) (0 : Int32))), .val (.int t3), .val (.int t1), .val (.int (bg (0 : Int32) t1)), .val (.int (bg (1 : Int32) t3)), .unset, .unset] [])) _
      refine XS.iload X120.here hx rfl (hb hby at_171) rfl ?_
      by_cases q123 : (0 : Int32) < t3
      · skip
        show Steps p.tables e below (T120.setTop (mkF m 173 #[.val (.int p0), .val (.int p1), .val (.int p2), .val (.int p3), .val (.int p4), .val (.int p5), .val (.int mo), .val (.int ct), .val (.int cr), .val (.int lf), .val (.ref ml), .val (.int (bg (0 : Int32) (0 : Int32))), .val (.int t3), .val (.int t1), .val (.int (bg (0 : Int32) t1)), .val (.int (bg (1 : Int32) t3)), .unset, .unset] [(.int t3)])) _
        refine XS.ifYes X120.here hx rfl (pc0 := 173) (pc' := 181) rfl (hb hby at_173) rfl ((if0 _ _).trans (tlt q123).2.2.1) (by decide) (by decide) ?_
        show Steps p.tables e below (T120.setTop (mkF m 181 #[.val (.int p0), .val (.int p1), .val (.int p2), .val (.int p3), .val (.int p4), .val (.int p5), .val (.int mo), .val (.int ct), .val (.int cr), .val (.int lf), .val (.ref ml), .val (.int (bg (0 : Int32) (0 : Int32))), .val (.int t3), .val (.int t1), .val (.int (bg (0 : Int32) t1)), .val (.int (bg (1 : Int32) t3)), .unset, .unset] [])) _
        refine XS.iconst X120.here hx rfl (hb hby at_181) ?_
        show Steps p.tables e below (T120.setTop (mkF m 182 #[.val (.int p0), .val (.int p1), .val (.int p2), .val (.int p3), .val (.int p4), .val (.int p5), .val (.int mo), .val (.int ct), .val (.int cr), .val (.int lf), .val (.ref ml), .val (.int (bg (0 : Int32) (0 : Int32))), .val (.int t3), .val (.int t1), .val (.int (bg (0 : Int32) t1)), .val (.int (bg (1 : Int32) t3)), .unset, .unset] [(.int (1 : Int32))])) _
        refine XS.goto X120.here hx rfl (pc0 := 182) (pc' := 186) rfl (hb hby at_182) (by decide) (by decide) ?_
        exact ktg
      · skip
        show Steps p.tables e below (T120.setTop (mkF m 173 #[.val (.int p0), .val (.int p1), .val (.int p2), .val (.int p3), .val (.int p4), .val (.int p5), .val (.int mo), .val (.int ct), .val (.int cr), .val (.int lf), .val (.ref ml), .val (.int (bg (0 : Int32) (0 : Int32))), .val (.int t3), .val (.int t1), .val (.int (bg (0 : Int32) t1)), .val (.int (bg (1 : Int32) t3)), .unset, .unset] [(.int t3)])) _
        refine XS.ifNo X120.here hx rfl (hb hby at_173) rfl ((if0 _ _).trans (flt q123).2.2.1) ?_
        show Steps p.tables e below (T120.setTop (mkF m 176 #[.val (.int p0), .val (.int p1), .val (.int p2), .val (.int p3), .val (.int p4), .val (.int p5), .val (.int mo), .val (.int ct), .val (.int cr), .val (.int lf), .val (.ref ml), .val (.int (bg (0 : Int32) (0 : Int32))), .val (.int t3), .val (.int t1), .val (.int (bg (0 : Int32) t1)), .val (.int (bg (1 : Int32) t3)), .unset, .unset] [])) _
        refine XS.iload X120.here hx rfl (hb hby at_176) rfl ?_
        show Steps p.tables e below (T120.setTop (mkF m 178 #[.val (.int p0), .val (.int p1), .val (.int p2), .val (.int p3), .val (.int p4), .val (.int p5), .val (.int mo), .val (.int ct), .val (.int cr), .val (.int lf), .val (.ref ml), .val (.int (bg (0 : Int32) (0 : Int32))), .val (.int t3), .val (.int t1), .val (.int (bg (0 : Int32) t1)), .val (.int (bg (1 : Int32) t3)), .unset, .unset] [(.int cr)])) _
        refine XS.ifNo X120.here hx rfl (hb hby at_178) rfl ((if0 _ _).trans (feq c66).1) ?_
        show Steps p.tables e below (T120.setTop (mkF m 181 #[.val (.int p0), .val (.int p1), .val (.int p2), .val (.int p3), .val (.int p4), .val (.int p5), .val (.int mo), .val (.int ct), .val (.int cr), .val (.int lf), .val (.ref ml), .val (.int (bg (0 : Int32) (0 : Int32))), .val (.int t3), .val (.int t1), .val (.int (bg (0 : Int32) t1)), .val (.int (bg (1 : Int32) t3)), .unset, .unset] [])) _
        refine XS.iconst X120.here hx rfl (hb hby at_181) ?_
        show Steps p.tables e below (T120.setTop (mkF m 182 #[.val (.int p0), .val (.int p1), .val (.int p2), .val (.int p3), .val (.int p4), .val (.int p5), .val (.int mo), .val (.int ct), .val (.int cr), .val (.int lf), .val (.ref ml), .val (.int (bg (0 : Int32) (0 : Int32))), .val (.int t3), .val (.int t1), .val (.int (bg (0 : Int32) t1)), .val (.int (bg (1 : Int32) t3)), .unset, .unset] [(.int (1 : Int32))])) _
        refine XS.goto X120.here hx rfl (pc0 := 182) (pc' := 186) rfl (hb hby at_182) (by decide) (by decide) ?_
        exact ktg
      done)
    have pre125 : Rch p.tables e below (s₁.setTop (entryFrame m #[(.int p0), (.int p1), (.int p2), (.int p3), (.int p4), (.int p5)] maxLocals)) (T120.setTop (mkF m 190 #[.val (.int p0), .val (.int p1), .val (.int p2), .val (.int p3), .val (.int p4), .val (.int p5), .val (.int mo), .val (.int ct), .val (.int cr), .val (.int lf), .val (.ref ml), .val (.int (bg (0 : Int32) (0 : Int32))), .val (.int t3), .val (.int t1), .val (.int (bg (0 : Int32) t1)), .val (.int (bg (1 : Int32) t3)), .val (.int (1 : Int32)), .unset] [(.int lf)])) := fun tgt ktg => pre124 tgt (by
      show Steps p.tables e below (T120.setTop (mkF m 186 #[.val (.int p0), .val (.int p1), .val (.int p2), .val (.int p3), .val (.int p4), .val (.int p5), .val (.int mo), .val (.int ct), .val (.int cr), .val (.int lf), .val (.ref ml), .val (.int (bg (0 : Int32) (0 : Int32))), .val (.int t3), .val (.int t1), .val (.int (bg (0 : Int32) t1)), .val (.int (bg (1 : Int32) t3)), .unset, .unset] [(.int (1 : Int32))])) _
      refine XS.istore X120.here hx rfl (hb hby at_186) rfl (l' := #[.val (.int p0), .val (.int p1), .val (.int p2), .val (.int p3), .val (.int p4), .val (.int p5), .val (.int mo), .val (.int ct), .val (.int cr), .val (.int lf), .val (.ref ml), .val (.int (bg (0 : Int32) (0 : Int32))), .val (.int t3), .val (.int t1), .val (.int (bg (0 : Int32) t1)), .val (.int (bg (1 : Int32) t3)), .val (.int (1 : Int32)), .unset]) rfl ?_
      show Steps p.tables e below (T120.setTop (mkF m 188 #[.val (.int p0), .val (.int p1), .val (.int p2), .val (.int p3), .val (.int p4), .val (.int p5), .val (.int mo), .val (.int ct), .val (.int cr), .val (.int lf), .val (.ref ml), .val (.int (bg (0 : Int32) (0 : Int32))), .val (.int t3), .val (.int t1), .val (.int (bg (0 : Int32) t1)), .val (.int (bg (1 : Int32) t3)), .val (.int (1 : Int32)), .unset] [])) _
      refine XS.iload X120.here hx rfl (hb hby at_188) rfl ?_
      exact ktg)
    by_cases c126 : lf = (0 : Int32)
    · skip
      have pre127 : Rch p.tables e below (s₁.setTop (entryFrame m #[(.int p0), (.int p1), (.int p2), (.int p3), (.int p4), (.int p5)] maxLocals)) (T120.setTop (mkF m 206 #[.val (.int p0), .val (.int p1), .val (.int p2), .val (.int p3), .val (.int p4), .val (.int p5), .val (.int mo), .val (.int ct), .val (.int cr), .val (.int lf), .val (.ref ml), .val (.int (bg (0 : Int32) (0 : Int32))), .val (.int t3), .val (.int t1), .val (.int (bg (0 : Int32) t1)), .val (.int (bg (1 : Int32) t3)), .val (.int (1 : Int32)), .unset] [])) := fun tgt ktg => pre125 tgt (by
        show Steps p.tables e below (T120.setTop (mkF m 190 #[.val (.int p0), .val (.int p1), .val (.int p2), .val (.int p3), .val (.int p4), .val (.int p5), .val (.int mo), .val (.int ct), .val (.int cr), .val (.int lf), .val (.ref ml), .val (.int (bg (0 : Int32) (0 : Int32))), .val (.int t3), .val (.int t1), .val (.int (bg (0 : Int32) t1)), .val (.int (bg (1 : Int32) t3)), .val (.int (1 : Int32)), .unset] [(.int lf)])) _
        refine XS.ifYes X120.here hx rfl (pc0 := 190) (pc' := 206) rfl (hb hby at_190) rfl ((if0 _ _).trans (teq c126).1) (by decide) (by decide) ?_
        exact ktg)
      have pre128 : Rch p.tables e below (s₁.setTop (entryFrame m #[(.int p0), (.int p1), (.int p2), (.int p3), (.int p4), (.int p5)] maxLocals)) (T120.setTop (mkF m 208 #[.val (.int p0), .val (.int p1), .val (.int p2), .val (.int p3), .val (.int p4), .val (.int p5), .val (.int mo), .val (.int ct), .val (.int cr), .val (.int lf), .val (.ref ml), .val (.int (bg (0 : Int32) (0 : Int32))), .val (.int t3), .val (.int t1), .val (.int (bg (0 : Int32) t1)), .val (.int (bg (1 : Int32) t3)), .val (.int (1 : Int32)), .unset] [(.ref ml)])) := fun tgt ktg => pre127 tgt (by
        show Steps p.tables e below (T120.setTop (mkF m 206 #[.val (.int p0), .val (.int p1), .val (.int p2), .val (.int p3), .val (.int p4), .val (.int p5), .val (.int mo), .val (.int ct), .val (.int cr), .val (.int lf), .val (.ref ml), .val (.int (bg (0 : Int32) (0 : Int32))), .val (.int t3), .val (.int t1), .val (.int (bg (0 : Int32) t1)), .val (.int (bg (1 : Int32) t3)), .val (.int (1 : Int32)), .unset] [])) _
        refine XS.aload X120.here hx rfl (hb hby at_206) rfl rfl ?_
        exact ktg)
      obtain ⟨cq129, kq129, q129a, q129b, q129c⟩ := isOf hZ eh120 M9.1
      obtain ⟨_, _, ⟨T129, L129, k129, n129⟩, -, X129, ⟨Lc129, hQ129, l129, y129, z129⟩, st129⟩ := X120.virtualBack hx (y := (⟨"com/example/subjectline/subjectline/server/MessageLine", "begun", "()Z"⟩ : MethodName)) (z := (⟨"com/example/subjectline/subjectline/server/MessageLine", "begun", "()Z"⟩ : MethodName)) hown (mvT hZ (hw _ (List.mem_of_getElem? (i := 33) rfl))) (mvT hZ (hw _ (List.mem_of_getElem? (i := 34) rfl))) (notFace_of_selects (args := #[]) (mvT hZ (hw _ (List.mem_of_getElem? (i := 36) rfl)))) (mvT hZ (hw _ (List.mem_of_getElem? (i := 36) rfl))) (mvT hZ (hw _ (List.mem_of_getElem? (i := 35) rfl))) (by decide) (backOf (W := 0) (rm5 l Z a0 hw [] ml sb va kv (1 : Int32) t3 mo cs T115.heap n0 z118 M9) hZ (hw _ (List.mem_of_getElem? (i := 37) rfl)) (hw _ (List.mem_of_getElem? (i := 2) rfl)) (by decide) (by decide)) q129a q129c (g := (mkF m 208 #[.val (.int p0), .val (.int p1), .val (.int p2), .val (.int p3), .val (.int p4), .val (.int p5), .val (.int mo), .val (.int ct), .val (.int cr), .val (.int lf), .val (.ref ml), .val (.int (bg (0 : Int32) (0 : Int32))), .val (.int t3), .val (.int t1), .val (.int (bg (0 : Int32) t1)), .val (.int (bg (1 : Int32) t3)), .val (.int (1 : Int32)), .unset] [(.ref ml)])) rfl (by rw [hml]; rfl) (Steps.refl _) (argsL := []) (rest := []) (lenOf pd_3 rfl) rfl (by show 2 * 0 + _ ≤ _; exact Nat.le_of_eq rfl) (hb hby at_208) (fun _ _ => ⟨rfl, eh120, (by decide : 3 + 0 ≤ _), (by decide : 23 + 0 ≤ _)⟩)
      dsimp only [Pt.U, Pt.locs, Pt.cells, Pt.slots] at X129 l129 y129 z129 st129 hQ129
      subst l129 y129 z129
      obtain ⟨rfl, Nq129, eh129⟩ := hQ129
      have N130 := Fr.app N121 Nq129
      have pre129 : Rch p.tables e below (s₁.setTop (entryFrame m #[(.int p0), (.int p1), (.int p2), (.int p3), (.int p4), (.int p5)] maxLocals)) (T129.setTop (mkF m 211 #[.val (.int p0), .val (.int p1), .val (.int p2), .val (.int p3), .val (.int p4), .val (.int p5), .val (.int mo), .val (.int ct), .val (.int cr), .val (.int lf), .val (.ref ml), .val (.int (bg (0 : Int32) (0 : Int32))), .val (.int t3), .val (.int t1), .val (.int (bg (0 : Int32) t1)), .val (.int (bg (1 : Int32) t3)), .val (.int (1 : Int32)), .unset] [(.int (bg (1 : Int32) t3))])) := fun tgt ktg => pre128 tgt (st129.trans ktg)
      have pre131 : Rch p.tables e below (s₁.setTop (entryFrame m #[(.int p0), (.int p1), (.int p2), (.int p3), (.int p4), (.int p5)] maxLocals)) (T129.setTop (mkF m 215 #[.val (.int p0), .val (.int p1), .val (.int p2), .val (.int p3), .val (.int p4), .val (.int p5), .val (.int mo), .val (.int ct), .val (.int cr), .val (.int lf), .val (.ref ml), .val (.int (bg (0 : Int32) (0 : Int32))), .val (.int t3), .val (.int t1), .val (.int (bg (0 : Int32) t1)), .val (.int (bg (1 : Int32) t3)), .val (.int (1 : Int32)), .val (.int (bg (1 : Int32) t3))] [(.int (bg (0 : Int32) (0 : Int32)))])) := fun tgt ktg => pre129 tgt (by
        show Steps p.tables e below (T129.setTop (mkF m 211 #[.val (.int p0), .val (.int p1), .val (.int p2), .val (.int p3), .val (.int p4), .val (.int p5), .val (.int mo), .val (.int ct), .val (.int cr), .val (.int lf), .val (.ref ml), .val (.int (bg (0 : Int32) (0 : Int32))), .val (.int t3), .val (.int t1), .val (.int (bg (0 : Int32) t1)), .val (.int (bg (1 : Int32) t3)), .val (.int (1 : Int32)), .unset] [(.int (bg (1 : Int32) t3))])) _
        refine XS.istore X129.here hx rfl (hb hby at_211) rfl (l' := #[.val (.int p0), .val (.int p1), .val (.int p2), .val (.int p3), .val (.int p4), .val (.int p5), .val (.int mo), .val (.int ct), .val (.int cr), .val (.int lf), .val (.ref ml), .val (.int (bg (0 : Int32) (0 : Int32))), .val (.int t3), .val (.int t1), .val (.int (bg (0 : Int32) t1)), .val (.int (bg (1 : Int32) t3)), .val (.int (1 : Int32)), .val (.int (bg (1 : Int32) t3))]) rfl ?_
        show Steps p.tables e below (T129.setTop (mkF m 213 #[.val (.int p0), .val (.int p1), .val (.int p2), .val (.int p3), .val (.int p4), .val (.int p5), .val (.int mo), .val (.int ct), .val (.int cr), .val (.int lf), .val (.ref ml), .val (.int (bg (0 : Int32) (0 : Int32))), .val (.int t3), .val (.int t1), .val (.int (bg (0 : Int32) t1)), .val (.int (bg (1 : Int32) t3)), .val (.int (1 : Int32)), .val (.int (bg (1 : Int32) t3))] [])) _
        refine XS.iload X129.here hx rfl (hb hby at_213) rfl ?_
        exact ktg)
      have pre132 : Rch p.tables e below (s₁.setTop (entryFrame m #[(.int p0), (.int p1), (.int p2), (.int p3), (.int p4), (.int p5)] maxLocals)) (T129.setTop (mkF m 222 #[.val (.int p0), .val (.int p1), .val (.int p2), .val (.int p3), .val (.int p4), .val (.int p5), .val (.int mo), .val (.int ct), .val (.int cr), .val (.int lf), .val (.ref ml), .val (.int (bg (0 : Int32) (0 : Int32))), .val (.int t3), .val (.int t1), .val (.int (bg (0 : Int32) t1)), .val (.int (bg (1 : Int32) t3)), .val (.int (1 : Int32)), .val (.int (bg (1 : Int32) t3))] [(.int t1), (.int (bg (0 : Int32) t1))])) := fun tgt ktg => pre131 tgt (by
        show Steps p.tables e below (T129.setTop (mkF m 215 #[.val (.int p0), .val (.int p1), .val (.int p2), .val (.int p3), .val (.int p4), .val (.int p5), .val (.int mo), .val (.int ct), .val (.int cr), .val (.int lf), .val (.ref ml), .val (.int (bg (0 : Int32) (0 : Int32))), .val (.int t3), .val (.int t1), .val (.int (bg (0 : Int32) t1)), .val (.int (bg (1 : Int32) t3)), .val (.int (1 : Int32)), .val (.int (bg (1 : Int32) t3))] [(.int (bg (0 : Int32) (0 : Int32)))])) _
        refine XS.ifNo X129.here hx rfl (hb hby at_215) rfl ((if0 _ _).trans (teq (rfl : bg 0 0 = 0)).2) ?_
        show Steps p.tables e below (T129.setTop (mkF m 218 #[.val (.int p0), .val (.int p1), .val (.int p2), .val (.int p3), .val (.int p4), .val (.int p5), .val (.int mo), .val (.int ct), .val (.int cr), .val (.int lf), .val (.ref ml), .val (.int (bg (0 : Int32) (0 : Int32))), .val (.int t3), .val (.int t1), .val (.int (bg (0 : Int32) t1)), .val (.int (bg (1 : Int32) t3)), .val (.int (1 : Int32)), .val (.int (bg (1 : Int32) t3))] [])) _
        refine XS.iload X129.here hx rfl (hb hby at_218) rfl ?_
        show Steps p.tables e below (T129.setTop (mkF m 220 #[.val (.int p0), .val (.int p1), .val (.int p2), .val (.int p3), .val (.int p4), .val (.int p5), .val (.int mo), .val (.int ct), .val (.int cr), .val (.int lf), .val (.ref ml), .val (.int (bg (0 : Int32) (0 : Int32))), .val (.int t3), .val (.int t1), .val (.int (bg (0 : Int32) t1)), .val (.int (bg (1 : Int32) t3)), .val (.int (1 : Int32)), .val (.int (bg (1 : Int32) t3))] [(.int (bg (0 : Int32) t1))])) _
        refine XS.iload X129.here hx rfl (hb hby at_220) rfl ?_
        exact ktg)
      obtain ⟨v134, hv_v134⟩ : ∃ nm_ : Int32, nm_ = (if (0 : Int32) < t1 then (1 : Int32) else (0 : Int32)) := ⟨_, rfl⟩
      have pre135 : Rch p.tables e below (s₁.setTop (entryFrame m #[(.int p0), (.int p1), (.int p2), (.int p3), (.int p4), (.int p5)] maxLocals)) (T129.setTop (mkF m 230 #[.val (.int p0), .val (.int p1), .val (.int p2), .val (.int p3), .val (.int p4), .val (.int p5), .val (.int mo), .val (.int ct), .val (.int cr), .val (.int lf), .val (.ref ml), .val (.int (bg (0 : Int32) (0 : Int32))), .val (.int t3), .val (.int t1), .val (.int (bg (0 : Int32) t1)), .val (.int (bg (1 : Int32) t3)), .val (.int (1 : Int32)), .val (.int (bg (1 : Int32) t3))] [(.int v134), (.int (bg (0 : Int32) t1))])) := fun tgt ktg => pre132 tgt (by
        by_cases q133 : (0 : Int32) < t1
        · skip
          show Steps p.tables e below (T129.setTop (mkF m 222 #[.val (.int p0), .val (.int p1), .val (.int p2), .val (.int p3), .val (.int p4), .val (.int p5), .val (.int mo), .val (.int ct), .val (.int cr), .val (.int lf), .val (.ref ml), .val (.int (bg (0 : Int32) (0 : Int32))), .val (.int t3), .val (.int t1), .val (.int (bg (0 : Int32) t1)), .val (.int (bg (1 : Int32) t3)), .val (.int (1 : Int32)), .val (.int (bg (1 : Int32) t3))] [(.int t1), (.int (bg (0 : Int32) t1))])) _
          refine XS.ifNo X129.here hx rfl (hb hby at_222) rfl ((if0 _ _).trans (tlt q133).2.2.2) ?_
          show Steps p.tables e below (T129.setTop (mkF m 225 #[.val (.int p0), .val (.int p1), .val (.int p2), .val (.int p3), .val (.int p4), .val (.int p5), .val (.int mo), .val (.int ct), .val (.int cr), .val (.int lf), .val (.ref ml), .val (.int (bg (0 : Int32) (0 : Int32))), .val (.int t3), .val (.int t1), .val (.int (bg (0 : Int32) t1)), .val (.int (bg (1 : Int32) t3)), .val (.int (1 : Int32)), .val (.int (bg (1 : Int32) t3))] [(.int (bg (0 : Int32) t1))])) _
          refine XS.iconst X129.here hx rfl (hb hby at_225) ?_
          show Steps p.tables e below (T129.setTop (mkF m 226 #[.val (.int p0), .val (.int p1), .val (.int p2), .val (.int p3), .val (.int p4), .val (.int p5), .val (.int mo), .val (.int ct), .val (.int cr), .val (.int lf), .val (.ref ml), .val (.int (bg (0 : Int32) (0 : Int32))), .val (.int t3), .val (.int t1), .val (.int (bg (0 : Int32) t1)), .val (.int (bg (1 : Int32) t3)), .val (.int (1 : Int32)), .val (.int (bg (1 : Int32) t3))] [(.int (1 : Int32)), (.int (bg (0 : Int32) t1))])) _
          refine XS.goto X129.here hx rfl (pc0 := 226) (pc' := 230) rfl (hb hby at_226) (by decide) (by decide) ?_
          have ev_v134 : v134 = (1 : Int32) := by rw [hv_v134, if_pos q133]
          rw [ev_v134] at ktg
          exact ktg
        · skip
          show Steps p.tables e below (T129.setTop (mkF m 222 #[.val (.int p0), .val (.int p1), .val (.int p2), .val (.int p3), .val (.int p4), .val (.int p5), .val (.int mo), .val (.int ct), .val (.int cr), .val (.int lf), .val (.ref ml), .val (.int (bg (0 : Int32) (0 : Int32))), .val (.int t3), .val (.int t1), .val (.int (bg (0 : Int32) t1)), .val (.int (bg (1 : Int32) t3)), .val (.int (1 : Int32)), .val (.int (bg (1 : Int32) t3))] [(.int t1), (.int (bg (0 : Int32) t1))])) _
          refine XS.ifYes X129.here hx rfl (pc0 := 222) (pc' := 229) rfl (hb hby at_222) rfl ((if0 _ _).trans (flt q133).2.2.2) (by decide) (by decide) ?_
          show Steps p.tables e below (T129.setTop (mkF m 229 #[.val (.int p0), .val (.int p1), .val (.int p2), .val (.int p3), .val (.int p4), .val (.int p5), .val (.int mo), .val (.int ct), .val (.int cr), .val (.int lf), .val (.ref ml), .val (.int (bg (0 : Int32) (0 : Int32))), .val (.int t3), .val (.int t1), .val (.int (bg (0 : Int32) t1)), .val (.int (bg (1 : Int32) t3)), .val (.int (1 : Int32)), .val (.int (bg (1 : Int32) t3))] [(.int (bg (0 : Int32) t1))])) _
          refine XS.iconst X129.here hx rfl (hb hby at_229) ?_
          have ev_v134 : v134 = (0 : Int32) := by rw [hv_v134, if_neg q133]
          rw [ev_v134] at ktg
          exact ktg
        done)
      have pre136 : Rch p.tables e below (s₁.setTop (entryFrame m #[(.int p0), (.int p1), (.int p2), (.int p3), (.int p4), (.int p5)] maxLocals)) (T129.setTop (mkF m 252 #[.val (.int p0), .val (.int p1), .val (.int p2), .val (.int p3), .val (.int p4), .val (.int p5), .val (.int mo), .val (.int ct), .val (.int cr), .val (.int lf), .val (.ref ml), .val (.int (bg (0 : Int32) (0 : Int32))), .val (.int t3), .val (.int t1), .val (.int (bg (0 : Int32) t1)), .val (.int (bg (1 : Int32) t3)), .val (.int (1 : Int32)), .val (.int (bg (1 : Int32) t3))] [(.int (1 : Int32))])) := fun tgt ktg => pre135 tgt (by
        show Steps p.tables e below (T129.setTop (mkF m 230 #[.val (.int p0), .val (.int p1), .val (.int p2), .val (.int p3), .val (.int p4), .val (.int p5), .val (.int mo), .val (.int ct), .val (.int cr), .val (.int lf), .val (.ref ml), .val (.int (bg (0 : Int32) (0 : Int32))), .val (.int t3), .val (.int t1), .val (.int (bg (0 : Int32) t1)), .val (.int (bg (1 : Int32) t3)), .val (.int (1 : Int32)), .val (.int (bg (1 : Int32) t3))] [(.int v134), (.int (bg (0 : Int32) t1))])) _
        refine XS.icmpNo X129.here hx rfl (hb hby at_230) rfl (teq (own_af hv_v134)).2 ?_
        show Steps p.tables e below (T129.setTop (mkF m 233 #[.val (.int p0), .val (.int p1), .val (.int p2), .val (.int p3), .val (.int p4), .val (.int p5), .val (.int mo), .val (.int ct), .val (.int cr), .val (.int lf), .val (.ref ml), .val (.int (bg (0 : Int32) (0 : Int32))), .val (.int t3), .val (.int t1), .val (.int (bg (0 : Int32) t1)), .val (.int (bg (1 : Int32) t3)), .val (.int (1 : Int32)), .val (.int (bg (1 : Int32) t3))] [])) _
        refine XS.iload X129.here hx rfl (hb hby at_233) rfl ?_
        show Steps p.tables e below (T129.setTop (mkF m 235 #[.val (.int p0), .val (.int p1), .val (.int p2), .val (.int p3), .val (.int p4), .val (.int p5), .val (.int mo), .val (.int ct), .val (.int cr), .val (.int lf), .val (.ref ml), .val (.int (bg (0 : Int32) (0 : Int32))), .val (.int t3), .val (.int t1), .val (.int (bg (0 : Int32) t1)), .val (.int (bg (1 : Int32) t3)), .val (.int (1 : Int32)), .val (.int (bg (1 : Int32) t3))] [(.int (bg (1 : Int32) t3))])) _
        refine XS.iload X129.here hx rfl (hb hby at_235) rfl ?_
        show Steps p.tables e below (T129.setTop (mkF m 237 #[.val (.int p0), .val (.int p1), .val (.int p2), .val (.int p3), .val (.int p4), .val (.int p5), .val (.int mo), .val (.int ct), .val (.int cr), .val (.int lf), .val (.ref ml), .val (.int (bg (0 : Int32) (0 : Int32))), .val (.int t3), .val (.int t1), .val (.int (bg (0 : Int32) t1)), .val (.int (bg (1 : Int32) t3)), .val (.int (1 : Int32)), .val (.int (bg (1 : Int32) t3))] [(.int (1 : Int32)), (.int (bg (1 : Int32) t3))])) _
        refine XS.icmpNo X129.here hx rfl (hb hby at_237) rfl (teq (own_ex1 t3)).2 ?_
        show Steps p.tables e below (T129.setTop (mkF m 240 #[.val (.int p0), .val (.int p1), .val (.int p2), .val (.int p3), .val (.int p4), .val (.int p5), .val (.int mo), .val (.int ct), .val (.int cr), .val (.int lf), .val (.ref ml), .val (.int (bg (0 : Int32) (0 : Int32))), .val (.int t3), .val (.int t1), .val (.int (bg (0 : Int32) t1)), .val (.int (bg (1 : Int32) t3)), .val (.int (1 : Int32)), .val (.int (bg (1 : Int32) t3))] [])) _
        refine XS.iload X129.here hx rfl (hb hby at_240) rfl ?_
        show Steps p.tables e below (T129.setTop (mkF m 242 #[.val (.int p0), .val (.int p1), .val (.int p2), .val (.int p3), .val (.int p4), .val (.int p5), .val (.int mo), .val (.int ct), .val (.int cr), .val (.int lf), .val (.ref ml), .val (.int (bg (0 : Int32) (0 : Int32))), .val (.int t3), .val (.int t1), .val (.int (bg (0 : Int32) t1)), .val (.int (bg (1 : Int32) t3)), .val (.int (1 : Int32)), .val (.int (bg (1 : Int32) t3))] [(.int (bg (1 : Int32) t3))])) _
        refine XS.iload X129.here hx rfl (hb hby at_242) rfl ?_
        show Steps p.tables e below (T129.setTop (mkF m 244 #[.val (.int p0), .val (.int p1), .val (.int p2), .val (.int p3), .val (.int p4), .val (.int p5), .val (.int mo), .val (.int ct), .val (.int cr), .val (.int lf), .val (.ref ml), .val (.int (bg (0 : Int32) (0 : Int32))), .val (.int t3), .val (.int t1), .val (.int (bg (0 : Int32) t1)), .val (.int (bg (1 : Int32) t3)), .val (.int (1 : Int32)), .val (.int (bg (1 : Int32) t3))] [(.int (1 : Int32)), (.int (bg (1 : Int32) t3))])) _
        refine XS.icmpNo X129.here hx rfl (hb hby at_244) rfl (teq (own_ex1 t3)).2 ?_
        show Steps p.tables e below (T129.setTop (mkF m 247 #[.val (.int p0), .val (.int p1), .val (.int p2), .val (.int p3), .val (.int p4), .val (.int p5), .val (.int mo), .val (.int ct), .val (.int cr), .val (.int lf), .val (.ref ml), .val (.int (bg (0 : Int32) (0 : Int32))), .val (.int t3), .val (.int t1), .val (.int (bg (0 : Int32) t1)), .val (.int (bg (1 : Int32) t3)), .val (.int (1 : Int32)), .val (.int (bg (1 : Int32) t3))] [])) _
        refine XS.iconst X129.here hx rfl (hb hby at_247) ?_
        show Steps p.tables e below (T129.setTop (mkF m 248 #[.val (.int p0), .val (.int p1), .val (.int p2), .val (.int p3), .val (.int p4), .val (.int p5), .val (.int mo), .val (.int ct), .val (.int cr), .val (.int lf), .val (.ref ml), .val (.int (bg (0 : Int32) (0 : Int32))), .val (.int t3), .val (.int t1), .val (.int (bg (0 : Int32) t1)), .val (.int (bg (1 : Int32) t3)), .val (.int (1 : Int32)), .val (.int (bg (1 : Int32) t3))] [(.int (1 : Int32))])) _
        refine XS.goto X129.here hx rfl (pc0 := 248) (pc' := 252) rfl (hb hby at_248) (by decide) (by decide) ?_
        exact ktg)
      obtain ⟨fs, hr, hrun, hended, hW, hsame⟩ := X129.leave (v := some (.int (1 : Int32))) (fun h => by rw [Bd.returns] at h; cases h)
      refine ⟨_, _, pre136 _ ?_, hrun, hended, _, _, rfl, ?_, ⟨_, rfl⟩, hW, hsame.mono (by decide) (by decide)⟩
      · show Steps p.tables e below (T129.setTop (mkF m 252 #[.val (.int p0), .val (.int p1), .val (.int p2), .val (.int p3), .val (.int p4), .val (.int p5), .val (.int mo), .val (.int ct), .val (.int cr), .val (.int lf), .val (.ref ml), .val (.int (bg (0 : Int32) (0 : Int32))), .val (.int t3), .val (.int t1), .val (.int (bg (0 : Int32) t1)), .val (.int (bg (1 : Int32) t3)), .val (.int (1 : Int32)), .val (.int (bg (1 : Int32) t3))] [(.int (1 : Int32))])) _
        exact retN X129 hx (t := .boolean) Bd.returns (by simp) (hb hby at_252) hr
      · show Q0 Z p0 p1 p2 p3 p4 p5 h0 n0 _ T129.heap _
        rw [eh129]
        exact ⟨rfl, N130⟩
    · skip
      have pre137 : Rch p.tables e below (s₁.setTop (entryFrame m #[(.int p0), (.int p1), (.int p2), (.int p3), (.int p4), (.int p5)] maxLocals)) (T120.setTop (mkF m 193 #[.val (.int p0), .val (.int p1), .val (.int p2), .val (.int p3), .val (.int p4), .val (.int p5), .val (.int mo), .val (.int ct), .val (.int cr), .val (.int lf), .val (.ref ml), .val (.int (bg (0 : Int32) (0 : Int32))), .val (.int t3), .val (.int t1), .val (.int (bg (0 : Int32) t1)), .val (.int (bg (1 : Int32) t3)), .val (.int (1 : Int32)), .unset] [])) := fun tgt ktg => pre125 tgt (by
        show Steps p.tables e below (T120.setTop (mkF m 190 #[.val (.int p0), .val (.int p1), .val (.int p2), .val (.int p3), .val (.int p4), .val (.int p5), .val (.int mo), .val (.int ct), .val (.int cr), .val (.int lf), .val (.ref ml), .val (.int (bg (0 : Int32) (0 : Int32))), .val (.int t3), .val (.int t1), .val (.int (bg (0 : Int32) t1)), .val (.int (bg (1 : Int32) t3)), .val (.int (1 : Int32)), .unset] [(.int lf)])) _
        refine XS.ifNo X120.here hx rfl (hb hby at_190) rfl ((if0 _ _).trans (feq c126).1) ?_
        exact ktg)
      have pre138 : Rch p.tables e below (s₁.setTop (entryFrame m #[(.int p0), (.int p1), (.int p2), (.int p3), (.int p4), (.int p5)] maxLocals)) (T120.setTop (mkF m 195 #[.val (.int p0), .val (.int p1), .val (.int p2), .val (.int p3), .val (.int p4), .val (.int p5), .val (.int mo), .val (.int ct), .val (.int cr), .val (.int lf), .val (.ref ml), .val (.int (bg (0 : Int32) (0 : Int32))), .val (.int t3), .val (.int t1), .val (.int (bg (0 : Int32) t1)), .val (.int (bg (1 : Int32) t3)), .val (.int (1 : Int32)), .unset] [(.int (1 : Int32))])) := fun tgt ktg => pre137 tgt (by
        show Steps p.tables e below (T120.setTop (mkF m 193 #[.val (.int p0), .val (.int p1), .val (.int p2), .val (.int p3), .val (.int p4), .val (.int p5), .val (.int mo), .val (.int ct), .val (.int cr), .val (.int lf), .val (.ref ml), .val (.int (bg (0 : Int32) (0 : Int32))), .val (.int t3), .val (.int t1), .val (.int (bg (0 : Int32) t1)), .val (.int (bg (1 : Int32) t3)), .val (.int (1 : Int32)), .unset] [])) _
        refine XS.iload X120.here hx rfl (hb hby at_193) rfl ?_
        exact ktg)
      have pre139 : Rch p.tables e below (s₁.setTop (entryFrame m #[(.int p0), (.int p1), (.int p2), (.int p3), (.int p4), (.int p5)] maxLocals)) (T120.setTop (mkF m 202 #[.val (.int p0), .val (.int p1), .val (.int p2), .val (.int p3), .val (.int p4), .val (.int p5), .val (.int mo), .val (.int ct), .val (.int cr), .val (.int lf), .val (.ref ml), .val (.int (bg (0 : Int32) (0 : Int32))), .val (.int t3), .val (.int t1), .val (.int (bg (0 : Int32) t1)), .val (.int (bg (1 : Int32) t3)), .val (.int (1 : Int32)), .unset] [(.int (10 : Int32)), (.ref ml)])) := fun tgt ktg => pre138 tgt (by
        show Steps p.tables e below (T120.setTop (mkF m 195 #[.val (.int p0), .val (.int p1), .val (.int p2), .val (.int p3), .val (.int p4), .val (.int p5), .val (.int mo), .val (.int ct), .val (.int cr), .val (.int lf), .val (.ref ml), .val (.int (bg (0 : Int32) (0 : Int32))), .val (.int t3), .val (.int t1), .val (.int (bg (0 : Int32) t1)), .val (.int (bg (1 : Int32) t3)), .val (.int (1 : Int32)), .unset] [(.int (1 : Int32))])) _
        refine XS.ifNo X120.here hx rfl (hb hby at_195) rfl ((if0 _ _).trans (feq (by decide : ¬ ((1 : Int32) = (0 : Int32)))).1) ?_
        show Steps p.tables e below (T120.setTop (mkF m 198 #[.val (.int p0), .val (.int p1), .val (.int p2), .val (.int p3), .val (.int p4), .val (.int p5), .val (.int mo), .val (.int ct), .val (.int cr), .val (.int lf), .val (.ref ml), .val (.int (bg (0 : Int32) (0 : Int32))), .val (.int t3), .val (.int t1), .val (.int (bg (0 : Int32) t1)), .val (.int (bg (1 : Int32) t3)), .val (.int (1 : Int32)), .unset] [])) _
        refine XS.aload X120.here hx rfl (hb hby at_198) rfl rfl ?_
        show Steps p.tables e below (T120.setTop (mkF m 200 #[.val (.int p0), .val (.int p1), .val (.int p2), .val (.int p3), .val (.int p4), .val (.int p5), .val (.int mo), .val (.int ct), .val (.int cr), .val (.int lf), .val (.ref ml), .val (.int (bg (0 : Int32) (0 : Int32))), .val (.int t3), .val (.int t1), .val (.int (bg (0 : Int32) t1)), .val (.int (bg (1 : Int32) t3)), .val (.int (1 : Int32)), .unset] [(.ref ml)])) _
        refine XS.bipush X120.here hx rfl (hb hby at_200) ?_
        exact ktg)
      obtain ⟨cq140, kq140, q140a, q140b, q140c⟩ := isOf hZ eh120 M9.1
      obtain ⟨_, _, ⟨T140, L140, k140, n140⟩, -, X140, ⟨Lc140, hQ140, l140, y140, z140⟩, st140⟩ := X120.virtualBack hx (y := (⟨"com/example/subjectline/subjectline/server/MessageLine", "take", "(I)Z"⟩ : MethodName)) (z := (⟨"com/example/subjectline/subjectline/server/MessageLine", "take", "(I)Z"⟩ : MethodName)) hown (mvT hZ (hw _ (List.mem_of_getElem? (i := 56) rfl))) (mvT hZ (hw _ (List.mem_of_getElem? (i := 57) rfl))) (notFace_of_selects (args := #[]) (mvT hZ (hw _ (List.mem_of_getElem? (i := 59) rfl)))) (mvT hZ (hw _ (List.mem_of_getElem? (i := 59) rfl))) (mvT hZ (hw _ (List.mem_of_getElem? (i := 58) rfl))) (by decide) (backOf (W := 0) (rmTn l Z a0 hw [] ml sb va kv (1 : Int32) t3 mo cs T115.heap n0 z118 M9) hZ (hw _ (List.mem_of_getElem? (i := 60) rfl)) (hw _ (List.mem_of_getElem? (i := 2) rfl)) (by decide) (by decide)) q140a q140c (g := (mkF m 202 #[.val (.int p0), .val (.int p1), .val (.int p2), .val (.int p3), .val (.int p4), .val (.int p5), .val (.int mo), .val (.int ct), .val (.int cr), .val (.int lf), .val (.ref ml), .val (.int (bg (0 : Int32) (0 : Int32))), .val (.int t3), .val (.int t1), .val (.int (bg (0 : Int32) t1)), .val (.int (bg (1 : Int32) t3)), .val (.int (1 : Int32)), .unset] [(.int (10 : Int32)), (.ref ml)])) rfl (by rw [hml]; rfl) (Steps.refl _) (argsL := [(.int (10 : Int32))]) (rest := []) (lenOf pd_7 rfl) rfl (by show 2 * 0 + _ ≤ _; exact Nat.le_of_eq rfl) (hb hby at_202) (fun _ _ => ⟨rfl, eh120, (by decide : 3 + 0 ≤ _), (by decide : 23 + 0 ≤ _)⟩)
      dsimp only [Pt.U, Pt.locs, Pt.cells, Pt.slots] at X140 l140 y140 z140 st140 hQ140
      subst l140 y140 z140
      obtain ⟨rfl, Nq140, eh140⟩ := hQ140
      have N141 := Fr.app N121 Nq140
      have pre140 : Rch p.tables e below (s₁.setTop (entryFrame m #[(.int p0), (.int p1), (.int p2), (.int p3), (.int p4), (.int p5)] maxLocals)) (T140.setTop (mkF m 205 #[.val (.int p0), .val (.int p1), .val (.int p2), .val (.int p3), .val (.int p4), .val (.int p5), .val (.int mo), .val (.int ct), .val (.int cr), .val (.int lf), .val (.ref ml), .val (.int (bg (0 : Int32) (0 : Int32))), .val (.int t3), .val (.int t1), .val (.int (bg (0 : Int32) t1)), .val (.int (bg (1 : Int32) t3)), .val (.int (1 : Int32)), .unset] [(.int (1 : Int32))])) := fun tgt ktg => pre139 tgt (st140.trans ktg)
      have pre142 : Rch p.tables e below (s₁.setTop (entryFrame m #[(.int p0), (.int p1), (.int p2), (.int p3), (.int p4), (.int p5)] maxLocals)) (T140.setTop (mkF m 208 #[.val (.int p0), .val (.int p1), .val (.int p2), .val (.int p3), .val (.int p4), .val (.int p5), .val (.int mo), .val (.int ct), .val (.int cr), .val (.int lf), .val (.ref ml), .val (.int (bg (0 : Int32) (0 : Int32))), .val (.int t3), .val (.int t1), .val (.int (bg (0 : Int32) t1)), .val (.int (bg (1 : Int32) t3)), .val (.int (1 : Int32)), .unset] [(.ref ml)])) := fun tgt ktg => pre140 tgt (by
        show Steps p.tables e below (T140.setTop (mkF m 205 #[.val (.int p0), .val (.int p1), .val (.int p2), .val (.int p3), .val (.int p4), .val (.int p5), .val (.int mo), .val (.int ct), .val (.int cr), .val (.int lf), .val (.ref ml), .val (.int (bg (0 : Int32) (0 : Int32))), .val (.int t3), .val (.int t1), .val (.int (bg (0 : Int32) t1)), .val (.int (bg (1 : Int32) t3)), .val (.int (1 : Int32)), .unset] [(.int (1 : Int32))])) _
        refine XT.pop X140.here hx rfl (hb hby at_205) rfl rfl ?_
        show Steps p.tables e below (T140.setTop (mkF m 206 #[.val (.int p0), .val (.int p1), .val (.int p2), .val (.int p3), .val (.int p4), .val (.int p5), .val (.int mo), .val (.int ct), .val (.int cr), .val (.int lf), .val (.ref ml), .val (.int (bg (0 : Int32) (0 : Int32))), .val (.int t3), .val (.int t1), .val (.int (bg (0 : Int32) t1)), .val (.int (bg (1 : Int32) t3)), .val (.int (1 : Int32)), .unset] [])) _
        refine XS.aload X140.here hx rfl (hb hby at_206) rfl rfl ?_
        exact ktg)
      obtain ⟨cq143, kq143, q143a, q143b, q143c⟩ := isOf hZ eh140 M9.1
      obtain ⟨_, _, ⟨T143, L143, k143, n143⟩, -, X143, ⟨Lc143, hQ143, l143, y143, z143⟩, st143⟩ := X140.virtualBack hx (y := (⟨"com/example/subjectline/subjectline/server/MessageLine", "begun", "()Z"⟩ : MethodName)) (z := (⟨"com/example/subjectline/subjectline/server/MessageLine", "begun", "()Z"⟩ : MethodName)) hown (mvT hZ (hw _ (List.mem_of_getElem? (i := 33) rfl))) (mvT hZ (hw _ (List.mem_of_getElem? (i := 34) rfl))) (notFace_of_selects (args := #[]) (mvT hZ (hw _ (List.mem_of_getElem? (i := 36) rfl)))) (mvT hZ (hw _ (List.mem_of_getElem? (i := 36) rfl))) (mvT hZ (hw _ (List.mem_of_getElem? (i := 35) rfl))) (by decide) (backOf (W := 0) (rm5 l Z a0 hw [] ml sb va kv (1 : Int32) t3 mo cs T115.heap n0 z118 M9) hZ (hw _ (List.mem_of_getElem? (i := 37) rfl)) (hw _ (List.mem_of_getElem? (i := 2) rfl)) (by decide) (by decide)) q143a q143c (g := (mkF m 208 #[.val (.int p0), .val (.int p1), .val (.int p2), .val (.int p3), .val (.int p4), .val (.int p5), .val (.int mo), .val (.int ct), .val (.int cr), .val (.int lf), .val (.ref ml), .val (.int (bg (0 : Int32) (0 : Int32))), .val (.int t3), .val (.int t1), .val (.int (bg (0 : Int32) t1)), .val (.int (bg (1 : Int32) t3)), .val (.int (1 : Int32)), .unset] [(.ref ml)])) rfl (by rw [hml]; rfl) (Steps.refl _) (argsL := []) (rest := []) (lenOf pd_3 rfl) rfl (by show 2 * 0 + _ ≤ _; exact Nat.le_of_eq rfl) (hb hby at_208) (fun _ _ => ⟨rfl, eh140, (by decide : 3 + 0 ≤ _), (by decide : 23 + 0 ≤ _)⟩)
      dsimp only [Pt.U, Pt.locs, Pt.cells, Pt.slots] at X143 l143 y143 z143 st143 hQ143
      subst l143 y143 z143
      obtain ⟨rfl, Nq143, eh143⟩ := hQ143
      have N144 := Fr.app N141 Nq143
      have pre143 : Rch p.tables e below (s₁.setTop (entryFrame m #[(.int p0), (.int p1), (.int p2), (.int p3), (.int p4), (.int p5)] maxLocals)) (T143.setTop (mkF m 211 #[.val (.int p0), .val (.int p1), .val (.int p2), .val (.int p3), .val (.int p4), .val (.int p5), .val (.int mo), .val (.int ct), .val (.int cr), .val (.int lf), .val (.ref ml), .val (.int (bg (0 : Int32) (0 : Int32))), .val (.int t3), .val (.int t1), .val (.int (bg (0 : Int32) t1)), .val (.int (bg (1 : Int32) t3)), .val (.int (1 : Int32)), .unset] [(.int (bg (1 : Int32) t3))])) := fun tgt ktg => pre142 tgt (st143.trans ktg)
      have pre145 : Rch p.tables e below (s₁.setTop (entryFrame m #[(.int p0), (.int p1), (.int p2), (.int p3), (.int p4), (.int p5)] maxLocals)) (T143.setTop (mkF m 215 #[.val (.int p0), .val (.int p1), .val (.int p2), .val (.int p3), .val (.int p4), .val (.int p5), .val (.int mo), .val (.int ct), .val (.int cr), .val (.int lf), .val (.ref ml), .val (.int (bg (0 : Int32) (0 : Int32))), .val (.int t3), .val (.int t1), .val (.int (bg (0 : Int32) t1)), .val (.int (bg (1 : Int32) t3)), .val (.int (1 : Int32)), .val (.int (bg (1 : Int32) t3))] [(.int (bg (0 : Int32) (0 : Int32)))])) := fun tgt ktg => pre143 tgt (by
        show Steps p.tables e below (T143.setTop (mkF m 211 #[.val (.int p0), .val (.int p1), .val (.int p2), .val (.int p3), .val (.int p4), .val (.int p5), .val (.int mo), .val (.int ct), .val (.int cr), .val (.int lf), .val (.ref ml), .val (.int (bg (0 : Int32) (0 : Int32))), .val (.int t3), .val (.int t1), .val (.int (bg (0 : Int32) t1)), .val (.int (bg (1 : Int32) t3)), .val (.int (1 : Int32)), .unset] [(.int (bg (1 : Int32) t3))])) _
        refine XS.istore X143.here hx rfl (hb hby at_211) rfl (l' := #[.val (.int p0), .val (.int p1), .val (.int p2), .val (.int p3), .val (.int p4), .val (.int p5), .val (.int mo), .val (.int ct), .val (.int cr), .val (.int lf), .val (.ref ml), .val (.int (bg (0 : Int32) (0 : Int32))), .val (.int t3), .val (.int t1), .val (.int (bg (0 : Int32) t1)), .val (.int (bg (1 : Int32) t3)), .val (.int (1 : Int32)), .val (.int (bg (1 : Int32) t3))]) rfl ?_
        show Steps p.tables e below (T143.setTop (mkF m 213 #[.val (.int p0), .val (.int p1), .val (.int p2), .val (.int p3), .val (.int p4), .val (.int p5), .val (.int mo), .val (.int ct), .val (.int cr), .val (.int lf), .val (.ref ml), .val (.int (bg (0 : Int32) (0 : Int32))), .val (.int t3), .val (.int t1), .val (.int (bg (0 : Int32) t1)), .val (.int (bg (1 : Int32) t3)), .val (.int (1 : Int32)), .val (.int (bg (1 : Int32) t3))] [])) _
        refine XS.iload X143.here hx rfl (hb hby at_213) rfl ?_
        exact ktg)
      have pre146 : Rch p.tables e below (s₁.setTop (entryFrame m #[(.int p0), (.int p1), (.int p2), (.int p3), (.int p4), (.int p5)] maxLocals)) (T143.setTop (mkF m 222 #[.val (.int p0), .val (.int p1), .val (.int p2), .val (.int p3), .val (.int p4), .val (.int p5), .val (.int mo), .val (.int ct), .val (.int cr), .val (.int lf), .val (.ref ml), .val (.int (bg (0 : Int32) (0 : Int32))), .val (.int t3), .val (.int t1), .val (.int (bg (0 : Int32) t1)), .val (.int (bg (1 : Int32) t3)), .val (.int (1 : Int32)), .val (.int (bg (1 : Int32) t3))] [(.int t1), (.int (bg (0 : Int32) t1))])) := fun tgt ktg => pre145 tgt (by
        show Steps p.tables e below (T143.setTop (mkF m 215 #[.val (.int p0), .val (.int p1), .val (.int p2), .val (.int p3), .val (.int p4), .val (.int p5), .val (.int mo), .val (.int ct), .val (.int cr), .val (.int lf), .val (.ref ml), .val (.int (bg (0 : Int32) (0 : Int32))), .val (.int t3), .val (.int t1), .val (.int (bg (0 : Int32) t1)), .val (.int (bg (1 : Int32) t3)), .val (.int (1 : Int32)), .val (.int (bg (1 : Int32) t3))] [(.int (bg (0 : Int32) (0 : Int32)))])) _
        refine XS.ifNo X143.here hx rfl (hb hby at_215) rfl ((if0 _ _).trans (teq (rfl : bg 0 0 = 0)).2) ?_
        show Steps p.tables e below (T143.setTop (mkF m 218 #[.val (.int p0), .val (.int p1), .val (.int p2), .val (.int p3), .val (.int p4), .val (.int p5), .val (.int mo), .val (.int ct), .val (.int cr), .val (.int lf), .val (.ref ml), .val (.int (bg (0 : Int32) (0 : Int32))), .val (.int t3), .val (.int t1), .val (.int (bg (0 : Int32) t1)), .val (.int (bg (1 : Int32) t3)), .val (.int (1 : Int32)), .val (.int (bg (1 : Int32) t3))] [])) _
        refine XS.iload X143.here hx rfl (hb hby at_218) rfl ?_
        show Steps p.tables e below (T143.setTop (mkF m 220 #[.val (.int p0), .val (.int p1), .val (.int p2), .val (.int p3), .val (.int p4), .val (.int p5), .val (.int mo), .val (.int ct), .val (.int cr), .val (.int lf), .val (.ref ml), .val (.int (bg (0 : Int32) (0 : Int32))), .val (.int t3), .val (.int t1), .val (.int (bg (0 : Int32) t1)), .val (.int (bg (1 : Int32) t3)), .val (.int (1 : Int32)), .val (.int (bg (1 : Int32) t3))] [(.int (bg (0 : Int32) t1))])) _
        refine XS.iload X143.here hx rfl (hb hby at_220) rfl ?_
        exact ktg)
      obtain ⟨v148, hv_v148⟩ : ∃ nm_ : Int32, nm_ = (if (0 : Int32) < t1 then (1 : Int32) else (0 : Int32)) := ⟨_, rfl⟩
      have pre149 : Rch p.tables e below (s₁.setTop (entryFrame m #[(.int p0), (.int p1), (.int p2), (.int p3), (.int p4), (.int p5)] maxLocals)) (T143.setTop (mkF m 230 #[.val (.int p0), .val (.int p1), .val (.int p2), .val (.int p3), .val (.int p4), .val (.int p5), .val (.int mo), .val (.int ct), .val (.int cr), .val (.int lf), .val (.ref ml), .val (.int (bg (0 : Int32) (0 : Int32))), .val (.int t3), .val (.int t1), .val (.int (bg (0 : Int32) t1)), .val (.int (bg (1 : Int32) t3)), .val (.int (1 : Int32)), .val (.int (bg (1 : Int32) t3))] [(.int v148), (.int (bg (0 : Int32) t1))])) := fun tgt ktg => pre146 tgt (by
        by_cases q147 : (0 : Int32) < t1
        · skip
          show Steps p.tables e below (T143.setTop (mkF m 222 #[.val (.int p0), .val (.int p1), .val (.int p2), .val (.int p3), .val (.int p4), .val (.int p5), .val (.int mo), .val (.int ct), .val (.int cr), .val (.int lf), .val (.ref ml), .val (.int (bg (0 : Int32) (0 : Int32))), .val (.int t3), .val (.int t1), .val (.int (bg (0 : Int32) t1)), .val (.int (bg (1 : Int32) t3)), .val (.int (1 : Int32)), .val (.int (bg (1 : Int32) t3))] [(.int t1), (.int (bg (0 : Int32) t1))])) _
          refine XS.ifNo X143.here hx rfl (hb hby at_222) rfl ((if0 _ _).trans (tlt q147).2.2.2) ?_
          show Steps p.tables e below (T143.setTop (mkF m 225 #[.val (.int p0), .val (.int p1), .val (.int p2), .val (.int p3), .val (.int p4), .val (.int p5), .val (.int mo), .val (.int ct), .val (.int cr), .val (.int lf), .val (.ref ml), .val (.int (bg (0 : Int32) (0 : Int32))), .val (.int t3), .val (.int t1), .val (.int (bg (0 : Int32) t1)), .val (.int (bg (1 : Int32) t3)), .val (.int (1 : Int32)), .val (.int (bg (1 : Int32) t3))] [(.int (bg (0 : Int32) t1))])) _
          refine XS.iconst X143.here hx rfl (hb hby at_225) ?_
          show Steps p.tables e below (T143.setTop (mkF m 226 #[.val (.int p0), .val (.int p1), .val (.int p2), .val (.int p3), .val (.int p4), .val (.int p5), .val (.int mo), .val (.int ct), .val (.int cr), .val (.int lf), .val (.ref ml), .val (.int (bg (0 : Int32) (0 : Int32))), .val (.int t3), .val (.int t1), .val (.int (bg (0 : Int32) t1)), .val (.int (bg (1 : Int32) t3)), .val (.int (1 : Int32)), .val (.int (bg (1 : Int32) t3))] [(.int (1 : Int32)), (.int (bg (0 : Int32) t1))])) _
          refine XS.goto X143.here hx rfl (pc0 := 226) (pc' := 230) rfl (hb hby at_226) (by decide) (by decide) ?_
          have ev_v148 : v148 = (1 : Int32) := by rw [hv_v148, if_pos q147]
          rw [ev_v148] at ktg
          exact ktg
        · skip
          show Steps p.tables e below (T143.setTop (mkF m 222 #[.val (.int p0), .val (.int p1), .val (.int p2), .val (.int p3), .val (.int p4), .val (.int p5), .val (.int mo), .val (.int ct), .val (.int cr), .val (.int lf), .val (.ref ml), .val (.int (bg (0 : Int32) (0 : Int32))), .val (.int t3), .val (.int t1), .val (.int (bg (0 : Int32) t1)), .val (.int (bg (1 : Int32) t3)), .val (.int (1 : Int32)), .val (.int (bg (1 : Int32) t3))] [(.int t1), (.int (bg (0 : Int32) t1))])) _
          refine XS.ifYes X143.here hx rfl (pc0 := 222) (pc' := 229) rfl (hb hby at_222) rfl ((if0 _ _).trans (flt q147).2.2.2) (by decide) (by decide) ?_
          show Steps p.tables e below (T143.setTop (mkF m 229 #[.val (.int p0), .val (.int p1), .val (.int p2), .val (.int p3), .val (.int p4), .val (.int p5), .val (.int mo), .val (.int ct), .val (.int cr), .val (.int lf), .val (.ref ml), .val (.int (bg (0 : Int32) (0 : Int32))), .val (.int t3), .val (.int t1), .val (.int (bg (0 : Int32) t1)), .val (.int (bg (1 : Int32) t3)), .val (.int (1 : Int32)), .val (.int (bg (1 : Int32) t3))] [(.int (bg (0 : Int32) t1))])) _
          refine XS.iconst X143.here hx rfl (hb hby at_229) ?_
          have ev_v148 : v148 = (0 : Int32) := by rw [hv_v148, if_neg q147]
          rw [ev_v148] at ktg
          exact ktg
        done)
      have pre150 : Rch p.tables e below (s₁.setTop (entryFrame m #[(.int p0), (.int p1), (.int p2), (.int p3), (.int p4), (.int p5)] maxLocals)) (T143.setTop (mkF m 252 #[.val (.int p0), .val (.int p1), .val (.int p2), .val (.int p3), .val (.int p4), .val (.int p5), .val (.int mo), .val (.int ct), .val (.int cr), .val (.int lf), .val (.ref ml), .val (.int (bg (0 : Int32) (0 : Int32))), .val (.int t3), .val (.int t1), .val (.int (bg (0 : Int32) t1)), .val (.int (bg (1 : Int32) t3)), .val (.int (1 : Int32)), .val (.int (bg (1 : Int32) t3))] [(.int (1 : Int32))])) := fun tgt ktg => pre149 tgt (by
        show Steps p.tables e below (T143.setTop (mkF m 230 #[.val (.int p0), .val (.int p1), .val (.int p2), .val (.int p3), .val (.int p4), .val (.int p5), .val (.int mo), .val (.int ct), .val (.int cr), .val (.int lf), .val (.ref ml), .val (.int (bg (0 : Int32) (0 : Int32))), .val (.int t3), .val (.int t1), .val (.int (bg (0 : Int32) t1)), .val (.int (bg (1 : Int32) t3)), .val (.int (1 : Int32)), .val (.int (bg (1 : Int32) t3))] [(.int v148), (.int (bg (0 : Int32) t1))])) _
        refine XS.icmpNo X143.here hx rfl (hb hby at_230) rfl (teq (own_af hv_v148)).2 ?_
        show Steps p.tables e below (T143.setTop (mkF m 233 #[.val (.int p0), .val (.int p1), .val (.int p2), .val (.int p3), .val (.int p4), .val (.int p5), .val (.int mo), .val (.int ct), .val (.int cr), .val (.int lf), .val (.ref ml), .val (.int (bg (0 : Int32) (0 : Int32))), .val (.int t3), .val (.int t1), .val (.int (bg (0 : Int32) t1)), .val (.int (bg (1 : Int32) t3)), .val (.int (1 : Int32)), .val (.int (bg (1 : Int32) t3))] [])) _
        refine XS.iload X143.here hx rfl (hb hby at_233) rfl ?_
        show Steps p.tables e below (T143.setTop (mkF m 235 #[.val (.int p0), .val (.int p1), .val (.int p2), .val (.int p3), .val (.int p4), .val (.int p5), .val (.int mo), .val (.int ct), .val (.int cr), .val (.int lf), .val (.ref ml), .val (.int (bg (0 : Int32) (0 : Int32))), .val (.int t3), .val (.int t1), .val (.int (bg (0 : Int32) t1)), .val (.int (bg (1 : Int32) t3)), .val (.int (1 : Int32)), .val (.int (bg (1 : Int32) t3))] [(.int (bg (1 : Int32) t3))])) _
        refine XS.iload X143.here hx rfl (hb hby at_235) rfl ?_
        show Steps p.tables e below (T143.setTop (mkF m 237 #[.val (.int p0), .val (.int p1), .val (.int p2), .val (.int p3), .val (.int p4), .val (.int p5), .val (.int mo), .val (.int ct), .val (.int cr), .val (.int lf), .val (.ref ml), .val (.int (bg (0 : Int32) (0 : Int32))), .val (.int t3), .val (.int t1), .val (.int (bg (0 : Int32) t1)), .val (.int (bg (1 : Int32) t3)), .val (.int (1 : Int32)), .val (.int (bg (1 : Int32) t3))] [(.int (1 : Int32)), (.int (bg (1 : Int32) t3))])) _
        refine XS.icmpNo X143.here hx rfl (hb hby at_237) rfl (teq (own_ex1 t3)).2 ?_
        show Steps p.tables e below (T143.setTop (mkF m 240 #[.val (.int p0), .val (.int p1), .val (.int p2), .val (.int p3), .val (.int p4), .val (.int p5), .val (.int mo), .val (.int ct), .val (.int cr), .val (.int lf), .val (.ref ml), .val (.int (bg (0 : Int32) (0 : Int32))), .val (.int t3), .val (.int t1), .val (.int (bg (0 : Int32) t1)), .val (.int (bg (1 : Int32) t3)), .val (.int (1 : Int32)), .val (.int (bg (1 : Int32) t3))] [])) _
        refine XS.iload X143.here hx rfl (hb hby at_240) rfl ?_
        show Steps p.tables e below (T143.setTop (mkF m 242 #[.val (.int p0), .val (.int p1), .val (.int p2), .val (.int p3), .val (.int p4), .val (.int p5), .val (.int mo), .val (.int ct), .val (.int cr), .val (.int lf), .val (.ref ml), .val (.int (bg (0 : Int32) (0 : Int32))), .val (.int t3), .val (.int t1), .val (.int (bg (0 : Int32) t1)), .val (.int (bg (1 : Int32) t3)), .val (.int (1 : Int32)), .val (.int (bg (1 : Int32) t3))] [(.int (bg (1 : Int32) t3))])) _
        refine XS.iload X143.here hx rfl (hb hby at_242) rfl ?_
        show Steps p.tables e below (T143.setTop (mkF m 244 #[.val (.int p0), .val (.int p1), .val (.int p2), .val (.int p3), .val (.int p4), .val (.int p5), .val (.int mo), .val (.int ct), .val (.int cr), .val (.int lf), .val (.ref ml), .val (.int (bg (0 : Int32) (0 : Int32))), .val (.int t3), .val (.int t1), .val (.int (bg (0 : Int32) t1)), .val (.int (bg (1 : Int32) t3)), .val (.int (1 : Int32)), .val (.int (bg (1 : Int32) t3))] [(.int (1 : Int32)), (.int (bg (1 : Int32) t3))])) _
        refine XS.icmpNo X143.here hx rfl (hb hby at_244) rfl (teq (own_ex1 t3)).2 ?_
        show Steps p.tables e below (T143.setTop (mkF m 247 #[.val (.int p0), .val (.int p1), .val (.int p2), .val (.int p3), .val (.int p4), .val (.int p5), .val (.int mo), .val (.int ct), .val (.int cr), .val (.int lf), .val (.ref ml), .val (.int (bg (0 : Int32) (0 : Int32))), .val (.int t3), .val (.int t1), .val (.int (bg (0 : Int32) t1)), .val (.int (bg (1 : Int32) t3)), .val (.int (1 : Int32)), .val (.int (bg (1 : Int32) t3))] [])) _
        refine XS.iconst X143.here hx rfl (hb hby at_247) ?_
        show Steps p.tables e below (T143.setTop (mkF m 248 #[.val (.int p0), .val (.int p1), .val (.int p2), .val (.int p3), .val (.int p4), .val (.int p5), .val (.int mo), .val (.int ct), .val (.int cr), .val (.int lf), .val (.ref ml), .val (.int (bg (0 : Int32) (0 : Int32))), .val (.int t3), .val (.int t1), .val (.int (bg (0 : Int32) t1)), .val (.int (bg (1 : Int32) t3)), .val (.int (1 : Int32)), .val (.int (bg (1 : Int32) t3))] [(.int (1 : Int32))])) _
        refine XS.goto X143.here hx rfl (pc0 := 248) (pc' := 252) rfl (hb hby at_248) (by decide) (by decide) ?_
        exact ktg)
      obtain ⟨fs, hr, hrun, hended, hW, hsame⟩ := X143.leave (v := some (.int (1 : Int32))) (fun h => by rw [Bd.returns] at h; cases h)
      refine ⟨_, _, pre150 _ ?_, hrun, hended, _, _, rfl, ?_, ⟨_, rfl⟩, hW, hsame.mono (by decide) (by decide)⟩
      · show Steps p.tables e below (T143.setTop (mkF m 252 #[.val (.int p0), .val (.int p1), .val (.int p2), .val (.int p3), .val (.int p4), .val (.int p5), .val (.int mo), .val (.int ct), .val (.int cr), .val (.int lf), .val (.ref ml), .val (.int (bg (0 : Int32) (0 : Int32))), .val (.int t3), .val (.int t1), .val (.int (bg (0 : Int32) t1)), .val (.int (bg (1 : Int32) t3)), .val (.int (1 : Int32)), .val (.int (bg (1 : Int32) t3))] [(.int (1 : Int32))])) _
        exact retN X143 hx (t := .boolean) Bd.returns (by simp) (hb hby at_252) hr
      · show Q0 Z p0 p1 p2 p3 p4 p5 h0 n0 _ T143.heap _
        rw [eh143]
        exact ⟨rfl, N144⟩
set_option maxRecDepth 65536 in
set_option maxHeartbeats 40000000 in
theorem comes_1 {Post : Tables → Env → Array Value → State → Outcome → State → Prop} (hpost : ∀ tb e args s v u, (limb_1_1.after args s (.returned v) u = true ∧ limb_1_2.after args s (.returned v) u = true ∧ True) → FrameEnd s (.returned v) u (Jvm.fieldLocs frame_1_writes args s ++ Jvm.arrayLocs frame_1_arrays args s ++ Jvm.staticLocs frame_1_statics s) 16 128 → Post tb e args s (.returned v) u) :
    ArmFor flags0 classFile x code maxLocals ret World_1 tables_1 room_1 Calls_1 rest_1 Pre_1 Post := by
  intro l hfl _ _ p e ha hc hk s m args below hf hA hF happ hP
  obtain ⟨hcalls, hrest, hpre⟩ := hP
  obtain ⟨-, -, -, hnamed, -, -, -, hat⟩ := (Spec.applies_iff hf).mp happ
  obtain ⟨hg, hn⟩ := and_e (Cond.before_iff.mp (show (Jvm.Cond.and given_1 narrow_1).before args s = true from hpre))
  obtain ⟨gc, g0⟩ := and_e hg
  obtain ⟨ga0, g1⟩ := and_e g0
  obtain ⟨ga1, g2⟩ := and_e g1
  obtain ⟨ga2, g3⟩ := and_e g2
  obtain ⟨ga3, g4⟩ := and_e g3
  obtain ⟨ga4, g5⟩ := and_e g4
  obtain ⟨w0, w1, w2, w3, w4, w5, rfl⟩ : ∃ w0 w1 w2 w3 w4 w5 : Value, args = #[w0, w1, w2, w3, w4, w5] := by
    have hs : args.size = 6 := by simpa [Cond.value, given_1] using gc
    obtain ⟨L⟩ := args
    match L, hs with
    | [w0, w1, w2, w3, w4, w5], _ => exact ⟨w0, w1, w2, w3, w4, w5, rfl⟩
  have hw := fun d (hd : d ∈ tables_1) => atoms_spec (ws := Jvm.Cond.code x code maxLocals ret :: tables_1) hat d (List.mem_cons_of_mem _ hd)
  have hfit : Fit s := fun {y c} hc i hi => by
    obtain ⟨ha, rfl⟩ := Array.getElem?_eq_some_iff.mp hc
    have q := List.all_eq_true.mp ((Array.all_eq_true_iff_forall_mem.mp hF) _ (Array.getElem_mem ha)) i (List.mem_range.mpr hi)
    simpa [Array.getElem?_eq_getElem hi] using q
  obtain ⟨hsets, hown0⟩ := atoms_of _ (rest_1_c_eq ▸ (show rest_1_c.before _ s = true from hrest))
  have hr0 := Cond.before_iff.mp hown0
  obtain ⟨i0, ei0⟩ := is_v ga0
  obtain rfl : w0 = (.int i0) := Option.some.inj ei0
  obtain ⟨i1, ei1⟩ := is_v ga1
  obtain rfl : w1 = (.int i1) := Option.some.inj ei1
  obtain ⟨i2, ei2⟩ := is_v ga2
  obtain rfl : w2 = (.int i2) := Option.some.inj ei2
  obtain ⟨i3, ei3⟩ := is_v ga3
  obtain rfl : w3 = (.int i3) := Option.some.inj ei3
  obtain ⟨i4, ei4⟩ := is_v ga4
  obtain rfl : w4 = (.int i4) := Option.some.inj ei4
  obtain ⟨i5, ei5⟩ := is_v g5
  obtain rfl : w5 = (.int i5) := Option.some.inj ei5
  have q0 := Cond.before_iff.mp (hsets _ (List.mem_of_getElem? (i := 1) rfl))
  have q1 := not_v (Cond.before_iff.mp (hsets _ (List.mem_of_getElem? (i := 2) rfl)))
  obtain ⟨cs, ecs⟩ := is_v q0
  have S1 : Sta s s.heap "java/lang/String" "COMPACT_STRINGS" "Z" (.int cs) := Sta.start ecs (Or.inl (hsets _ (List.mem_of_getElem? (i := 0) rfl)))
  have hcs : ¬ cs = 0 := gotF (Cond.eq_ints ecs (Term.int_eval _)) q1
  obtain ⟨n, o, h1, h2, h3, _, L, rfl, ⟨rfl, N⟩, hq⟩ := rm0 l s _ hw tables_1 i0 i1 i2 i3 i4 i5 s.heap s.heap.size (Nat.le_refl _) cs S1 hcs p e ha hc hk s m _ below hf ((Spec.applies_iff_loose hf).mp happ).1 ⟨rfl, State.Warmed39.refl s, rfl⟩ trivial
  refine ⟨n, _, h1, h2, h3, hpost _ _ _ _ _ _ ⟨Cond.after_iff.mpr rfl, Cond.after_iff.mpr (eq_i res_at (Term.int_eval (1)) rfl), trivial⟩ ⟨hq.1, hq.2.1, (hq.2.2.sift fun y hy => Or.inr (N y hy)).mono (by decide) (by decide)⟩⟩
theorem main_1_1 : Claimed_1_1 := comes_1 fun _ _ _ _ _ _ h hF => ⟨h.1, hF⟩
theorem main_1_2 : Claimed_1_2 := comes_1 fun _ _ _ _ _ _ h hF => ⟨h.2.1, hF⟩
end Jvm.Pilot.@@N@@
namespace Jvm.Pilot.@@N@@
open Jvm Jvm.ClassFile Sem Op Lib Jvm.Free Jvm.Stand Jvm.Pilot.@@N@@.Jvm.D
/-! MADE BY PROGRAM (witnessworld.py) out of the Statement's table words and the real class files: 20 classes; the members and pool entries that the words name. The judged class is class 1, her method 3. -/
namespace start1
open Jvm.ClassFile
def u (s : String) : CpInfo := .utf8 (stringToUtf16 s)
/-- a pool by its gaps: so many unusable entries, then the entry; so many at the end -/
def gap : Nat → List CpInfo → List CpInfo
  | 0, r => r
  | n + 1, r => .unusable :: gap n r
def poolList (es : List (Nat × CpInfo)) (last : Nat) : List CpInfo := es.foldr (fun e r => gap e.1 (e.2 :: r)) (gap last [])
def pool (es : List (Nat × CpInfo)) (last : Nat) : Array CpInfo := ⟨poolList es last⟩
def fileOf (pool : Array CpInfo) (this : Nat) (attrs : Array Attribute := #[]) (ms : Array MethodInfo := #[]) (fl : Nat := 33) (sup : Nat := 0) (ifs : Array Nat := #[]) (fds : Array FieldInfo := #[]) : ClassFile where
  minorVersion := 0
  majorVersion := 65
  constantPool := pool
  accessFlags := fl
  thisClass := this
  superClass := sup
  interfaces := ifs
  fields := fds
  methods := ms
  attributes := attrs
def plain (name : String) (sup : Option ClassId) : Class where
  name := name
  kind := .ordinary
  loader := none
  accessFlags := 33
  super := sup
  interfaces := #[]
  cf := none
  fields := #[]
  methods := #[]
  instanceTypes := #[]
  staticTypes := #[]
  resolved := #[]
  callSites := []
  init := .initialized
  statics := none
  mirror := none

def pool0 : Array CpInfo := pool [(5, u "<init>"), (0, u "()V"), (1, .class_ 10), (1, u "java/lang/Object")] 113

def k0c0 : Code := { maxStack := 0, maxLocals := 1, code := object_method_1_code, exceptionTable := #[], attributes := #[] }
def k0m0 : Method := { name := "<init>", desc := "()V", sig := { parameters := [], returnType := none }, accessFlags := 1, code := some k0c0 }
/-- java/lang/Object -/
def k0 : Class := { plain "java/lang/Object" none with
  accessFlags := 33
  interfaces := #[]
  cf := some (fileOf pool0 8 #[] #[{ accessFlags := 1, nameIndex := 5, descriptorIndex := 6, attributes := #[] }] 33 0 #[] #[])
  fields := #[]
  methods := #[k0m0]
  instanceTypes := #[]
  staticTypes := #[]
  resolved := Array.replicate 124 none
  statics := none }

def pool1 : Array CpInfo := pool [(2, .class_ 4), (1, u "java/lang/Object"), (0, u "<init>"), (0, u "()V"), (0, .methodref 8 9), (0, .class_ 10), (0, .nameAndType 11 12), (0, u "com/example/subjectline/subjectline/server/MessageLineBegunPinLaw"), (0, u "valid"), (0, u "(I)Z"), (0, .methodref 14 15), (0, .class_ 16), (0, .nameAndType 17 12), (0, u "com/example/subjectline/subjectline/server/MessageLine"), (0, u "take"), (0, .methodref 14 19), (0, .nameAndType 5 20), (0, u "(I)V"), (0, .methodref 14 22), (0, .nameAndType 23 24), (0, u "begun"), (0, u "()Z"), (0, .methodref 8 26), (0, .nameAndType 27 28), (0, u "step"), (0, u "(Lcom/example/subjectline/subjectline/server/MessageLine;IZII)I"), (6, u "law"), (0, u "(IIIIII)Z")] 2

def k1m0 : Method := { name := "<init>", desc := "()V", sig := { parameters := [], returnType := none }, accessFlags := 1, code := none }
def k1c1 : Code := { maxStack := 2, maxLocals := 1, code := method_2_code, exceptionTable := #[], attributes := #[] }
def k1m1 : Method := { name := "valid", desc := "(I)Z", sig := { parameters := [.int], returnType := some .boolean }, accessFlags := 10, code := some k1c1 }
def k1c2 : Code := { maxStack := 2, maxLocals := 5, code := method_3_code, exceptionTable := #[], attributes := #[] }
def k1m2 : Method := { name := "step", desc := "(Lcom/example/subjectline/subjectline/server/MessageLine;IZII)I", sig := { parameters := [(.object "com/example/subjectline/subjectline/server/MessageLine"), .int, .boolean, .int, .int], returnType := some .int }, accessFlags := 10, code := some k1c2 }
def k1c3 : Code := { maxStack := 5, maxLocals := 18, code := code, exceptionTable := #[], attributes := #[] }
def k1m3 : Method := { name := "law", desc := "(IIIIII)Z", sig := { parameters := [.int, .int, .int, .int, .int, .int], returnType := some .boolean }, accessFlags := 9, code := some k1c3 }
/-- com/example/subjectline/subjectline/server/MessageLineBegunPinLaw -/
def k1 : Class := { plain "com/example/subjectline/subjectline/server/MessageLineBegunPinLaw" (some 0) with
  accessFlags := 49
  interfaces := #[]
  cf := some (fileOf pool1 8 #[] #[{ accessFlags := 1, nameIndex := 5, descriptorIndex := 6, attributes := #[] }, { accessFlags := 10, nameIndex := 11, descriptorIndex := 12, attributes := #[] }, { accessFlags := 10, nameIndex := 27, descriptorIndex := 28, attributes := #[] }, { accessFlags := 9, nameIndex := 35, descriptorIndex := 36, attributes := #[] }] 49 2 #[] #[])
  fields := #[]
  methods := #[k1m0, k1m1, k1m2, k1m3]
  instanceTypes := #[]
  staticTypes := #[]
  resolved := Array.replicate 39 none
  statics := none }

def pool2 : Array CpInfo := pool [(1, .methodref 2 3), (0, .class_ 4), (0, .nameAndType 5 6), (0, u "java/lang/Object"), (0, u "<init>"), (0, u "()V"), (0, .class_ 8), (0, u "java/lang/StringBuilder"), (0, .methodref 7 3), (0, .fieldref 11 12), (0, .class_ 13), (0, .nameAndType 14 15), (0, u "com/example/subjectline/subjectline/server/MessageLine"), (0, u "text"), (0, u "Ljava/lang/StringBuilder;"), (0, .fieldref 11 17), (0, .nameAndType 18 19), (0, u "most"), (0, u "I"), (0, .fieldref 11 21), (0, .nameAndType 22 23), (0, u "afterCr"), (0, u "Z"), (11, .methodref 7 36), (0, .nameAndType 37 38), (0, u "length"), (0, u "()I"), (3, .methodref 7 43), (0, .nameAndType 44 45), (0, u "append"), (0, u "(C)Ljava/lang/StringBuilder;"), (4, u "(I)V"), (2, u "take"), (0, u "(I)Z"), (2, u "begun"), (0, u "()Z")] 2

def k2c0 : Code := { maxStack := 3, maxLocals := 2, code := prog_44_method_1_code, exceptionTable := #[], attributes := #[] }
def k2m0 : Method := { name := "<init>", desc := "(I)V", sig := { parameters := [.int], returnType := none }, accessFlags := 0, code := some k2c0 }
def k2c1 : Code := { maxStack := 3, maxLocals := 3, code := prog_44_method_2_code, exceptionTable := #[], attributes := #[] }
def k2m1 : Method := { name := "take", desc := "(I)Z", sig := { parameters := [.int], returnType := some .boolean }, accessFlags := 0, code := some k2c1 }
def k2c2 : Code := { maxStack := 1, maxLocals := 1, code := prog_44_method_3_code, exceptionTable := #[], attributes := #[] }
def k2m2 : Method := { name := "begun", desc := "()Z", sig := { parameters := [], returnType := some .boolean }, accessFlags := 0, code := some k2c2 }
/-- com/example/subjectline/subjectline/server/MessageLine -/
def k2 : Class := { plain "com/example/subjectline/subjectline/server/MessageLine" (some 0) with
  accessFlags := 48
  interfaces := #[]
  cf := some (fileOf pool2 11 #[] #[{ accessFlags := 0, nameIndex := 5, descriptorIndex := 50, attributes := #[] }, { accessFlags := 0, nameIndex := 53, descriptorIndex := 54, attributes := #[] }, { accessFlags := 0, nameIndex := 57, descriptorIndex := 58, attributes := #[] }] 48 2 #[] #[{ accessFlags := 18, nameIndex := 18, descriptorIndex := 19, attributes := #[] }, { accessFlags := 18, nameIndex := 14, descriptorIndex := 15, attributes := #[] }, { accessFlags := 2, nameIndex := 22, descriptorIndex := 23, attributes := #[] }])
  fields := #[{ name := "most", type := .int, accessFlags := 18, slot := 0, constantValue := 0 }, { name := "text", type := (.object "java/lang/StringBuilder"), accessFlags := 18, slot := 1, constantValue := 0 }, { name := "afterCr", type := .boolean, accessFlags := 2, slot := 2, constantValue := 0 }]
  methods := #[k2m0, k2m1, k2m2]
  instanceTypes := #[.int, (.object "java/lang/StringBuilder"), .boolean]
  staticTypes := #[]
  resolved := Array.replicate 61 none
  statics := none }

def pool3 : Array CpInfo := pool [(1, .class_ 2), (0, u "java/lang/Appendable"), (0, .class_ 4), (0, u "java/lang/Object")] 9

/-- java/lang/Appendable -/
def k3 : Class := { plain "java/lang/Appendable" (some 0) with
  accessFlags := 1537
  interfaces := #[]
  cf := some (fileOf pool3 1 #[] #[] 1537 3 #[] #[])
  fields := #[]
  methods := #[]
  instanceTypes := #[]
  staticTypes := #[]
  resolved := Array.replicate 14 none
  statics := none }

def pool4 : Array CpInfo := pool [(2, .class_ 4), (1, u "java/lang/CharSequence"), (42, .class_ 48), (0, u "java/lang/CharSequence$1CodePointIterator"), (10, .class_ 60), (0, u "java/lang/CharSequence$1CharIterator"), (5, .class_ 67), (0, u "java/lang/Object")] 63

/-- java/lang/CharSequence -/
def k4 : Class := { plain "java/lang/CharSequence" (some 0) with
  accessFlags := 1537
  interfaces := #[]
  cf := some (fileOf pool4 2 #[.nestMembers #[47, 59]] #[] 1537 66 #[] #[])
  fields := #[]
  methods := #[]
  instanceTypes := #[]
  staticTypes := #[]
  resolved := Array.replicate 131 none
  statics := none }

def pool5 : Array CpInfo := pool [(1, .class_ 2), (0, u "java/lang/String"), (0, .methodref 4 5), (0, .class_ 6), (0, .nameAndType 7 8), (0, u "java/lang/Object"), (0, u "<init>"), (0, u "()V"), (1, .class_ 12), (1, u "java/lang/AbstractStringBuilder"), (0, u "EMPTYVALUE"), (0, u "[B"), (0, .fieldref 10 16), (0, .nameAndType 17 14), (0, u "value"), (0, .fieldref 1 19), (0, .nameAndType 20 21), (0, u "COMPACT_STRINGS"), (0, u "Z"), (0, .fieldref 10 23), (0, .nameAndType 24 25), (0, u "coder"), (0, u "B"), (8, u "length"), (0, u "()I"), (9, u "append"), (2, .class_ 49), (0, u "java/lang/CharSequence"), (25, u "maybeLatin1"), (3, .fieldref 10 80), (0, .nameAndType 81 82), (0, u "count"), (0, u "I"), (0, .methodref 10 84), (0, .nameAndType 85 86), (0, u "isLatin1"), (0, u "()Z"), (1, .class_ 90), (1, u "java/lang/StringLatin1"), (9, .methodref 10 101), (0, .nameAndType 102 103), (0, u "ensureCapacityInternal"), (0, u "(I)V"), (87, .methodref 88 192), (0, .nameAndType 193 194), (0, u "canEncode"), (0, u "(C)Z"), (97, u "(C)Ljava/lang/AbstractStringBuilder;"), (151, .class_ 445), (0, u "java/lang/Appendable")] 163

def k5m0 : Method := { name := "<init>", desc := "()V", sig := { parameters := [], returnType := none }, accessFlags := 0, code := none }
def k5c1 : Code := { maxStack := 2, maxLocals := 2, code := jdk_68_method_2_code, exceptionTable := #[], attributes := #[] }
def k5m1 : Method := { name := "<init>", desc := "(I)V", sig := { parameters := [.int], returnType := none }, accessFlags := 0, code := some k5c1 }
def k5c2 : Code := { maxStack := 1, maxLocals := 1, code := jdk_68_method_6_code, exceptionTable := #[], attributes := #[] }
def k5m2 : Method := { name := "length", desc := "()I", sig := { parameters := [], returnType := some .int }, accessFlags := 1, code := some k5c2 }
def k5c3 : Code := { maxStack := 4, maxLocals := 3, code := jdk_68_method_9_code, exceptionTable := #[], attributes := #[] }
def k5m3 : Method := { name := "ensureCapacityInternal", desc := "(I)V", sig := { parameters := [.int], returnType := none }, accessFlags := 2, code := some k5c3 }
def k5c4 : Code := { maxStack := 5, maxLocals := 2, code := jdk_68_method_31_code, exceptionTable := #[], attributes := #[] }
def k5m4 : Method := { name := "append", desc := "(C)Ljava/lang/AbstractStringBuilder;", sig := { parameters := [.char], returnType := some (.object "java/lang/AbstractStringBuilder") }, accessFlags := 1, code := some k5c4 }
def k5c5 : Code := { maxStack := 1, maxLocals := 1, code := jdk_68_method_68_code, exceptionTable := #[], attributes := #[] }
def k5m5 : Method := { name := "isLatin1", desc := "()Z", sig := { parameters := [], returnType := some .boolean }, accessFlags := 16, code := some k5c5 }
/-- java/lang/AbstractStringBuilder -/
def k5 : Class := { plain "java/lang/AbstractStringBuilder" (some 0) with
  accessFlags := 1056
  interfaces := #[3, 4]
  cf := some (fileOf pool5 10 #[] #[{ accessFlags := 0, nameIndex := 7, descriptorIndex := 8, attributes := #[] }, { accessFlags := 0, nameIndex := 7, descriptorIndex := 103, attributes := #[] }, { accessFlags := 1, nameIndex := 34, descriptorIndex := 35, attributes := #[] }, { accessFlags := 2, nameIndex := 102, descriptorIndex := 103, attributes := #[] }, { accessFlags := 1, nameIndex := 45, descriptorIndex := 292, attributes := #[] }, { accessFlags := 16, nameIndex := 85, descriptorIndex := 86, attributes := #[] }] 1056 4 #[444, 48] #[{ accessFlags := 0, nameIndex := 17, descriptorIndex := 14, attributes := #[] }, { accessFlags := 0, nameIndex := 24, descriptorIndex := 25, attributes := #[] }, { accessFlags := 0, nameIndex := 75, descriptorIndex := 21, attributes := #[] }, { accessFlags := 0, nameIndex := 81, descriptorIndex := 82, attributes := #[] }, { accessFlags := 26, nameIndex := 13, descriptorIndex := 14, attributes := #[] }])
  fields := #[{ name := "value", type := (.array .byte), accessFlags := 0, slot := 0, constantValue := 0 }, { name := "coder", type := .byte, accessFlags := 0, slot := 1, constantValue := 0 }, { name := "maybeLatin1", type := .boolean, accessFlags := 0, slot := 2, constantValue := 0 }, { name := "count", type := .int, accessFlags := 0, slot := 3, constantValue := 0 }, { name := "EMPTYVALUE", type := (.array .byte), accessFlags := 26, slot := 0, constantValue := 0 }]
  methods := #[k5m0, k5m1, k5m2, k5m3, k5m4, k5m5]
  instanceTypes := #[(.array .byte), .byte, .boolean, .int]
  staticTypes := #[(.array .byte)]
  resolved := Array.replicate 609 none
  statics := none }

def pool6 : Array CpInfo := pool [(1, .class_ 2), (0, u "java/io/Serializable"), (0, .class_ 4), (0, u "java/lang/Object")] 2

/-- java/io/Serializable -/
def k6 : Class := { plain "java/io/Serializable" (some 0) with
  accessFlags := 1537
  interfaces := #[]
  cf := some (fileOf pool6 1 #[] #[] 1537 3 #[] #[])
  fields := #[]
  methods := #[]
  instanceTypes := #[]
  staticTypes := #[]
  resolved := Array.replicate 7 none
  statics := none }

def pool7 : Array CpInfo := pool [(1, .class_ 2), (0, u "java/lang/Comparable"), (0, .class_ 4), (0, u "java/lang/Object")] 7

/-- java/lang/Comparable -/
def k7 : Class := { plain "java/lang/Comparable" (some 0) with
  accessFlags := 1537
  interfaces := #[]
  cf := some (fileOf pool7 1 #[] #[] 1537 3 #[] #[])
  fields := #[]
  methods := #[]
  instanceTypes := #[]
  staticTypes := #[]
  resolved := Array.replicate 12 none
  statics := none }

def pool8 : Array CpInfo := pool [(1, .methodref 2 3), (0, .class_ 4), (0, .nameAndType 5 6), (0, u "java/lang/AbstractStringBuilder"), (0, u "<init>"), (0, u "(I)V"), (17, .class_ 26), (1, u "java/lang/StringBuilder"), (0, u "append"), (22, .methodref 2 51), (0, .nameAndType 27 52), (0, u "(C)Ljava/lang/AbstractStringBuilder;"), (92, u "()V"), (10, u "()I"), (129, u "(C)Ljava/lang/StringBuilder;"), (56, .methodref 2 344), (0, .nameAndType 345 156), (0, u "length"), (3, .class_ 350), (0, u "java/lang/Appendable"), (0, .class_ 352), (0, u "java/io/Serializable"), (0, .class_ 354), (0, u "java/lang/Comparable"), (0, .class_ 356), (0, u "java/lang/CharSequence"), (0, u "serialVersionUID"), (0, u "J")] 63

def k8c0 : Code := { maxStack := 2, maxLocals := 1, code := jdk_67_method_1_code, exceptionTable := #[], attributes := #[] }
def k8m0 : Method := { name := "<init>", desc := "()V", sig := { parameters := [], returnType := none }, accessFlags := 1, code := some k8c0 }
def k8c1 : Code := { maxStack := 2, maxLocals := 2, code := jdk_67_method_14_code, exceptionTable := #[], attributes := #[] }
def k8m1 : Method := { name := "append", desc := "(C)Ljava/lang/StringBuilder;", sig := { parameters := [.char], returnType := some (.object "java/lang/StringBuilder") }, accessFlags := 1, code := some k8c1 }
def k8c2 : Code := { maxStack := 1, maxLocals := 1, code := jdk_67_method_93_code, exceptionTable := #[], attributes := #[] }
def k8m2 : Method := { name := "length", desc := "()I", sig := { parameters := [], returnType := some .int }, accessFlags := 4161, code := some k8c2 }
/-- java/lang/StringBuilder -/
def k8 : Class := { plain "java/lang/StringBuilder" (some 5) with
  accessFlags := 49
  interfaces := #[3, 6, 7, 4]
  cf := some (fileOf pool8 24 #[] #[{ accessFlags := 1, nameIndex := 5, descriptorIndex := 145, attributes := #[] }, { accessFlags := 1, nameIndex := 27, descriptorIndex := 286, attributes := #[] }, { accessFlags := 4161, nameIndex := 345, descriptorIndex := 156, attributes := #[] }] 49 2 #[349, 351, 353, 355] #[{ accessFlags := 24, nameIndex := 357, descriptorIndex := 358, attributes := #[] }])
  fields := #[{ name := "serialVersionUID", type := .long, accessFlags := 24, slot := 0, constantValue := 0 }]
  methods := #[k8m0, k8m1, k8m2]
  instanceTypes := #[(.array .byte), .byte, .boolean, .int]
  staticTypes := #[.long]
  resolved := Array.replicate 422 none
  statics := none }

def pool9 : Array CpInfo := pool [(1, .class_ 2), (0, u "java/lang/constant/Constable"), (0, .class_ 4), (0, u "java/lang/Object")] 6

/-- java/lang/constant/Constable -/
def k9 : Class := { plain "java/lang/constant/Constable" (some 0) with
  accessFlags := 1537
  interfaces := #[]
  cf := some (fileOf pool9 1 #[] #[] 1537 3 #[] #[])
  fields := #[]
  methods := #[]
  instanceTypes := #[]
  staticTypes := #[]
  resolved := Array.replicate 11 none
  statics := none }

def pool10 : Array CpInfo := pool [(1, .class_ 2), (0, u "java/lang/constant/ConstantDesc"), (0, .class_ 4), (0, u "java/lang/Object")] 32

/-- java/lang/constant/ConstantDesc -/
def k10 : Class := { plain "java/lang/constant/ConstantDesc" (some 0) with
  accessFlags := 1537
  interfaces := #[]
  cf := some (fileOf pool10 1 #[] #[] 1537 3 #[] #[])
  fields := #[]
  methods := #[]
  instanceTypes := #[]
  staticTypes := #[]
  resolved := Array.replicate 37 none
  statics := none }

def pool11 : Array CpInfo := pool [(2, .class_ 4), (1, u "java/lang/Object"), (0, u "<init>"), (0, u "()V"), (3, .class_ 12), (1, u "java/lang/String"), (0, u "value"), (0, u "[B"), (2, u "coder"), (0, u "B"), (2, u "hash"), (0, u "I"), (2, u "hashIsZero"), (0, u "Z"), (13, u "COMPACT_STRINGS"), (534, .class_ 576), (0, u "java/lang/CharSequence"), (22, u "CASE_INSENSITIVE_ORDER"), (0, u "Ljava/util/Comparator;"), (500, u "serialPersistentFields"), (0, u "[Ljava/io/ObjectStreamField;"), (0, .class_ 1104), (0, u "java/lang/String$CaseInsensitiveComparator"), (1, .class_ 1107), (0, u "java/io/Serializable"), (0, .class_ 1109), (0, u "java/lang/Comparable"), (0, .class_ 1111), (0, u "java/lang/constant/Constable"), (0, .class_ 1113), (0, u "java/lang/constant/ConstantDesc"), (2, u "serialVersionUID"), (0, u "J"), (3, u "REPL"), (0, u "C"), (2, u "LATIN1"), (1, u "UTF16")] 323

def k11m0 : Method := { name := "<init>", desc := "()V", sig := { parameters := [], returnType := none }, accessFlags := 1, code := none }
/-- java/lang/String -/
def k11 : Class := { plain "java/lang/String" (some 0) with
  accessFlags := 49
  interfaces := #[6, 7, 4, 9, 10]
  cf := some (fileOf pool11 10 #[.nestMembers #[1103]] #[{ accessFlags := 1, nameIndex := 5, descriptorIndex := 6, attributes := #[] }] 49 2 #[1106, 1108, 575, 1110, 1112] #[{ accessFlags := 18, nameIndex := 13, descriptorIndex := 14, attributes := #[] }, { accessFlags := 18, nameIndex := 17, descriptorIndex := 18, attributes := #[] }, { accessFlags := 2, nameIndex := 21, descriptorIndex := 22, attributes := #[] }, { accessFlags := 2, nameIndex := 25, descriptorIndex := 26, attributes := #[] }, { accessFlags := 26, nameIndex := 1116, descriptorIndex := 1117, attributes := #[] }, { accessFlags := 24, nameIndex := 40, descriptorIndex := 26, attributes := #[] }, { accessFlags := 26, nameIndex := 1101, descriptorIndex := 1102, attributes := #[] }, { accessFlags := 26, nameIndex := 1121, descriptorIndex := 1122, attributes := #[] }, { accessFlags := 25, nameIndex := 599, descriptorIndex := 600, attributes := #[] }, { accessFlags := 24, nameIndex := 1125, descriptorIndex := 18, attributes := #[] }, { accessFlags := 24, nameIndex := 1127, descriptorIndex := 18, attributes := #[] }])
  fields := #[{ name := "value", type := (.array .byte), accessFlags := 18, slot := 0, constantValue := 0 }, { name := "coder", type := .byte, accessFlags := 18, slot := 1, constantValue := 0 }, { name := "hash", type := .int, accessFlags := 2, slot := 2, constantValue := 0 }, { name := "hashIsZero", type := .boolean, accessFlags := 2, slot := 3, constantValue := 0 }, { name := "serialVersionUID", type := .long, accessFlags := 26, slot := 0, constantValue := 0 }, { name := "COMPACT_STRINGS", type := .boolean, accessFlags := 24, slot := 1, constantValue := 0 }, { name := "serialPersistentFields", type := (.array (.object "java/io/ObjectStreamField")), accessFlags := 26, slot := 2, constantValue := 0 }, { name := "REPL", type := .char, accessFlags := 26, slot := 3, constantValue := 0 }, { name := "CASE_INSENSITIVE_ORDER", type := (.object "java/util/Comparator"), accessFlags := 25, slot := 4, constantValue := 0 }, { name := "LATIN1", type := .byte, accessFlags := 24, slot := 5, constantValue := 0 }, { name := "UTF16", type := .byte, accessFlags := 24, slot := 6, constantValue := 0 }]
  methods := #[k11m0]
  instanceTypes := #[(.array .byte), .byte, .int, .boolean]
  staticTypes := #[.long, .boolean, (.array (.object "java/io/ObjectStreamField")), .char, (.object "java/util/Comparator"), .byte, .byte]
  resolved := Array.replicate 1451 none
  statics := some 0 }

def pool12 : Array CpInfo := pool [(4, .class_ 6), (1, u "java/lang/Object"), (0, u "<init>"), (0, u "()V"), (5, .class_ 16), (1, u "java/lang/StringLatin1"), (73, u "canEncode"), (14, u "(C)Z"), (15, u "$assertionsDisabled"), (0, u "Z"), (98, .class_ 223), (1, u "java/lang/StringLatin1$LinesSpliterator"), (166, .class_ 391), (0, u "java/lang/StringLatin1$CharsSpliterator")] 3

def k12m0 : Method := { name := "<init>", desc := "()V", sig := { parameters := [], returnType := none }, accessFlags := 0, code := none }
def k12c1 : Code := { maxStack := 2, maxLocals := 1, code := jdk_43_method_3_code, exceptionTable := #[], attributes := #[] }
def k12m1 : Method := { name := "canEncode", desc := "(C)Z", sig := { parameters := [.char], returnType := some .boolean }, accessFlags := 9, code := some k12c1 }
/-- java/lang/StringLatin1 -/
def k12 : Class := { plain "java/lang/StringLatin1" (some 0) with
  accessFlags := 48
  interfaces := #[]
  cf := some (fileOf pool12 14 #[.nestMembers #[390, 221]] #[{ accessFlags := 0, nameIndex := 7, descriptorIndex := 8, attributes := #[] }, { accessFlags := 9, nameIndex := 90, descriptorIndex := 105, attributes := #[] }] 48 4 #[] #[{ accessFlags := 4120, nameIndex := 121, descriptorIndex := 122, attributes := #[] }])
  fields := #[{ name := "$assertionsDisabled", type := .boolean, accessFlags := 4120, slot := 0, constantValue := 0 }]
  methods := #[k12m0, k12m1]
  instanceTypes := #[]
  staticTypes := #[.boolean]
  resolved := Array.replicate 395 none
  statics := none }

def pool13 : Array CpInfo := pool [(2, .class_ 4), (1, u "java/lang/Object"), (0, u "<init>"), (0, u "()V"), (17, .class_ 26), (1, u "jdk/internal/util/Preconditions"), (28, .class_ 56), (0, u "jdk/internal/util/Preconditions$4"), (57, .class_ 115), (0, u "jdk/internal/util/Preconditions$1"), (7, u "SIOOBE_FORMATTER"), (0, u "Ljava/util/function/BiFunction;"), (0, .class_ 126), (0, u "jdk/internal/util/Preconditions$2"), (3, u "AIOOBE_FORMATTER"), (0, .class_ 132), (0, u "jdk/internal/util/Preconditions$3"), (3, u "IOOBE_FORMATTER")] 57

def k13m0 : Method := { name := "<init>", desc := "()V", sig := { parameters := [], returnType := none }, accessFlags := 1, code := none }
/-- jdk/internal/util/Preconditions -/
def k13 : Class := { plain "jdk/internal/util/Preconditions" (some 0) with
  accessFlags := 33
  interfaces := #[]
  cf := some (fileOf pool13 24 #[.nestMembers #[55, 131, 125, 114]] #[{ accessFlags := 1, nameIndex := 5, descriptorIndex := 6, attributes := #[] }] 33 2 #[] #[{ accessFlags := 25, nameIndex := 123, descriptorIndex := 124, attributes := #[] }, { accessFlags := 25, nameIndex := 130, descriptorIndex := 124, attributes := #[] }, { accessFlags := 25, nameIndex := 136, descriptorIndex := 124, attributes := #[] }])
  fields := #[{ name := "SIOOBE_FORMATTER", type := (.object "java/util/function/BiFunction"), accessFlags := 25, slot := 0, constantValue := 0 }, { name := "AIOOBE_FORMATTER", type := (.object "java/util/function/BiFunction"), accessFlags := 25, slot := 1, constantValue := 0 }, { name := "IOOBE_FORMATTER", type := (.object "java/util/function/BiFunction"), accessFlags := 25, slot := 2, constantValue := 0 }]
  methods := #[k13m0]
  instanceTypes := #[]
  staticTypes := #[(.object "java/util/function/BiFunction"), (.object "java/util/function/BiFunction"), (.object "java/util/function/BiFunction")]
  resolved := Array.replicate 194 none
  statics := some 1 }

def pool14 : Array CpInfo := pool [(9, u "<init>"), (6, .class_ 18), (1, u "java/lang/Object"), (0, u "()V"), (1, .class_ 23), (1, u "jdk/internal/util/ArraysSupport"), (0, u "LOG2_ARRAY_LONG_INDEX_SCALE"), (0, u "I"), (2, u "U"), (0, u "Ljdk/internal/misc/Unsafe;"), (8, u "BIG_ENDIAN"), (0, u "Z"), (8, u "LOG2_BYTE_BIT_SIZE"), (4, u "LOG2_ARRAY_INT_INDEX_SCALE"), (54, u "JLA"), (0, u "Ljdk/internal/access/JavaLangAccess;"), (11, u "LOG2_ARRAY_BOOLEAN_INDEX_SCALE"), (9, u "LOG2_ARRAY_BYTE_INDEX_SCALE"), (5, u "LOG2_ARRAY_CHAR_INDEX_SCALE"), (5, u "LOG2_ARRAY_SHORT_INDEX_SCALE"), (18, u "LOG2_ARRAY_FLOAT_INDEX_SCALE"), (24, u "LOG2_ARRAY_DOUBLE_INDEX_SCALE"), (89, u "T_BOOLEAN"), (2, u "T_CHAR"), (1, u "T_FLOAT"), (1, u "T_DOUBLE"), (1, u "T_BYTE"), (1, u "T_SHORT"), (1, u "T_INT"), (1, u "T_LONG"), (1, u "SOFT_MAX_ARRAY_LENGTH")] 83

def k14m0 : Method := { name := "<init>", desc := "()V", sig := { parameters := [], returnType := none }, accessFlags := 2, code := none }
/-- jdk/internal/util/ArraysSupport -/
def k14 : Class := { plain "jdk/internal/util/ArraysSupport" (some 0) with
  accessFlags := 33
  interfaces := #[]
  cf := some (fileOf pool14 21 #[] #[{ accessFlags := 2, nameIndex := 9, descriptorIndex := 19, attributes := #[] }] 33 16 #[] #[{ accessFlags := 24, nameIndex := 28, descriptorIndex := 29, attributes := #[] }, { accessFlags := 26, nameIndex := 38, descriptorIndex := 39, attributes := #[] }, { accessFlags := 25, nameIndex := 121, descriptorIndex := 25, attributes := #[] }, { accessFlags := 25, nameIndex := 131, descriptorIndex := 25, attributes := #[] }, { accessFlags := 25, nameIndex := 137, descriptorIndex := 25, attributes := #[] }, { accessFlags := 25, nameIndex := 143, descriptorIndex := 25, attributes := #[] }, { accessFlags := 25, nameIndex := 53, descriptorIndex := 25, attributes := #[] }, { accessFlags := 25, nameIndex := 24, descriptorIndex := 25, attributes := #[] }, { accessFlags := 25, nameIndex := 162, descriptorIndex := 25, attributes := #[] }, { accessFlags := 25, nameIndex := 187, descriptorIndex := 25, attributes := #[] }, { accessFlags := 26, nameIndex := 48, descriptorIndex := 25, attributes := #[] }, { accessFlags := 25, nameIndex := 277, descriptorIndex := 25, attributes := #[] }, { accessFlags := 25, nameIndex := 280, descriptorIndex := 25, attributes := #[] }, { accessFlags := 25, nameIndex := 282, descriptorIndex := 25, attributes := #[] }, { accessFlags := 25, nameIndex := 284, descriptorIndex := 25, attributes := #[] }, { accessFlags := 25, nameIndex := 286, descriptorIndex := 25, attributes := #[] }, { accessFlags := 25, nameIndex := 288, descriptorIndex := 25, attributes := #[] }, { accessFlags := 25, nameIndex := 290, descriptorIndex := 25, attributes := #[] }, { accessFlags := 25, nameIndex := 292, descriptorIndex := 25, attributes := #[] }, { accessFlags := 26, nameIndex := 108, descriptorIndex := 109, attributes := #[] }, { accessFlags := 25, nameIndex := 294, descriptorIndex := 25, attributes := #[] }])
  fields := #[{ name := "U", type := (.object "jdk/internal/misc/Unsafe"), accessFlags := 24, slot := 0, constantValue := 0 }, { name := "BIG_ENDIAN", type := .boolean, accessFlags := 26, slot := 1, constantValue := 0 }, { name := "LOG2_ARRAY_BOOLEAN_INDEX_SCALE", type := .int, accessFlags := 25, slot := 2, constantValue := 0 }, { name := "LOG2_ARRAY_BYTE_INDEX_SCALE", type := .int, accessFlags := 25, slot := 3, constantValue := 0 }, { name := "LOG2_ARRAY_CHAR_INDEX_SCALE", type := .int, accessFlags := 25, slot := 4, constantValue := 0 }, { name := "LOG2_ARRAY_SHORT_INDEX_SCALE", type := .int, accessFlags := 25, slot := 5, constantValue := 0 }, { name := "LOG2_ARRAY_INT_INDEX_SCALE", type := .int, accessFlags := 25, slot := 6, constantValue := 0 }, { name := "LOG2_ARRAY_LONG_INDEX_SCALE", type := .int, accessFlags := 25, slot := 7, constantValue := 0 }, { name := "LOG2_ARRAY_FLOAT_INDEX_SCALE", type := .int, accessFlags := 25, slot := 8, constantValue := 0 }, { name := "LOG2_ARRAY_DOUBLE_INDEX_SCALE", type := .int, accessFlags := 25, slot := 9, constantValue := 0 }, { name := "LOG2_BYTE_BIT_SIZE", type := .int, accessFlags := 26, slot := 10, constantValue := 0 }, { name := "T_BOOLEAN", type := .int, accessFlags := 25, slot := 11, constantValue := 0 }, { name := "T_CHAR", type := .int, accessFlags := 25, slot := 12, constantValue := 0 }, { name := "T_FLOAT", type := .int, accessFlags := 25, slot := 13, constantValue := 0 }, { name := "T_DOUBLE", type := .int, accessFlags := 25, slot := 14, constantValue := 0 }, { name := "T_BYTE", type := .int, accessFlags := 25, slot := 15, constantValue := 0 }, { name := "T_SHORT", type := .int, accessFlags := 25, slot := 16, constantValue := 0 }, { name := "T_INT", type := .int, accessFlags := 25, slot := 17, constantValue := 0 }, { name := "T_LONG", type := .int, accessFlags := 25, slot := 18, constantValue := 0 }, { name := "JLA", type := (.object "jdk/internal/access/JavaLangAccess"), accessFlags := 26, slot := 19, constantValue := 0 }, { name := "SOFT_MAX_ARRAY_LENGTH", type := .int, accessFlags := 25, slot := 20, constantValue := 0 }]
  methods := #[k14m0]
  instanceTypes := #[]
  staticTypes := #[(.object "jdk/internal/misc/Unsafe"), .boolean, .int, .int, .int, .int, .int, .int, .int, .int, .int, .int, .int, .int, .int, .int, .int, .int, .int, (.object "jdk/internal/access/JavaLangAccess"), .int]
  resolved := Array.replicate 378 none
  statics := none }

def pool15 : Array CpInfo := pool [(1, u "java/lang/Cloneable"), (0, .class_ 1), (0, u "java/lang/Object"), (0, .class_ 3)] 3

/-- java/lang/Cloneable -/
def k15 : Class := { plain "java/lang/Cloneable" (some 0) with
  accessFlags := 1537
  interfaces := #[]
  cf := some (fileOf pool15 2 #[] #[] 1537 4 #[] #[])
  fields := #[]
  methods := #[]
  instanceTypes := #[]
  staticTypes := #[]
  resolved := Array.replicate 8 none
  statics := none }

/-- the primitive byte -/
def k16 : Class := { plain "byte" none with kind := .primitive 'B', accessFlags := 0x411 }
/-- [B -/
def k17 : Class := { plain "[B" (some 0) with kind := .array 16 .byte, interfaces := #[15, 6], accessFlags := 1041 }

/-- the primitive int -/
def k18 : Class := { plain "int" none with kind := .primitive 'I', accessFlags := 0x411 }
/-- [I -/
def k19 : Class := { plain "[I" (some 0) with kind := .array 18 .int, interfaces := #[15, 6], accessFlags := 1041 }

def heap : Heap := #[{ cls := 11, slots := #[.long 0, .int 1, .null, .int 0, .null, .int 0, .int 0], vm := .statics 11 },
  { cls := 13, slots := #[.null, .null, .null], vm := .statics 13 }]
def classes : Array Class := #[k0, k1, k2, k3, k4, k5, k6, k7, k8, k9, k10, k11, k12, k13, k14, k15, k16, k17, k18, k19]
def interned : List (Array UInt16 × Addr) := []
def slotsUsed : Nat := 10
def theMethod : MethodId := ⟨1, 3⟩
def args0 : Array Value := #[.int 65, .int 66, .int 67, .int 3, .int 3, .int 3]
def aboutOver (below : List Frame) : State where
  vm := { classes := classes, interned := interned.toArray }
  heap := heap
  slotsUsed := slotsUsed
  threads := #[{ frames := .invoking theMethod args0 :: below }]
def below0 : List Frame := [.native { method := ⟨0, 0⟩, args := #[] }]
def about1 : State := aboutOver below0
def p0 : Program := .bare "" "" ""
def e0 : Env := launch0.env 0 0 0
theorem w_frames : about1.frames = Frame.invoking theMethod args0 :: below0 := rfl
set_option maxRecDepth 65536 in
theorem w_args : argsFit about1.vm theMethod args0 = true := by decide +kernel
set_option maxRecDepth 65536 in
theorem w_heap : heapFits about1 = true := by decide +kernel
set_option maxRecDepth 65536 in
theorem w_runnable : about1.curStatus? = some .runnable := by decide +kernel
set_option maxRecDepth 65536 in
theorem w_alone : about1.alone = true := by decide +kernel
set_option maxRecDepth 65536 in
theorem w_named : about1.methodNamed? x = some theMethod := by decide +kernel
set_option maxRecDepth 65536 in
theorem w_hears : about1.hears theMethod below0 = true := by decide +kernel
set_option maxRecDepth 65536 in
theorem w_ripe : about1.ripe theMethod args0 below0 = true := by decide +kernel
theorem w_running : about1.status = .running := rfl
set_option maxRecDepth 65536 in
theorem w_room : about1.hasRoom e0.platform room_1 = true :=
  launch0.hasRoom_least _ room_1 (by decide +kernel) (by decide +kernel) (by decide +kernel) (by decide +kernel) (by decide +kernel) (by decide +kernel)
theorem allAtoms_all (ts : List Jvm.Cond) (a : Array Jvm.Value) (st : Jvm.State) : (allAtoms ts).before a st = ts.all (fun c => c.before a st) := by
  induction ts with
  | nil => rfl
  | cons c t ih =>
    show (Jvm.Cond.and c (allAtoms t)).before a st = _
    rw [Jvm.Cond.before_and, ih, List.all_cons]
def words1 : List Jvm.Cond := Jvm.Cond.code x code maxLocals ret :: tables_1
/-- a 'code' word, met by the world's own term for the bytes: nothing is compared byte by byte -/
theorem code_word {y : MethodName} {bytes : ByteArray} {mx : Nat} {rt : Option FieldType} {a : Array Value} {s : State} {m : MethodId} {meth : Method} {c : Code} (h1 : s.methodNamed? y = some m) (h2 : s.vm.method? m = some meth) (h3 : meth.code = some c) (h4 : c.code = bytes)
    (h5 : (c.maxLocals == mx && c.exceptionTable.isEmpty && decide (c.maxStack ≤ mostOperands) && decide (meth.sig.returnType = rt) && !meth.locks && decide (parseMethodDescriptor y.desc = some meth.sig)) = true) : (Jvm.Cond.code y bytes mx rt).before a s = true := by
  simp only [Bool.and_eq_true, beq_iff_eq, Bool.not_eq_true', decide_eq_true_eq] at h5
  obtain ⟨⟨⟨⟨⟨g1, g2⟩, g3⟩, g4⟩, g5⟩, g6⟩ := h5
  simp [Cond.before, Cond.holds, Cond.value, h1, h2, h3, h4, g1, g2, g3, g4, g5, g6]
def isCode : Jvm.Cond → Bool
  | .code _ _ _ _ => true
  | _ => false
theorem all_split {L : List Jvm.Cond} {P : Jvm.Cond → Bool} (h1 : L.all (fun c => isCode c || P c) = true) (h2 : ∀ c ∈ L.filter isCode, P c = true) : L.all P = true := by
  refine List.all_eq_true.mpr fun c hc => ?_
  have h := List.all_eq_true.mp h1 c hc
  rcases Bool.eq_false_or_eq_true (isCode c) with hi | hi
  · exact h2 c (List.mem_filter.mpr ⟨hc, hi⟩)
  · simpa [hi] using h
set_option maxRecDepth 65536 in
theorem w_c0 : (Jvm.Cond.code x code maxLocals ret).before args0 about1 = true := code_word (m := ⟨1, 3⟩) (meth := k1m3) (c := k1c3) (by decide +kernel) rfl rfl rfl (by decide +kernel)
set_option maxRecDepth 65536 in
theorem w_c1 : (Jvm.Cond.code ({ cls := "com/example/subjectline/subjectline/server/MessageLine", name := "<init>", desc := "(I)V" } : Jvm.MethodName) prog_44_method_1_code (2 : Nat) (Option.none : Option Jvm.ClassFile.FieldType)).before args0 about1 = true := code_word (m := ⟨2, 0⟩) (meth := k2m0) (c := k2c0) (by decide +kernel) rfl rfl rfl (by decide +kernel)
set_option maxRecDepth 65536 in
theorem w_c2 : (Jvm.Cond.code ({ cls := "java/lang/Object", name := "<init>", desc := "()V" } : Jvm.MethodName) object_method_1_code (1 : Nat) (Option.none : Option Jvm.ClassFile.FieldType)).before args0 about1 = true := code_word (m := ⟨0, 0⟩) (meth := k0m0) (c := k0c0) (by decide +kernel) rfl rfl rfl (by decide +kernel)
set_option maxRecDepth 65536 in
theorem w_c3 : (Jvm.Cond.code ({ cls := "java/lang/StringBuilder", name := "<init>", desc := "()V" } : Jvm.MethodName) jdk_67_method_1_code (1 : Nat) (Option.none : Option Jvm.ClassFile.FieldType)).before args0 about1 = true := code_word (m := ⟨8, 0⟩) (meth := k8m0) (c := k8c0) (by decide +kernel) rfl rfl rfl (by decide +kernel)
set_option maxRecDepth 65536 in
theorem w_c4 : (Jvm.Cond.code ({ cls := "java/lang/AbstractStringBuilder", name := "<init>", desc := "(I)V" } : Jvm.MethodName) jdk_68_method_2_code (2 : Nat) (Option.none : Option Jvm.ClassFile.FieldType)).before args0 about1 = true := code_word (m := ⟨5, 1⟩) (meth := k5m1) (c := k5c1) (by decide +kernel) rfl rfl rfl (by decide +kernel)
set_option maxRecDepth 65536 in
theorem w_c5 : (Jvm.Cond.code ({ cls := "com/example/subjectline/subjectline/server/MessageLine", name := "begun", desc := "()Z" } : Jvm.MethodName) prog_44_method_3_code (1 : Nat) (Option.some Jvm.ClassFile.FieldType.boolean)).before args0 about1 = true := code_word (m := ⟨2, 2⟩) (meth := k2m2) (c := k2c2) (by decide +kernel) rfl rfl rfl (by decide +kernel)
set_option maxRecDepth 65536 in
theorem w_c6 : (Jvm.Cond.code ({ cls := "java/lang/StringBuilder", name := "length", desc := "()I" } : Jvm.MethodName) jdk_67_method_93_code (1 : Nat) (Option.some Jvm.ClassFile.FieldType.int)).before args0 about1 = true := code_word (m := ⟨8, 2⟩) (meth := k8m2) (c := k8c2) (by decide +kernel) rfl rfl rfl (by decide +kernel)
set_option maxRecDepth 65536 in
theorem w_c7 : (Jvm.Cond.code ({ cls := "java/lang/AbstractStringBuilder", name := "length", desc := "()I" } : Jvm.MethodName) jdk_68_method_6_code (1 : Nat) (Option.some Jvm.ClassFile.FieldType.int)).before args0 about1 = true := code_word (m := ⟨5, 2⟩) (meth := k5m2) (c := k5c2) (by decide +kernel) rfl rfl rfl (by decide +kernel)
set_option maxRecDepth 65536 in
theorem w_c8 : (Jvm.Cond.code ({ cls := "com/example/subjectline/subjectline/server/MessageLineBegunPinLaw", name := "step", desc := "(Lcom/example/subjectline/subjectline/server/MessageLine;IZII)I" } : Jvm.MethodName) method_3_code (5 : Nat) (Option.some Jvm.ClassFile.FieldType.int)).before args0 about1 = true := code_word (m := ⟨1, 2⟩) (meth := k1m2) (c := k1c2) (by decide +kernel) rfl rfl rfl (by decide +kernel)
set_option maxRecDepth 65536 in
theorem w_c9 : (Jvm.Cond.code ({ cls := "com/example/subjectline/subjectline/server/MessageLine", name := "take", desc := "(I)Z" } : Jvm.MethodName) prog_44_method_2_code (3 : Nat) (Option.some Jvm.ClassFile.FieldType.boolean)).before args0 about1 = true := code_word (m := ⟨2, 1⟩) (meth := k2m1) (c := k2c1) (by decide +kernel) rfl rfl rfl (by decide +kernel)
set_option maxRecDepth 65536 in
theorem w_c10 : (Jvm.Cond.code ({ cls := "com/example/subjectline/subjectline/server/MessageLineBegunPinLaw", name := "valid", desc := "(I)Z" } : Jvm.MethodName) method_2_code (1 : Nat) (Option.some Jvm.ClassFile.FieldType.boolean)).before args0 about1 = true := code_word (m := ⟨1, 1⟩) (meth := k1m1) (c := k1c1) (by decide +kernel) rfl rfl rfl (by decide +kernel)
set_option maxRecDepth 65536 in
theorem w_c11 : (Jvm.Cond.code ({ cls := "java/lang/StringBuilder", name := "append", desc := "(C)Ljava/lang/StringBuilder;" } : Jvm.MethodName) jdk_67_method_14_code (2 : Nat) (Option.some (Jvm.ClassFile.FieldType.object "java/lang/StringBuilder"))).before args0 about1 = true := code_word (m := ⟨8, 1⟩) (meth := k8m1) (c := k8c1) (by decide +kernel) rfl rfl rfl (by decide +kernel)
set_option maxRecDepth 65536 in
theorem w_c12 : (Jvm.Cond.code ({ cls := "java/lang/AbstractStringBuilder", name := "append", desc := "(C)Ljava/lang/AbstractStringBuilder;" } : Jvm.MethodName) jdk_68_method_31_code (2 : Nat) (Option.some (Jvm.ClassFile.FieldType.object "java/lang/AbstractStringBuilder"))).before args0 about1 = true := code_word (m := ⟨5, 4⟩) (meth := k5m4) (c := k5c4) (by decide +kernel) rfl rfl rfl (by decide +kernel)
set_option maxRecDepth 65536 in
theorem w_c13 : (Jvm.Cond.code ({ cls := "java/lang/AbstractStringBuilder", name := "ensureCapacityInternal", desc := "(I)V" } : Jvm.MethodName) jdk_68_method_9_code (3 : Nat) (Option.none : Option Jvm.ClassFile.FieldType)).before args0 about1 = true := code_word (m := ⟨5, 3⟩) (meth := k5m3) (c := k5c3) (by decide +kernel) rfl rfl rfl (by decide +kernel)
set_option maxRecDepth 65536 in
theorem w_c14 : (Jvm.Cond.code ({ cls := "java/lang/AbstractStringBuilder", name := "isLatin1", desc := "()Z" } : Jvm.MethodName) jdk_68_method_68_code (1 : Nat) (Option.some Jvm.ClassFile.FieldType.boolean)).before args0 about1 = true := code_word (m := ⟨5, 5⟩) (meth := k5m5) (c := k5c5) (by decide +kernel) rfl rfl rfl (by decide +kernel)
set_option maxRecDepth 65536 in
theorem w_c15 : (Jvm.Cond.code ({ cls := "java/lang/StringLatin1", name := "canEncode", desc := "(C)Z" } : Jvm.MethodName) jdk_43_method_3_code (1 : Nat) (Option.some Jvm.ClassFile.FieldType.boolean)).before args0 about1 = true := code_word (m := ⟨12, 1⟩) (meth := k12m1) (c := k12c1) (by decide +kernel) rfl rfl rfl (by decide +kernel)
def codes1 : List Jvm.Cond := [Jvm.Cond.code x code maxLocals ret, Jvm.Cond.code ({ cls := "com/example/subjectline/subjectline/server/MessageLine", name := "<init>", desc := "(I)V" } : Jvm.MethodName) prog_44_method_1_code (2 : Nat) (Option.none : Option Jvm.ClassFile.FieldType), Jvm.Cond.code ({ cls := "java/lang/Object", name := "<init>", desc := "()V" } : Jvm.MethodName) object_method_1_code (1 : Nat) (Option.none : Option Jvm.ClassFile.FieldType), Jvm.Cond.code ({ cls := "java/lang/StringBuilder", name := "<init>", desc := "()V" } : Jvm.MethodName) jdk_67_method_1_code (1 : Nat) (Option.none : Option Jvm.ClassFile.FieldType), Jvm.Cond.code ({ cls := "java/lang/AbstractStringBuilder", name := "<init>", desc := "(I)V" } : Jvm.MethodName) jdk_68_method_2_code (2 : Nat) (Option.none : Option Jvm.ClassFile.FieldType), Jvm.Cond.code ({ cls := "com/example/subjectline/subjectline/server/MessageLine", name := "begun", desc := "()Z" } : Jvm.MethodName) prog_44_method_3_code (1 : Nat) (Option.some Jvm.ClassFile.FieldType.boolean), Jvm.Cond.code ({ cls := "java/lang/StringBuilder", name := "length", desc := "()I" } : Jvm.MethodName) jdk_67_method_93_code (1 : Nat) (Option.some Jvm.ClassFile.FieldType.int), Jvm.Cond.code ({ cls := "java/lang/AbstractStringBuilder", name := "length", desc := "()I" } : Jvm.MethodName) jdk_68_method_6_code (1 : Nat) (Option.some Jvm.ClassFile.FieldType.int), Jvm.Cond.code ({ cls := "com/example/subjectline/subjectline/server/MessageLineBegunPinLaw", name := "step", desc := "(Lcom/example/subjectline/subjectline/server/MessageLine;IZII)I" } : Jvm.MethodName) method_3_code (5 : Nat) (Option.some Jvm.ClassFile.FieldType.int), Jvm.Cond.code ({ cls := "com/example/subjectline/subjectline/server/MessageLine", name := "take", desc := "(I)Z" } : Jvm.MethodName) prog_44_method_2_code (3 : Nat) (Option.some Jvm.ClassFile.FieldType.boolean), Jvm.Cond.code ({ cls := "com/example/subjectline/subjectline/server/MessageLineBegunPinLaw", name := "valid", desc := "(I)Z" } : Jvm.MethodName) method_2_code (1 : Nat) (Option.some Jvm.ClassFile.FieldType.boolean), Jvm.Cond.code ({ cls := "java/lang/StringBuilder", name := "append", desc := "(C)Ljava/lang/StringBuilder;" } : Jvm.MethodName) jdk_67_method_14_code (2 : Nat) (Option.some (Jvm.ClassFile.FieldType.object "java/lang/StringBuilder")), Jvm.Cond.code ({ cls := "java/lang/AbstractStringBuilder", name := "append", desc := "(C)Ljava/lang/AbstractStringBuilder;" } : Jvm.MethodName) jdk_68_method_31_code (2 : Nat) (Option.some (Jvm.ClassFile.FieldType.object "java/lang/AbstractStringBuilder")), Jvm.Cond.code ({ cls := "java/lang/AbstractStringBuilder", name := "ensureCapacityInternal", desc := "(I)V" } : Jvm.MethodName) jdk_68_method_9_code (3 : Nat) (Option.none : Option Jvm.ClassFile.FieldType), Jvm.Cond.code ({ cls := "java/lang/AbstractStringBuilder", name := "isLatin1", desc := "()Z" } : Jvm.MethodName) jdk_68_method_68_code (1 : Nat) (Option.some Jvm.ClassFile.FieldType.boolean), Jvm.Cond.code ({ cls := "java/lang/StringLatin1", name := "canEncode", desc := "(C)Z" } : Jvm.MethodName) jdk_43_method_3_code (1 : Nat) (Option.some Jvm.ClassFile.FieldType.boolean)]
set_option maxRecDepth 65536 in
theorem codes_eq : words1.filter isCode = codes1 := rfl
theorem w_codes : ∀ c ∈ words1.filter isCode, c.before args0 about1 = true := by
  rw [codes_eq]
  intro c hc
  simp only [codes1, List.mem_cons, List.not_mem_nil, or_false] at hc
  rcases hc with rfl | rfl | rfl | rfl | rfl | rfl | rfl | rfl | rfl | rfl | rfl | rfl | rfl | rfl | rfl | rfl
  · exact w_c0
  · exact w_c1
  · exact w_c2
  · exact w_c3
  · exact w_c4
  · exact w_c5
  · exact w_c6
  · exact w_c7
  · exact w_c8
  · exact w_c9
  · exact w_c10
  · exact w_c11
  · exact w_c12
  · exact w_c13
  · exact w_c14
  · exact w_c15
set_option maxRecDepth 65536 in
theorem w_t1 : (words1.take 24).all (fun c => isCode c || c.before args0 about1) = true := by decide +kernel
set_option maxRecDepth 65536 in
theorem w_t2 : ((words1.drop 24).take 24).all (fun c => isCode c || c.before args0 about1) = true := by decide +kernel
set_option maxRecDepth 65536 in
theorem w_t3 : (((words1.drop 24).drop 24).take 24).all (fun c => isCode c || c.before args0 about1) = true := by decide +kernel
set_option maxRecDepth 65536 in
theorem w_t4 : (((words1.drop 24).drop 24).drop 24).all (fun c => isCode c || c.before args0 about1) = true := by decide +kernel
theorem w_tables : (allAtoms (Jvm.Cond.code x code maxLocals ret :: tables_1)).before args0 about1 = true := by
  rw [allAtoms_all]
  show words1.all (fun c => c.before args0 about1) = true
  refine all_split ?_ w_codes
  rw [← List.take_append_drop 24 words1, List.all_append, w_t1, ← List.take_append_drop 24 (words1.drop 24), List.all_append, w_t2, ← List.take_append_drop 24 ((words1.drop 24).drop 24), List.all_append, w_t3, w_t4]
  rfl
set_option maxRecDepth 65536 in
theorem w_rest : rest_1_c.before args0 about1 = true := by decide +kernel
set_option maxRecDepth 65536 in
theorem w_case : (Jvm.Cond.and given_1 narrow_1).before args0 about1 = true := by decide +kernel
theorem w_applies : (headSpec (Jvm.Cond.code x code maxLocals ret :: tables_1) room_1).applies x e0.platform about1 = true :=
  (Spec.applies_iff w_frames).mpr ⟨w_running, w_runnable, w_alone, w_named, w_hears, w_ripe, w_room, w_tables⟩
theorem atStart : AtStart classFile x code maxLocals ret World_1 tables_1 room_1 Calls_1 rest_1 Pre_1 launch0 p0 e0 about1 theMethod args0 below0 :=
  ⟨lists_1, trivial, launch0.admits_env _ _ _, launch0.least_env, fairChoices_fair.cas, fairChoices_fair.clock, w_frames, w_args, w_heap, w_applies, trivial, w_rest, w_case⟩
end start1
theorem witness_1 : WitnessClaimed_1 := ⟨start1.p0, start1.e0, start1.about1, start1.theMethod, start1.args0, start1.below0, start1.atStart⟩
end Jvm.Pilot.@@N@@
