import JvmDerived
import JvmDerived.Pilot.@@N@@Statement
import JvmDerived.Pilot.@@N@@Code
set_option linter.unusedVariables false
set_option linter.unusedSimpArgs false
namespace Jvm.RoadKit
open Sem ClassFile Op Lib Jvm.Stand Jvm.Free Jvm.LawKit
section New
variable {p : Program} {l : Launch} {e : Env} {R : Room} {s : State} {m : MethodId} {args : Array Value} {below : List Frame} {meth : Method} {c : Code} {T : State} {locs : List Loc} {cells slots : Nat}
theorem retI (X : Stand p l e R s m args below meth c T locs cells slots) (hx : p.tables.exec = Jvm.exec) {pc : Nat} {Ls : Array Slot} {z : Int32} {rest : List Value} (hret : meth.sig.returnType = some .int) (hd : decode c.code pc = .ok (.ireturn, 1)) {fs : List Frame}
    (hl : ∀ (f : JFrame) (acts : List Action), f.method = m → f.locked = none → f.entered = [] → (doReturn e (T.setTop f) acts (some (.int z))).1 = T.setFrames fs) : Steps p.tables e below (T.setTop (mkF m pc Ls (.int z :: rest))) (T.setFrames fs) := by
  have hm' : T.vm.method? m = some meth := X.method'
  have hn : narrow .int (.int z) = .int z := rfl
  show Steps p.tables e below (T.setTop { method := m, pc := pc, locals := Ls, stack := _ :: rest, locked := none }) _
  jvm_step X.here [X.here.top, hx, hd, hm', hret, hn]
  first | (intro acts; rw [hl _ acts rfl rfl rfl]) | rw [hl _ _ rfl rfl rfl]
  exact Steps.refl _
end New
end Jvm.RoadKit
namespace OwnF
open Jvm Jvm.FP.Core Jvm.RoadKit
/-- x is exactly a / 2 -/
def Hf (x : UInt64) (a : Nat) : Prop := ∃ c q, val64 x = .fin false c q ∧ inUnits c q b64.qmin = a * 2 ^ 1073
theorem q64 : b64.qmin = -1074 := by decide +kernel
theorem hf_V (a : Nat) (ha : a < 2 ^ 53) : ∃ c q, fits b64 (.fin false c q) ∧ inUnits c q b64.qmin = a * 2 ^ 1073 := by
  obtain ⟨c, q, h1, h2⟩ := round_exact good_b64 false (c := a) (q := -1) ha (by rw [q64]; decide) (by decide +kernel)
  refine ⟨c, q, ?_, ?_⟩
  · have := round_fits good_b64 (.fin false a (-1)); rw [h1] at this; exact this
  · rw [h2, q64]; rfl
theorem hf_ne {x : UInt64} {a : Nat} (h : Hf x a) : val64 x ≠ .nan := by
  obtain ⟨c, q, h1, -⟩ := h; rw [h1]; exact Datum.noConfusion
theorem hf_zval {x : UInt64} {a : Nat} (h : Hf x a) : zval b64 (val64 x) = ((a * 2 ^ 1073 : Nat) : Int) := by
  obtain ⟨c, q, h1, h2⟩ := h
  rw [h1]; show signed false (inUnits c q b64.qmin) = _; rw [h2]; rfl
/-- what a rounding comes to, where a number of the format says it exactly -/
theorem hf_round {A B : Nat} {e : Int} {m : Nat} (hB : 0 < B) (hm : m < 2 ^ 53) (e0 : Int) (h0 : e0 ≤ b64.qmin) (h1 : e0 ≤ e) (h : inUnits A e e0 = m * 2 ^ 1073 * 2 ^ (b64.qmin - e0).toNat * B) :
    ∃ c q, roundRatio b64 false A B e = .fin false c q ∧ inUnits c q b64.qmin = m * 2 ^ 1073 := by
  obtain ⟨c, q, hV, hu⟩ := hf_V m hm
  have hz : zmag b64 (.fin false c q) = m * 2 ^ 1073 := hu
  have l1 := zmag_roundRatio_le good_b64 (s := false) hB hV Datum.noConfusion h0 h1 (by rw [hz, h]; exact Nat.le_refl _)
  have l2 := zmag_roundRatio_ge good_b64 (s := false) hB hV h0 h1 (by rw [hz, h]; exact Nat.le_refl _)
  have e2 : zmag b64 (roundRatio b64 false A B e) = m * 2 ^ 1073 := by rw [← hz]; exact Nat.le_antisymm l1 l2
  rcases roundRatio_cases b64 false A B e with ⟨c', q', h3⟩ | h3
  · exact ⟨c', q', h3, by rw [h3] at e2; exact e2⟩
  · have l3 := zmag_lt_top good_b64 hV
    rw [h3] at e2
    change zmag b64 (.fin false c q) < _ at l3
    rw [hz] at l3
    have : zmag b64 (.inf false) = b64.tails * 2 ^ (b64.exps - 2) := rfl
    omega
theorem hf_mul {x y : UInt64} {a b m : Nat} (hx : Hf x a) (hy : Hf y b) (h : a * b = 2 * m) (hm : m < 2 ^ 53) : Hf (FP.dmul x y) m := by
  obtain ⟨c, q, x1, x2⟩ := hx
  obtain ⟨d, r, y1, y2⟩ := hy
  have fx := val64_fits x
  have fy := val64_fits y
  rw [x1] at fx; rw [y1] at fy
  have q1 := fx.2.1
  have r1 := fy.2.1
  have e : val64 (FP.dmul x y) = roundRatio b64 false (c * d) 1 (q + r) := by show val64 (dmul x y) = _; rw [val64_dmul, x1, y1]; rfl
  unfold Hf
  rw [e]
  refine hf_round (by decide) hm (2 * b64.qmin) (by rw [q64]; decide) (by omega) ?_
  unfold inUnits at x2 y2 ⊢
  rw [show (q + r - 2 * b64.qmin).toNat = (q - b64.qmin).toNat + (r - b64.qmin).toNat by omega, Nat.pow_add]
  rw [show c * d * (2 ^ (q - b64.qmin).toNat * 2 ^ (r - b64.qmin).toNat) = (c * 2 ^ (q - b64.qmin).toNat) * (d * 2 ^ (r - b64.qmin).toNat) by simp only [Nat.mul_assoc, Nat.mul_left_comm, Nat.mul_comm]]
  rw [x2, y2, q64]
  show a * 2 ^ 1073 * (b * 2 ^ 1073) = m * 2 ^ 1073 * 2 ^ 1074 * 1
  rw [show a * 2 ^ 1073 * (b * 2 ^ 1073) = (a * b) * (2 ^ 1073 * 2 ^ 1073) by simp only [Nat.mul_assoc, Nat.mul_left_comm, Nat.mul_comm], h, Nat.mul_one, Nat.mul_assoc m, show (2 : Nat) ^ 1074 = 2 * 2 ^ 1073 from Nat.pow_succ']
  generalize (2 : Nat) ^ 1073 = P
  simp only [Nat.mul_assoc, Nat.mul_left_comm, Nat.mul_comm]
theorem hf_div {x y : UInt64} {a b m : Nat} (hx : Hf x a) (hy : Hf y b) (hb : 0 < b) (h : 2 * a = m * b) (hm : m < 2 ^ 53) : Hf (FP.ddiv x y) m := by
  obtain ⟨c, q, x1, x2⟩ := hx
  obtain ⟨d, r, y1, y2⟩ := hy
  have fx := val64_fits x
  have fy := val64_fits y
  rw [x1] at fx; rw [y1] at fy
  obtain ⟨-, q1, q2, -⟩ := fx
  obtain ⟨-, r1, r2, -⟩ := fy
  have qm : b64.qmax = 971 := by decide +kernel
  rw [q64] at q1 r1 x2 y2
  rw [qm] at q2 r2
  have d0 : d ≠ 0 := fun z => by
    rw [z] at y2; unfold inUnits at y2; rw [Nat.zero_mul] at y2
    have := Nat.mul_pos hb (Nat.two_pow_pos 1073); omega
  have e : val64 (FP.ddiv x y) = roundRatio b64 false c d (q - r) := by show val64 (ddiv x y) = _; rw [val64_ddiv, x1, y1]; show (if d = 0 then _ else _) = _; rw [if_neg d0]; rfl
  unfold Hf
  rw [e]
  refine hf_round (Nat.pos_of_ne_zero d0) hm (-5000) (by rw [q64]; decide) (by omega) ?_
  rw [q64]
  unfold inUnits at x2 y2 ⊢
  show c * 2 ^ (q - r - -5000).toNat = m * 2 ^ 1073 * 2 ^ 3926 * d
  apply Nat.eq_of_mul_eq_mul_right (Nat.two_pow_pos (r - -1074).toNat)
  rw [Nat.mul_assoc, ← Nat.pow_add, show (q - r - -5000).toNat + (r - -1074).toNat = (q - -1074).toNat + 5000 by omega, Nat.pow_add, ← Nat.mul_assoc, x2, Nat.mul_assoc (m * 2 ^ 1073 * 2 ^ 3926), y2]
  rw [show a * 2 ^ 1073 * 2 ^ 5000 = (2 * a) * (2 ^ 1073 * 2 ^ 4999) by rw [show (2 : Nat) ^ 5000 = 2 * 2 ^ 4999 from Nat.pow_succ']; generalize (2 : Nat) ^ 1073 = P; generalize (2 : Nat) ^ 4999 = S; simp only [Nat.mul_assoc, Nat.mul_left_comm, Nat.mul_comm], h, show (2 : Nat) ^ 4999 = 2 ^ 3926 * 2 ^ 1073 from Nat.pow_add 2 3926 1073]
  generalize (2 : Nat) ^ 1073 = P
  generalize (2 : Nat) ^ 3926 = S
  simp only [Nat.mul_assoc, Nat.mul_left_comm, Nat.mul_comm]
theorem hf_l2d {n : Int64} {k : Nat} (hk : n.toInt = (k : Int)) (h : k < 2 ^ 53) : Hf (FP.l2d n) (2 * k) := by
  have hs : Small53 n := by
    have e : (2 : Nat) ^ 53 = 9007199254740992 := by decide
    rw [e] at h
    constructor <;> omega
  obtain ⟨c, q, h1⟩ := l2d_shape n
  have hn : decide (n.toInt < 0) = false := by simp; omega
  rw [hn] at h1
  have h2 := whole_zval good_b64 (val64_fits (l2d n)) (l2d_whole hs)
  refine ⟨c, q, h1, ?_⟩
  rw [h1, pow_qmin64] at h2
  have h3 : ((inUnits c q b64.qmin : Nat) : Int) = (k : Int) * (one64 : Int) := by rw [← hk]; exact h2
  have h4 : inUnits c q b64.qmin = k * one64 := by rw [← Int.natCast_mul] at h3; exact Int.ofNat.inj h3
  rw [h4]; unfold one64
  rw [show (2 : Nat) ^ 1074 = 2 * 2 ^ 1073 from Nat.pow_succ']
  generalize (2 : Nat) ^ 1073 = P
  simp only [Nat.mul_assoc, Nat.mul_left_comm, Nat.mul_comm]
theorem hf_cmp {x y : UInt64} {a b : Nat} (hx : Hf x a) (hy : Hf y b) : FP.dcmp x y = some (compare (a : Int) (b : Int)) := by
  show dcmp x y = _
  rw [dcmp_zval (hf_ne hx) (hf_ne hy), hf_zval hx, hf_zval hy, Int.natCast_mul, Int.natCast_mul]
  rw [compare_mul_pos _ _ _ (Int.natCast_pos.mpr (Nat.two_pow_pos 1073))]
/-- a great limit lies above every small number -/
theorem hf_big {x : UInt64} {a : Nat} {n : Int64} (hx : Hf x a) (ha : a < 2 ^ 40) (hn : 9007199254740992 ≤ n.toInt) : FP.dcmp x (FP.l2d n) = some .lt := by
  have nn : val64 (l2d n) ≠ .nan := by obtain ⟨c, q, h⟩ := l2d_shape n; rw [h]; exact Datum.noConfusion
  have V := hf_l2d (n := 4503599627370496) (k := 4503599627370496) (by decide) (by decide)
  have g := l2d_zval_ge (n := n) (V := l2d 4503599627370496) (hf_ne V) (by
    rw [hf_zval V]
    unfold one64
    rw [show (2 : Nat) ^ 1074 = 2 * 2 ^ 1073 from Nat.pow_succ']
    have := Nat.two_pow_pos 1073
    generalize (2 : Nat) ^ 1073 = P at this
    rw [show ((2 * 4503599627370496 * P : Nat) : Int) = 9007199254740992 * (P : Int) by rw [Int.natCast_mul]; rfl]
    rw [show ((2 * P : Nat) : Int) = 2 * (P : Int) by rw [Int.natCast_mul]; rfl]
    have q : 0 ≤ (n.toInt - 9007199254740992) * (P : Int) := Int.mul_nonneg (by omega) (by omega)
    have q2 : 0 ≤ n.toInt * (P : Int) := Int.mul_nonneg (by omega) (by omega)
    rw [Int.sub_mul] at q
    have : n.toInt * (2 * (P : Int)) = 2 * (n.toInt * (P : Int)) := by rw [Int.mul_left_comm]
    omega)
  show dcmp x (l2d n) = _
  rw [dcmp_zval (hf_ne hx) nn, hf_zval hx]
  rw [hf_zval V] at g
  refine congrArg some ((compare_lt_iff _ _).mpr ?_)
  refine Int.lt_of_lt_of_le ?_ g
  have := Nat.two_pow_pos 1073
  generalize (2 : Nat) ^ 1073 = P at this
  have : a * P < 2 * 4503599627370496 * P := Nat.mul_lt_mul_of_pos_right (by omega) this
  omega
end OwnF
namespace Jvm.Pilot.@@N@@
open Jvm Jvm.ClassFile Sem Op Lib Jvm.Free Jvm.Stand Jvm.LawKit Jvm.RoadKit Bundle Jvm.Pilot.@@N@@.Jvm.D
theorem own_go {tb : Tables} {e : Env} {below : List Frame} {A B : State} {P : State → Outcome → Prop} (st : ∀ t, Steps tb e below B t → Steps tb e below A t) (k : ∃ t o, Steps tb e below B t ∧ P t o) : ∃ t o, Steps tb e below A t ∧ P t o := by
  obtain ⟨t, o, h1, h2⟩ := k
  exact ⟨t, o, st t h1, h2⟩
theorem own_goT {tb : Tables} {e : Env} {below : List Frame} {A B : State} {P : State → Outcome → Prop} (st : Steps tb e below A B) (k : ∃ t o, Steps tb e below B t ∧ P t o) : ∃ t o, Steps tb e below A t ∧ P t o := by
  obtain ⟨t, o, h1, h2⟩ := k
  exact ⟨t, o, st.trans h1, h2⟩
theorem own_nfo {args : Array Value} {s : State} {C : String} {x y z : MethodName} (hsel : (Jvm.Cond.selects C x z).before args s = true) (e : z.cls = y.cls) : NotFace s y := fun r0 h0 => by
  obtain ⟨c2, r2, m2, q1, q2, q3, q4, kP, hkP, hkPi⟩ := Cond.selects_spec hsel
  have a1 := findClass_of_methodNamed q3
  have a2 := findClass_of_methodNamed h0
  rw [e] at a1
  have e2 := Option.some.inj (a1.symm.trans a2)
  exact ⟨kP, by rw [← e2]; exact hkP, hkPi⟩
theorem own_ifc {α : Type} {P R : Prop} [Decidable P] [Decidable R] (a b : α) (h : P ↔ R) : (if P then a else b) = (if R then a else b) := by
  by_cases q : P
  · rw [if_pos q, if_pos (h.mp q)]
  · rw [if_neg q, if_neg fun r => q (h.mpr r)]
theorem own_ne {a b : Nat} (h : a < b ∨ b < a) : a ≠ b := by omega
theorem own_keep_le {h h' : Heap} {ws : List Addr} (K : Keep h h' ws) : h.size ≤ h'.size := K.1
open OwnF
theorem own_p62 {n : Nat} (h : n ≤ 4294836225) : n < 2 ^ 62 := Nat.lt_of_le_of_lt h (by decide)
theorem own_p40 {n : Nat} (h : n ≤ 4294836225) : n < 2 ^ 40 := Nat.lt_of_le_of_lt h (by decide)
theorem own_p53 {n : Nat} (h : n ≤ 4294836225) : n < 2 ^ 53 := Nat.lt_of_le_of_lt h (by decide)
theorem own_two : (4611686018427387904 : UInt64) = FP.l2d 2 := by decide +kernel
theorem own_no {x : UInt64} {a : Nat} (h : Hf x a) : Jvm.Free.Fl.NoNaN64 x := Jvm.Free.Fl.val64_no.mpr (hf_ne h)
theorem own_mulL {k r : Int64} {a b : Nat} (hk : k.toInt = (a : Int)) (hr : r.toInt = (b : Int)) (h : a * b < 2 ^ 62) : (k * r).toInt = ((a * b : Nat) : Int) := by
  have c := c_lmul k r
  have g := rng64 (k * r)
  rw [hk, hr, ← Int.natCast_mul] at c
  have e : (2 : Nat) ^ 62 = 4611686018427387904 := by decide
  rw [e] at h
  omega
theorem own_r16 (x : Int32) : ∃ a : Nat, (x &&& (65535 : Int32)).toInt64.toInt = (a : Int) ∧ a < 65536 := by
  have h := c_mask x 65535 16 (by decide) (by decide)
  have e : ((2 ^ 16 : Nat) : Int) = 65536 := rfl
  rw [e] at h
  refine ⟨(x &&& (65535 : Int32)).toInt.toNat, ?_, ?_⟩
  · rw [c_i2l]; omega
  · omega
theorem own_lim (f : Int32) (q : Int64) : ∃ a : Nat, (if (f &&& (1 : Int32)) = (0 : Int32) then (q &&& (32767 : Int64)) else (q &&& (9223372036854775807 : Int64))).toInt = (a : Int) := by
  have h1 := (c_andSL q 32767).2.2 (by decide)
  have h2 := (c_andSL q 9223372036854775807).2.2 (by decide)
  split
  · exact ⟨_, (Int.toNat_of_nonneg h1).symm⟩
  · exact ⟨_, (Int.toNat_of_nonneg h2).symm⟩
theorem own_half {r : Int64} {b : Nat} (hr : r.toInt = (b : Int)) (hb : b < 65536) : ((r + (1 : Int64)) / (2 : Int64)).toInt = (((b + 1) / 2 : Nat) : Int) := by
  have c := c_ladd r 1
  have e1 : (1 : Int64).toInt = 1 := rfl
  have g := rng64 (r + 1)
  rw [hr, e1] at c
  have s : (r + 1).toInt = (b : Int) + 1 := by omega
  have d := (c_ldiv (r + 1) 2 2 rfl (by decide)).1 (by omega)
  rw [d, s]; omega
theorem own_rows {r : Int64} {b : Nat} (hr : r.toInt = (b : Int)) (hb : b < 2 ^ 40) : Hf (FP.ddiv (FP.l2d r) (4611686018427387904 : UInt64)) b := by
  rw [own_two]
  have e : (2 : Nat) ^ 40 = 1099511627776 := by decide
  rw [e] at hb
  exact hf_div (hf_l2d hr (by omega)) (hf_l2d (n := 2) (k := 2) (by decide) (by decide)) (by decide) (by omega) (by omega)
theorem own_le {y : UInt64} {b a : Nat} {q : Int64} (hy : Hf y b) (hb : b < 65536) (hq : q.toInt = (a : Int)) (h : b ≤ 2 * a) : ¬ ((0 : Int32) < cmpValue (FP.dcmp y (FP.l2d q)) .g) := by
  by_cases hs : a < 9007199254740992
  · have e : (2 : Nat) ^ 53 = 9007199254740992 := by decide
    rw [hf_cmp hy (hf_l2d hq (by rw [e]; exact hs))]
    have : compare (b : Int) ((2 * a : Nat) : Int) ≠ .gt := fun q => by rw [Jvm.FP.Core.compare_gt_iff] at q; omega
    revert this
    cases compare (b : Int) ((2 * a : Nat) : Int) <;> intro z <;> first | exact absurd rfl z | decide
  · have e : (2 : Nat) ^ 40 = 1099511627776 := by decide
    rw [hf_big hy (by rw [e]; omega) (by omega)]; decide
theorem own_gt {y : UInt64} {b a : Nat} {q : Int64} (hy : Hf y b) (hq : q.toInt = (a : Int)) (ha : a < 65536) (h : 2 * a < b) : cmpValue (FP.dcmp y (FP.l2d q)) .g = (1 : Int32) := by
  have e : (2 : Nat) ^ 53 = 9007199254740992 := by decide
  rw [hf_cmp hy (hf_l2d hq (by rw [e]; omega)), show compare (b : Int) ((2 * a : Nat) : Int) = .gt from (Jvm.FP.Core.compare_gt_iff _ _).mpr (by omega)]; rfl
theorem own_mid {x y : UInt64} {k b a : Nat} {q : Int64} (hx : Hf x (k * b)) (hy : Hf y b) (hq : q.toInt = (a : Int)) (hk : k < 65536) (hb : b < 65536) (ha : 2 * a < b) : Hf (FP.dmul x (FP.l2d q)) (k * b * a) := by
  have e : (2 : Nat) ^ 53 = 9007199254740992 := by decide
  have m1 : k * b ≤ 65535 * 65535 := Nat.mul_le_mul (by omega) (by omega)
  have m2 : k * b * a ≤ 65535 * 65535 * 65535 := Nat.mul_le_mul m1 (by omega)
  exact hf_mul hx (hf_l2d hq (by rw [e]; omega)) (by rw [Nat.mul_left_comm]) (by rw [e]; omega)
theorem own_got {x y : UInt64} {k b a : Nat} {q : Int64} (hx : Hf x (k * b)) (hy : Hf y b) (hq : q.toInt = (a : Int)) (hk : k < 65536) (hb : b < 65536) (ha : 2 * a < b) : Hf (FP.ddiv (FP.dmul x (FP.l2d q)) y) (2 * (k * a)) := by
  have e : (2 : Nat) ^ 53 = 9007199254740992 := by decide
  have m1 : k * a ≤ 65535 * 65535 := Nat.mul_le_mul (by omega) (by omega)
  refine hf_div (own_mid hx hy hq hk hb ha) hy (by omega) ?_ (by rw [e]; omega)
  rw [Nat.mul_assoc 2, Nat.mul_assoc k, Nat.mul_assoc k, Nat.mul_comm b a]
theorem own_same {x y : UInt64} {a : Nat} (hx : Hf x a) (hy : Hf y a) : cmpValue (FP.dcmp x y) .l = (0 : Int32) := by
  rw [hf_cmp hx hy, show compare (a : Int) (a : Int) = .eq from (Jvm.FP.Core.compare_eq_iff _ _).mpr rfl]; rfl

theorem ef_rmSA (m : MethodId) (x0 : UInt64) (x1 : UInt64) (x2 : Int64) : entryFrame m #[(.double x0), (.double x1), (.long x2)] 6 = mkF m 0 #[.val (.double x0), .second, .val (.double x1), .second, .val (.long x2), .second] [] := by first | (simp [entryFrame, mkF, argsToLocals, Value.category]; done) | rfl
theorem d1_0 : decode prog_94_method_10_code 0 = .ok (.dload_n 2, 1) := by decide +kernel
theorem d1_1 : decode prog_94_method_10_code 1 = .ok (.lload 4, 2) := by decide +kernel
theorem d1_3 : decode prog_94_method_10_code 3 = .ok (.l2d, 1) := by decide +kernel
theorem d1_4 : decode prog_94_method_10_code 4 = .ok (.dcmp .g, 1) := by decide +kernel
theorem d1_5 : decode prog_94_method_10_code 5 = .ok (.ifCond .gt 7, 3) := by decide +kernel
theorem d1_8 : decode prog_94_method_10_code 8 = .ok (.dload_n 0, 1) := by decide +kernel
theorem d1_9 : decode prog_94_method_10_code 9 = .ok (.goto 10, 3) := by decide +kernel
theorem d1_19 : decode prog_94_method_10_code 19 = .ok (.dreturn, 1) := by decide +kernel
theorem pn_com_example_planwright_planwright_planner_CostModel : plainName "com/example/planwright/planwright/planner/CostModel" = true := by first | (simp [plainName, overriddenIn]; done) | decide +kernel
def Q_rmSA (Z : State) (cx : UInt64) (rw : UInt64) (lm : Int64) (h0 : Heap) (n0 : Nat) (v : Option Value) (h : Heap) (L : List Loc) : Prop := v = some (.double cx) ∧ Fr n0 L ∧ h = h0
set_option maxRecDepth 65536 in
set_option maxHeartbeats 40000000 in
theorem rmSA (l : Launch) (Z : State) (a0 : Array Value) (hw : ∀ d ∈ tables_1, d.before a0 Z = true) (ws : List Jvm.Cond) (cx : UInt64) (rw : UInt64) (lm : Int64) (h0 : Heap) (n0 : Nat) (Z0 : n0 ≤ h0.size) (OLD : Old Z n0 h0) (hle : ¬ ((0 : Int32) < (cmpValue (FP.dcmp rw (FP.l2d lm)) .g))) :
    MetFree l (⟨"com/example/planwright/planwright/planner/CostModel", "stopAfter", "(DDJ)D"⟩ : MethodName) (head1 (Jvm.Cond.code (⟨"com/example/planwright/planwright/planner/CostModel", "stopAfter", "(DDJ)D"⟩ : MethodName) prog_94_method_10_code 6 (some .double) :: ws) ({ frames := 0, cells := 0, slots := 0, locals := 0 } : Room)) (fun a U => a = #[(.double cx), (.double rw), (.long lm)] ∧ Z.Warmed39 U.vm ∧ U.heap = h0) (fun _ _ _ _ _ => True) (fun _ U o U' => ∃ v L, o = .returned v ∧ Q_rmSA Z cx rw lm h0 n0 v U'.heap L ∧ FrameEnd U o U' L ({ frames := 0, cells := 0, slots := 0, locals := 0 } : Room).cells ({ frames := 0, cells := 0, slots := 0, locals := 0 } : Room).slots) := by
  refine MetFree.of_bodySF (plainFor_of_name pn_com_example_planwright_planwright_planner_CostModel) hisR ?_
  intro p e s m args below meth c s₁ Bd hml0 hP hK
  obtain ⟨rfl, hZ, hh⟩ := hP
  have hx := Bd.exec
  have hby := Bd.bytes
  have hml : c.maxLocals = 6 := hml0
  have hown : s.vm.findClass "com/example/planwright/planwright/planner/CostModel" = some m.cls := findClass_of_methodNamed Bd.named
  have hnm := (name_of_methodNamed Bd.named Bd.method).1
  have X0 : Stand p l e ({ frames := 0, cells := 0, slots := 0, locals := 0 } : Room) s m #[(.double cx), (.double rw), (.long lm)] below meth c s₁ [] 0 0 := Stand.of_body Bd
  have e0 : s₁.heap = h0 := by rw [← hh, Bd.state]; rfl
  have N0 := Fr.nil n0
  have pre0 : ∀ t, Steps p.tables e below (s₁.setTop (mkF m 0 #[.val (.double cx), .second, .val (.double rw), .second, .val (.long lm), .second] [])) t → Steps p.tables e below (s₁.setTop (entryFrame m #[(.double cx), (.double rw), (.long lm)] 6)) t := fun t k => castTop (ef_rmSA m cx rw lm) k
  have oz := OLD.1
  refine own_go (B := s₁.setTop (mkF m 0 #[.val (.double cx), .second, .val (.double rw), .second, .val (.long lm), .second] [])) pre0 ?_
  show ∃ t o, Steps p.tables e below (s₁.setTop (mkF m 0 #[.val (.double cx), .second, .val (.double rw), .second, .val (.long lm), .second] [])) t ∧ _
  refine own_go (fun _ => XS.dloadN X0.here hx rfl (hb hby d1_0) rfl) ?_
  show ∃ t o, Steps p.tables e below (s₁.setTop (mkF m 1 #[.val (.double cx), .second, .val (.double rw), .second, .val (.long lm), .second] [(.double rw)])) t ∧ _
  refine own_go (fun _ => XS.lload X0.here hx rfl (hb hby d1_1) rfl) ?_
  show ∃ t o, Steps p.tables e below (s₁.setTop (mkF m 3 #[.val (.double cx), .second, .val (.double rw), .second, .val (.long lm), .second] [(.long lm), (.double rw)])) t ∧ _
  refine own_go (fun _ => XS.l2dS X0.here hx rfl (hb hby d1_3) rfl rfl) ?_
  show ∃ t o, Steps p.tables e below (s₁.setTop (mkF m 4 #[.val (.double cx), .second, .val (.double rw), .second, .val (.long lm), .second] [(.double (FP.l2d lm)), (.double rw)])) t ∧ _
  refine own_go (fun _ => XS.dcmpS X0.here hx rfl (hb hby d1_4) rfl (v := (cmpValue (FP.dcmp rw (FP.l2d lm)) .g)) rfl) ?_
  show ∃ t o, Steps p.tables e below (s₁.setTop (mkF m 5 #[.val (.double cx), .second, .val (.double rw), .second, .val (.long lm), .second] [(.int (cmpValue (FP.dcmp rw (FP.l2d lm)) .g))])) t ∧ _
  refine own_go (fun _ => XS.ifNo X0.here hx rfl (hb hby d1_5) rfl ((if0 _ _).trans (flt hle).2.2.1)) ?_
  show ∃ t o, Steps p.tables e below (s₁.setTop (mkF m 8 #[.val (.double cx), .second, .val (.double rw), .second, .val (.long lm), .second] [])) t ∧ _
  refine own_go (fun _ => XS.dloadN X0.here hx rfl (hb hby d1_8) rfl) ?_
  show ∃ t o, Steps p.tables e below (s₁.setTop (mkF m 9 #[.val (.double cx), .second, .val (.double rw), .second, .val (.long lm), .second] [(.double cx)])) t ∧ _
  refine own_go (fun _ => XS.goto X0.here hx rfl (pc0 := 9) (pc' := 19) rfl (hb hby d1_9) (by decide) (by decide)) ?_
  show ∃ t o, Steps p.tables e below (s₁.setTop (mkF m 19 #[.val (.double cx), .second, .val (.double rw), .second, .val (.long lm), .second] [(.double cx)])) t ∧ _
  obtain ⟨fs, hr, hrun, hended, hW, hsame⟩ := X0.leave (v := some (.double cx)) (fun h => by rw [Bd.returns] at h; cases h)
  refine ⟨_, _, ?_, hrun, hended, _, _, rfl, ?_, ⟨_, rfl⟩, hW, hsame.mono (by decide) (by decide)⟩
  · jvm_step X0.here [X0.here.top, hx, (hb hby d1_19), X0.method', Bd.returns, narrow]
    first | (intro acts; rw [hr _ acts rfl rfl rfl]) | rw [hr _ _ rfl rfl rfl]
    exact Steps.refl _
  · show Q_rmSA Z _ _ _ h0 n0 _ s₁.heap _
    rw [e0]
    exact ⟨rfl, N0, rfl⟩
theorem ef_rmSB (m : MethodId) (x0 : UInt64) (x1 : UInt64) (x2 : Int64) : entryFrame m #[(.double x0), (.double x1), (.long x2)] 6 = mkF m 0 #[.val (.double x0), .second, .val (.double x1), .second, .val (.long x2), .second] [] := by first | (simp [entryFrame, mkF, argsToLocals, Value.category]; done) | rfl
theorem d1_12 : decode prog_94_method_10_code 12 = .ok (.dload_n 0, 1) := by decide +kernel
theorem d1_13 : decode prog_94_method_10_code 13 = .ok (.lload 4, 2) := by decide +kernel
theorem d1_15 : decode prog_94_method_10_code 15 = .ok (.l2d, 1) := by decide +kernel
theorem d1_16 : decode prog_94_method_10_code 16 = .ok (.dmul, 1) := by decide +kernel
theorem d1_17 : decode prog_94_method_10_code 17 = .ok (.dload_n 2, 1) := by decide +kernel
theorem d1_18 : decode prog_94_method_10_code 18 = .ok (.ddiv, 1) := by decide +kernel
def Q_rmSB (Z : State) (cx : UInt64) (rw : UInt64) (lm : Int64) (h0 : Heap) (n0 : Nat) (v : Option Value) (h : Heap) (L : List Loc) : Prop := v = some (.double (FP.ddiv (FP.dmul cx (FP.l2d lm)) rw)) ∧ Fr n0 L ∧ h = h0
set_option maxRecDepth 65536 in
set_option maxHeartbeats 40000000 in
theorem rmSB (l : Launch) (Z : State) (a0 : Array Value) (hw : ∀ d ∈ tables_1, d.before a0 Z = true) (ws : List Jvm.Cond) (cx : UInt64) (rw : UInt64) (lm : Int64) (h0 : Heap) (n0 : Nat) (Z0 : n0 ≤ h0.size) (OLD : Old Z n0 h0) (hgt : (cmpValue (FP.dcmp rw (FP.l2d lm)) .g) = (1 : Int32)) (nm : Jvm.Free.Fl.NoNaN64 (FP.dmul cx (FP.l2d lm))) (nd : Jvm.Free.Fl.NoNaN64 (FP.ddiv (FP.dmul cx (FP.l2d lm)) rw)) :
    MetFree l (⟨"com/example/planwright/planwright/planner/CostModel", "stopAfter", "(DDJ)D"⟩ : MethodName) (head1 (Jvm.Cond.code (⟨"com/example/planwright/planwright/planner/CostModel", "stopAfter", "(DDJ)D"⟩ : MethodName) prog_94_method_10_code 6 (some .double) :: ws) ({ frames := 0, cells := 0, slots := 0, locals := 0 } : Room)) (fun a U => a = #[(.double cx), (.double rw), (.long lm)] ∧ Z.Warmed39 U.vm ∧ U.heap = h0) (fun _ _ _ _ _ => True) (fun _ U o U' => ∃ v L, o = .returned v ∧ Q_rmSB Z cx rw lm h0 n0 v U'.heap L ∧ FrameEnd U o U' L ({ frames := 0, cells := 0, slots := 0, locals := 0 } : Room).cells ({ frames := 0, cells := 0, slots := 0, locals := 0 } : Room).slots) := by
  refine MetFree.of_bodySF (plainFor_of_name pn_com_example_planwright_planwright_planner_CostModel) hisR ?_
  intro p e s m args below meth c s₁ Bd hml0 hP hK
  obtain ⟨rfl, hZ, hh⟩ := hP
  have hx := Bd.exec
  have hby := Bd.bytes
  have hml : c.maxLocals = 6 := hml0
  have hown : s.vm.findClass "com/example/planwright/planwright/planner/CostModel" = some m.cls := findClass_of_methodNamed Bd.named
  have hnm := (name_of_methodNamed Bd.named Bd.method).1
  have X0 : Stand p l e ({ frames := 0, cells := 0, slots := 0, locals := 0 } : Room) s m #[(.double cx), (.double rw), (.long lm)] below meth c s₁ [] 0 0 := Stand.of_body Bd
  have e0 : s₁.heap = h0 := by rw [← hh, Bd.state]; rfl
  have N0 := Fr.nil n0
  have pre0 : ∀ t, Steps p.tables e below (s₁.setTop (mkF m 0 #[.val (.double cx), .second, .val (.double rw), .second, .val (.long lm), .second] [])) t → Steps p.tables e below (s₁.setTop (entryFrame m #[(.double cx), (.double rw), (.long lm)] 6)) t := fun t k => castTop (ef_rmSB m cx rw lm) k
  have oz := OLD.1
  refine own_go (B := s₁.setTop (mkF m 0 #[.val (.double cx), .second, .val (.double rw), .second, .val (.long lm), .second] [])) pre0 ?_
  show ∃ t o, Steps p.tables e below (s₁.setTop (mkF m 0 #[.val (.double cx), .second, .val (.double rw), .second, .val (.long lm), .second] [])) t ∧ _
  refine own_go (fun _ => XS.dloadN X0.here hx rfl (hb hby d1_0) rfl) ?_
  show ∃ t o, Steps p.tables e below (s₁.setTop (mkF m 1 #[.val (.double cx), .second, .val (.double rw), .second, .val (.long lm), .second] [(.double rw)])) t ∧ _
  refine own_go (fun _ => XS.lload X0.here hx rfl (hb hby d1_1) rfl) ?_
  show ∃ t o, Steps p.tables e below (s₁.setTop (mkF m 3 #[.val (.double cx), .second, .val (.double rw), .second, .val (.long lm), .second] [(.long lm), (.double rw)])) t ∧ _
  refine own_go (fun _ => XS.l2dS X0.here hx rfl (hb hby d1_3) rfl rfl) ?_
  show ∃ t o, Steps p.tables e below (s₁.setTop (mkF m 4 #[.val (.double cx), .second, .val (.double rw), .second, .val (.long lm), .second] [(.double (FP.l2d lm)), (.double rw)])) t ∧ _
  refine own_go (fun _ => XS.dcmpS X0.here hx rfl (hb hby d1_4) rfl (v := (1 : Int32)) hgt) ?_
  show ∃ t o, Steps p.tables e below (s₁.setTop (mkF m 5 #[.val (.double cx), .second, .val (.double rw), .second, .val (.long lm), .second] [(.int (1 : Int32))])) t ∧ _
  refine own_go (fun _ => XS.ifYes X0.here hx rfl (pc0 := 5) (pc' := 12) rfl (hb hby d1_5) rfl ((if0 _ _).trans (tlt (by decide : (0 : Int32) < (1 : Int32))).2.2.1) (by decide) (by decide)) ?_
  show ∃ t o, Steps p.tables e below (s₁.setTop (mkF m 12 #[.val (.double cx), .second, .val (.double rw), .second, .val (.long lm), .second] [])) t ∧ _
  refine own_go (fun _ => XS.dloadN X0.here hx rfl (hb hby d1_12) rfl) ?_
  show ∃ t o, Steps p.tables e below (s₁.setTop (mkF m 13 #[.val (.double cx), .second, .val (.double rw), .second, .val (.long lm), .second] [(.double cx)])) t ∧ _
  refine own_go (fun _ => XS.lload X0.here hx rfl (hb hby d1_13) rfl) ?_
  show ∃ t o, Steps p.tables e below (s₁.setTop (mkF m 15 #[.val (.double cx), .second, .val (.double rw), .second, .val (.long lm), .second] [(.long lm), (.double cx)])) t ∧ _
  refine own_go (fun _ => XS.l2dS X0.here hx rfl (hb hby d1_15) rfl rfl) ?_
  show ∃ t o, Steps p.tables e below (s₁.setTop (mkF m 16 #[.val (.double cx), .second, .val (.double rw), .second, .val (.long lm), .second] [(.double (FP.l2d lm)), (.double cx)])) t ∧ _
  refine own_go (fun _ => XS.dmulS X0.here hx rfl (hb hby d1_16) rfl nm rfl) ?_
  show ∃ t o, Steps p.tables e below (s₁.setTop (mkF m 17 #[.val (.double cx), .second, .val (.double rw), .second, .val (.long lm), .second] [(.double (FP.dmul cx (FP.l2d lm)))])) t ∧ _
  refine own_go (fun _ => XS.dloadN X0.here hx rfl (hb hby d1_17) rfl) ?_
  show ∃ t o, Steps p.tables e below (s₁.setTop (mkF m 18 #[.val (.double cx), .second, .val (.double rw), .second, .val (.long lm), .second] [(.double rw), (.double (FP.dmul cx (FP.l2d lm)))])) t ∧ _
  refine own_go (fun _ => XS.ddivS X0.here hx rfl (hb hby d1_18) rfl nd rfl) ?_
  show ∃ t o, Steps p.tables e below (s₁.setTop (mkF m 19 #[.val (.double cx), .second, .val (.double rw), .second, .val (.long lm), .second] [(.double (FP.ddiv (FP.dmul cx (FP.l2d lm)) rw))])) t ∧ _
  obtain ⟨fs, hr, hrun, hended, hW, hsame⟩ := X0.leave (v := some (.double (FP.ddiv (FP.dmul cx (FP.l2d lm)) rw))) (fun h => by rw [Bd.returns] at h; cases h)
  refine ⟨_, _, ?_, hrun, hended, _, _, rfl, ?_, ⟨_, rfl⟩, hW, hsame.mono (by decide) (by decide)⟩
  · jvm_step X0.here [X0.here.top, hx, (hb hby d1_19), X0.method', Bd.returns, narrow]
    first | (intro acts; rw [hr _ acts rfl rfl rfl]) | rw [hr _ _ rfl rfl rfl]
    exact Steps.refl _
  · show Q_rmSB Z _ _ _ h0 n0 _ s₁.heap _
    rw [e0]
    exact ⟨rfl, N0, rfl⟩
theorem ef_rm0 (m : MethodId) (x0 : Int32) (x1 : Int32) (x2 : Int64) (x3 : Int32) : entryFrame m #[(.int x0), (.int x1), (.long x2), (.int x3)] maxLocals = mkF m 0 #[.val (.int x0), .val (.int x1), .val (.long x2), .second, .val (.int x3), .unset, .unset, .unset, .unset, .unset, .unset, .unset, .unset, .unset, .unset, .unset, .unset, .unset, .unset] [] := by first | (simp [entryFrame, mkF, argsToLocals, Value.category, maxLocals]; done) | rfl
theorem pd__28DDJ_29D : parseMethodDescriptor "(DDJ)D" = some ⟨[.double, .double, .long], some .double⟩ := by decide +kernel
theorem pn_com_example_planwright_planwright_planner_CostModelStopAfterPinLaw : plainName "com/example/planwright/planwright/planner/CostModelStopAfterPinLaw" = true := by first | (simp [plainName, overriddenIn]; done) | decide +kernel
def Q_rm0 (Z : State) (i1 : Int32) (i2 : Int32) (q1 : Int64) (i3 : Int32) (h0 : Heap) (n0 : Nat) (v : Option Value) (h : Heap) (L : List Loc) : Prop := v = some (.int (1 : Int32)) ∧ Fr n0 L ∧ Keep h0 h []
set_option maxRecDepth 65536 in
set_option maxHeartbeats 40000000 in
theorem rm0 (l : Launch) (Z : State) (a0 : Array Value) (hw : ∀ d ∈ tables_1, d.before a0 Z = true) (ws : List Jvm.Cond) (i1 : Int32) (i2 : Int32) (q1 : Int64) (i3 : Int32) (h0 : Heap) (n0 : Nat) (Z0 : n0 ≤ h0.size) (OLD : Old Z n0 h0) :
    MetFree l x (head1 (Jvm.Cond.code x code maxLocals ret :: ws) room_1) (fun a U => a = #[(.int i1), (.int i2), (.long q1), (.int i3)] ∧ Z.Warmed39 U.vm ∧ U.heap = h0) (fun _ _ _ _ _ => True) (fun _ U o U' => ∃ v L, o = .returned v ∧ Q_rm0 Z i1 i2 q1 i3 h0 n0 v U'.heap L ∧ FrameEnd U o U' L room_1.cells room_1.slots) := by
  refine MetFree.of_bodySF (plainFor_of_name pn_com_example_planwright_planwright_planner_CostModelStopAfterPinLaw) hisR ?_
  intro p e s m args below meth c s₁ Bd hml0 hP hK
  obtain ⟨rfl, hZ, hh⟩ := hP
  have hx := Bd.exec
  have hby := Bd.bytes
  have hml : c.maxLocals = 19 := hml0
  have hown : s.vm.findClass "com/example/planwright/planwright/planner/CostModelStopAfterPinLaw" = some m.cls := findClass_of_methodNamed Bd.named
  have hnm := (name_of_methodNamed Bd.named Bd.method).1
  have X0 : Stand p l e room_1 s m #[(.int i1), (.int i2), (.long q1), (.int i3)] below meth c s₁ [] 0 0 := Stand.of_body Bd
  have e0 : s₁.heap = h0 := by rw [← hh, Bd.state]; rfl
  have N0 := Fr.nil n0
  have pre0 : ∀ t, Steps p.tables e below (s₁.setTop (mkF m 0 #[.val (.int i1), .val (.int i2), .val (.long q1), .second, .val (.int i3), .unset, .unset, .unset, .unset, .unset, .unset, .unset, .unset, .unset, .unset, .unset, .unset, .unset, .unset] [])) t → Steps p.tables e below (s₁.setTop (entryFrame m #[(.int i1), (.int i2), (.long q1), (.int i3)] maxLocals)) t := fun t k => castTop (ef_rm0 m i1 i2 q1 i3) k
  have oz := OLD.1
  refine own_go (B := s₁.setTop (mkF m 0 #[.val (.int i1), .val (.int i2), .val (.long q1), .second, .val (.int i3), .unset, .unset, .unset, .unset, .unset, .unset, .unset, .unset, .unset, .unset, .unset, .unset, .unset, .unset] [])) pre0 ?_
  show ∃ t o, Steps p.tables e below (s₁.setTop (mkF m 0 #[.val (.int i1), .val (.int i2), .val (.long q1), .second, .val (.int i3), .unset, .unset, .unset, .unset, .unset, .unset, .unset, .unset, .unset, .unset, .unset, .unset, .unset, .unset] [])) t ∧ _
  refine own_go (fun _ => XS.iloadN X0.here hx rfl (hb hby at_0) rfl) ?_
  show ∃ t o, Steps p.tables e below (s₁.setTop (mkF m 1 #[.val (.int i1), .val (.int i2), .val (.long q1), .second, .val (.int i3), .unset, .unset, .unset, .unset, .unset, .unset, .unset, .unset, .unset, .unset, .unset, .unset, .unset, .unset] [(.int i1)])) t ∧ _
  refine own_go (fun _ => X0.ldcInt hx hown (mvT hZ (hw _ (List.mem_of_getElem? (i := 0) rfl))) (g := (mkF m 1 #[.val (.int i1), .val (.int i2), .val (.long q1), .second, .val (.int i3), .unset, .unset, .unset, .unset, .unset, .unset, .unset, .unset, .unset, .unset, .unset, .unset, .unset, .unset] [(.int i1)])) rfl (hb hby at_1) _) ?_
  show ∃ t o, Steps p.tables e below (s₁.setTop (mkF m 3 #[.val (.int i1), .val (.int i2), .val (.long q1), .second, .val (.int i3), .unset, .unset, .unset, .unset, .unset, .unset, .unset, .unset, .unset, .unset, .unset, .unset, .unset, .unset] [(.int (65535 : Int32)), (.int i1)])) t ∧ _
  refine own_go (fun _ => XS.iand X0.here hx rfl (hb hby at_3) rfl) ?_
  show ∃ t o, Steps p.tables e below (s₁.setTop (mkF m 4 #[.val (.int i1), .val (.int i2), .val (.long q1), .second, .val (.int i3), .unset, .unset, .unset, .unset, .unset, .unset, .unset, .unset, .unset, .unset, .unset, .unset, .unset, .unset] [(.int (i1 &&& (65535 : Int32)))])) t ∧ _
  refine own_go (fun _ => XS.i2l X0.here hx rfl (hb hby at_4) rfl) ?_
  show ∃ t o, Steps p.tables e below (s₁.setTop (mkF m 5 #[.val (.int i1), .val (.int i2), .val (.long q1), .second, .val (.int i3), .unset, .unset, .unset, .unset, .unset, .unset, .unset, .unset, .unset, .unset, .unset, .unset, .unset, .unset] [(.long ((i1 &&& (65535 : Int32)).toInt64))])) t ∧ _
  refine own_go (fun _ => XS.lstore X0.here hx rfl (hb hby at_5) rfl (l' := #[.val (.int i1), .val (.int i2), .val (.long q1), .second, .val (.int i3), .val (.long ((i1 &&& (65535 : Int32)).toInt64)), .second, .unset, .unset, .unset, .unset, .unset, .unset, .unset, .unset, .unset, .unset, .unset, .unset]) rfl) ?_
  show ∃ t o, Steps p.tables e below (s₁.setTop (mkF m 7 #[.val (.int i1), .val (.int i2), .val (.long q1), .second, .val (.int i3), .val (.long ((i1 &&& (65535 : Int32)).toInt64)), .second, .unset, .unset, .unset, .unset, .unset, .unset, .unset, .unset, .unset, .unset, .unset, .unset] [])) t ∧ _
  refine own_go (fun _ => XS.iloadN X0.here hx rfl (hb hby at_7) rfl) ?_
  show ∃ t o, Steps p.tables e below (s₁.setTop (mkF m 8 #[.val (.int i1), .val (.int i2), .val (.long q1), .second, .val (.int i3), .val (.long ((i1 &&& (65535 : Int32)).toInt64)), .second, .unset, .unset, .unset, .unset, .unset, .unset, .unset, .unset, .unset, .unset, .unset, .unset] [(.int i2)])) t ∧ _
  refine own_go (fun _ => X0.ldcInt hx hown (mvT hZ (hw _ (List.mem_of_getElem? (i := 0) rfl))) (g := (mkF m 8 #[.val (.int i1), .val (.int i2), .val (.long q1), .second, .val (.int i3), .val (.long ((i1 &&& (65535 : Int32)).toInt64)), .second, .unset, .unset, .unset, .unset, .unset, .unset, .unset, .unset, .unset, .unset, .unset, .unset] [(.int i2)])) rfl (hb hby at_8) _) ?_
  show ∃ t o, Steps p.tables e below (s₁.setTop (mkF m 10 #[.val (.int i1), .val (.int i2), .val (.long q1), .second, .val (.int i3), .val (.long ((i1 &&& (65535 : Int32)).toInt64)), .second, .unset, .unset, .unset, .unset, .unset, .unset, .unset, .unset, .unset, .unset, .unset, .unset] [(.int (65535 : Int32)), (.int i2)])) t ∧ _
  refine own_go (fun _ => XS.iand X0.here hx rfl (hb hby at_10) rfl) ?_
  show ∃ t o, Steps p.tables e below (s₁.setTop (mkF m 11 #[.val (.int i1), .val (.int i2), .val (.long q1), .second, .val (.int i3), .val (.long ((i1 &&& (65535 : Int32)).toInt64)), .second, .unset, .unset, .unset, .unset, .unset, .unset, .unset, .unset, .unset, .unset, .unset, .unset] [(.int (i2 &&& (65535 : Int32)))])) t ∧ _
  refine own_go (fun _ => XS.i2l X0.here hx rfl (hb hby at_11) rfl) ?_
  show ∃ t o, Steps p.tables e below (s₁.setTop (mkF m 12 #[.val (.int i1), .val (.int i2), .val (.long q1), .second, .val (.int i3), .val (.long ((i1 &&& (65535 : Int32)).toInt64)), .second, .unset, .unset, .unset, .unset, .unset, .unset, .unset, .unset, .unset, .unset, .unset, .unset] [(.long ((i2 &&& (65535 : Int32)).toInt64))])) t ∧ _
  refine own_go (fun _ => XS.lstore X0.here hx rfl (hb hby at_12) rfl (l' := #[.val (.int i1), .val (.int i2), .val (.long q1), .second, .val (.int i3), .val (.long ((i1 &&& (65535 : Int32)).toInt64)), .second, .val (.long ((i2 &&& (65535 : Int32)).toInt64)), .second, .unset, .unset, .unset, .unset, .unset, .unset, .unset, .unset, .unset, .unset]) rfl) ?_
  show ∃ t o, Steps p.tables e below (s₁.setTop (mkF m 14 #[.val (.int i1), .val (.int i2), .val (.long q1), .second, .val (.int i3), .val (.long ((i1 &&& (65535 : Int32)).toInt64)), .second, .val (.long ((i2 &&& (65535 : Int32)).toInt64)), .second, .unset, .unset, .unset, .unset, .unset, .unset, .unset, .unset, .unset, .unset] [])) t ∧ _
  refine own_go (fun _ => XS.iload X0.here hx rfl (hb hby at_14) rfl) ?_
  show ∃ t o, Steps p.tables e below (s₁.setTop (mkF m 16 #[.val (.int i1), .val (.int i2), .val (.long q1), .second, .val (.int i3), .val (.long ((i1 &&& (65535 : Int32)).toInt64)), .second, .val (.long ((i2 &&& (65535 : Int32)).toInt64)), .second, .unset, .unset, .unset, .unset, .unset, .unset, .unset, .unset, .unset, .unset] [(.int i3)])) t ∧ _
  refine own_go (fun _ => XS.iconst X0.here hx rfl (hb hby at_16)) ?_
  show ∃ t o, Steps p.tables e below (s₁.setTop (mkF m 17 #[.val (.int i1), .val (.int i2), .val (.long q1), .second, .val (.int i3), .val (.long ((i1 &&& (65535 : Int32)).toInt64)), .second, .val (.long ((i2 &&& (65535 : Int32)).toInt64)), .second, .unset, .unset, .unset, .unset, .unset, .unset, .unset, .unset, .unset, .unset] [(.int (1 : Int32)), (.int i3)])) t ∧ _
  refine own_go (fun _ => XS.iand X0.here hx rfl (hb hby at_17) rfl) ?_
  show ∃ t o, Steps p.tables e below (s₁.setTop (mkF m 18 #[.val (.int i1), .val (.int i2), .val (.long q1), .second, .val (.int i3), .val (.long ((i1 &&& (65535 : Int32)).toInt64)), .second, .val (.long ((i2 &&& (65535 : Int32)).toInt64)), .second, .unset, .unset, .unset, .unset, .unset, .unset, .unset, .unset, .unset, .unset] [(.int (i3 &&& (1 : Int32)))])) t ∧ _
  have seg1 : ∀ t, Steps p.tables e below (s₁.setTop (mkF m 34 #[.val (.int i1), .val (.int i2), .val (.long q1), .second, .val (.int i3), .val (.long ((i1 &&& (65535 : Int32)).toInt64)), .second, .val (.long ((i2 &&& (65535 : Int32)).toInt64)), .second, .unset, .unset, .unset, .unset, .unset, .unset, .unset, .unset, .unset, .unset] [(.long (if (i3 &&& (1 : Int32)) = (0 : Int32) then (q1 &&& (32767 : Int64)) else (q1 &&& (9223372036854775807 : Int64))))])) t → Steps p.tables e below (s₁.setTop (mkF m 18 #[.val (.int i1), .val (.int i2), .val (.long q1), .second, .val (.int i3), .val (.long ((i1 &&& (65535 : Int32)).toInt64)), .second, .val (.long ((i2 &&& (65535 : Int32)).toInt64)), .second, .unset, .unset, .unset, .unset, .unset, .unset, .unset, .unset, .unset, .unset] [(.int (i3 &&& (1 : Int32)))])) t := by
    intro t k
    show Steps p.tables e below (s₁.setTop (mkF m 18 #[.val (.int i1), .val (.int i2), .val (.long q1), .second, .val (.int i3), .val (.long ((i1 &&& (65535 : Int32)).toInt64)), .second, .val (.long ((i2 &&& (65535 : Int32)).toInt64)), .second, .unset, .unset, .unset, .unset, .unset, .unset, .unset, .unset, .unset, .unset] [(.int (i3 &&& (1 : Int32)))])) _
    by_cases hc2 : (i3 &&& (1 : Int32)) = (0 : Int32)
    · refine XS.ifYes X0.here hx rfl (pc0 := 18) (pc' := 29) rfl (hb hby at_18) rfl ((if0 _ _).trans (teq hc2).1) (by decide) (by decide) ?_
      show Steps p.tables e below (s₁.setTop (mkF m 29 #[.val (.int i1), .val (.int i2), .val (.long q1), .second, .val (.int i3), .val (.long ((i1 &&& (65535 : Int32)).toInt64)), .second, .val (.long ((i2 &&& (65535 : Int32)).toInt64)), .second, .unset, .unset, .unset, .unset, .unset, .unset, .unset, .unset, .unset, .unset] [])) _
      refine XS.lloadN X0.here hx rfl (hb hby at_29) rfl ?_
      show Steps p.tables e below (s₁.setTop (mkF m 30 #[.val (.int i1), .val (.int i2), .val (.long q1), .second, .val (.int i3), .val (.long ((i1 &&& (65535 : Int32)).toInt64)), .second, .val (.long ((i2 &&& (65535 : Int32)).toInt64)), .second, .unset, .unset, .unset, .unset, .unset, .unset, .unset, .unset, .unset, .unset] [(.long q1)])) _
      refine X0.ldc2Long hx hown (mvT hZ (hw _ (List.mem_of_getElem? (i := 1) rfl))) (g := (mkF m 30 #[.val (.int i1), .val (.int i2), .val (.long q1), .second, .val (.int i3), .val (.long ((i1 &&& (65535 : Int32)).toInt64)), .second, .val (.long ((i2 &&& (65535 : Int32)).toInt64)), .second, .unset, .unset, .unset, .unset, .unset, .unset, .unset, .unset, .unset, .unset] [(.long q1)])) rfl (hb hby at_30) _ ?_
      show Steps p.tables e below (s₁.setTop (mkF m 33 #[.val (.int i1), .val (.int i2), .val (.long q1), .second, .val (.int i3), .val (.long ((i1 &&& (65535 : Int32)).toInt64)), .second, .val (.long ((i2 &&& (65535 : Int32)).toInt64)), .second, .unset, .unset, .unset, .unset, .unset, .unset, .unset, .unset, .unset, .unset] [(.long (32767 : Int64)), (.long q1)])) _
      refine XS.land X0.here hx rfl (hb hby at_33) rfl ?_
      simp only [if_pos hc2] at k
      exact k
    · refine XS.ifNo X0.here hx rfl (hb hby at_18) rfl ((if0 _ _).trans (feq hc2).1) ?_
      show Steps p.tables e below (s₁.setTop (mkF m 21 #[.val (.int i1), .val (.int i2), .val (.long q1), .second, .val (.int i3), .val (.long ((i1 &&& (65535 : Int32)).toInt64)), .second, .val (.long ((i2 &&& (65535 : Int32)).toInt64)), .second, .unset, .unset, .unset, .unset, .unset, .unset, .unset, .unset, .unset, .unset] [])) _
      refine XS.lloadN X0.here hx rfl (hb hby at_21) rfl ?_
      show Steps p.tables e below (s₁.setTop (mkF m 22 #[.val (.int i1), .val (.int i2), .val (.long q1), .second, .val (.int i3), .val (.long ((i1 &&& (65535 : Int32)).toInt64)), .second, .val (.long ((i2 &&& (65535 : Int32)).toInt64)), .second, .unset, .unset, .unset, .unset, .unset, .unset, .unset, .unset, .unset, .unset] [(.long q1)])) _
      refine X0.ldc2Long hx hown (mvT hZ (hw _ (List.mem_of_getElem? (i := 8) rfl))) (g := (mkF m 22 #[.val (.int i1), .val (.int i2), .val (.long q1), .second, .val (.int i3), .val (.long ((i1 &&& (65535 : Int32)).toInt64)), .second, .val (.long ((i2 &&& (65535 : Int32)).toInt64)), .second, .unset, .unset, .unset, .unset, .unset, .unset, .unset, .unset, .unset, .unset] [(.long q1)])) rfl (hb hby at_22) _ ?_
      show Steps p.tables e below (s₁.setTop (mkF m 25 #[.val (.int i1), .val (.int i2), .val (.long q1), .second, .val (.int i3), .val (.long ((i1 &&& (65535 : Int32)).toInt64)), .second, .val (.long ((i2 &&& (65535 : Int32)).toInt64)), .second, .unset, .unset, .unset, .unset, .unset, .unset, .unset, .unset, .unset, .unset] [(.long (9223372036854775807 : Int64)), (.long q1)])) _
      refine XS.land X0.here hx rfl (hb hby at_25) rfl ?_
      show Steps p.tables e below (s₁.setTop (mkF m 26 #[.val (.int i1), .val (.int i2), .val (.long q1), .second, .val (.int i3), .val (.long ((i1 &&& (65535 : Int32)).toInt64)), .second, .val (.long ((i2 &&& (65535 : Int32)).toInt64)), .second, .unset, .unset, .unset, .unset, .unset, .unset, .unset, .unset, .unset, .unset] [(.long (q1 &&& (9223372036854775807 : Int64)))])) _
      refine XS.goto X0.here hx rfl (pc0 := 26) (pc' := 34) rfl (hb hby at_26) (by decide) (by decide) ?_
      simp only [if_neg hc2] at k
      exact k
  refine own_go seg1 ?_
  show ∃ t o, Steps p.tables e below (s₁.setTop (mkF m 34 #[.val (.int i1), .val (.int i2), .val (.long q1), .second, .val (.int i3), .val (.long ((i1 &&& (65535 : Int32)).toInt64)), .second, .val (.long ((i2 &&& (65535 : Int32)).toInt64)), .second, .unset, .unset, .unset, .unset, .unset, .unset, .unset, .unset, .unset, .unset] [(.long (if (i3 &&& (1 : Int32)) = (0 : Int32) then (q1 &&& (32767 : Int64)) else (q1 &&& (9223372036854775807 : Int64))))])) t ∧ _
  refine own_go (fun _ => XS.lstore X0.here hx rfl (hb hby at_34) rfl (l' := #[.val (.int i1), .val (.int i2), .val (.long q1), .second, .val (.int i3), .val (.long ((i1 &&& (65535 : Int32)).toInt64)), .second, .val (.long ((i2 &&& (65535 : Int32)).toInt64)), .second, .val (.long (if (i3 &&& (1 : Int32)) = (0 : Int32) then (q1 &&& (32767 : Int64)) else (q1 &&& (9223372036854775807 : Int64)))), .second, .unset, .unset, .unset, .unset, .unset, .unset, .unset, .unset]) rfl) ?_
  show ∃ t o, Steps p.tables e below (s₁.setTop (mkF m 36 #[.val (.int i1), .val (.int i2), .val (.long q1), .second, .val (.int i3), .val (.long ((i1 &&& (65535 : Int32)).toInt64)), .second, .val (.long ((i2 &&& (65535 : Int32)).toInt64)), .second, .val (.long (if (i3 &&& (1 : Int32)) = (0 : Int32) then (q1 &&& (32767 : Int64)) else (q1 &&& (9223372036854775807 : Int64)))), .second, .unset, .unset, .unset, .unset, .unset, .unset, .unset, .unset] [])) t ∧ _
  obtain ⟨aL, hL⟩ := own_lim i3 q1
  obtain ⟨LL, hLL⟩ : ∃ z, z = (if (i3 &&& (1 : Int32)) = (0 : Int32) then (q1 &&& (32767 : Int64)) else (q1 &&& (9223372036854775807 : Int64))) := ⟨_, rfl⟩
  rw [← hLL] at hL ⊢
  obtain ⟨a5, h5a, h5b⟩ := own_r16 i1
  obtain ⟨l5, hl5⟩ : ∃ z, z = ((i1 &&& (65535 : Int32)).toInt64) := ⟨_, rfl⟩
  rw [← hl5] at h5a ⊢
  obtain ⟨a7, h7a, h7b⟩ := own_r16 i2
  obtain ⟨l7, hl7⟩ : ∃ z, z = ((i2 &&& (65535 : Int32)).toInt64) := ⟨_, rfl⟩
  rw [← hl7] at h7a ⊢
  have mk : a5 * a7 ≤ 65535 * 65535 := Nat.mul_le_mul (by omega) (by omega)
  have hkr := own_mulL h5a h7a (own_p62 (by omega))
  have Hr := own_rows h7a (own_p40 (by omega))
  have Hc := own_rows hkr (own_p40 (by omega))
  have hh2 := own_half h7a h7b
  by_cases hcL : LL < ((l7 + (1 : Int64)) / (2 : Int64))
  · have hcI := hcL
    rw [Int64.lt_iff_toInt_lt, hL, hh2] at hcI
    have hab : 2 * aL < a7 := by omega
    have ma : a5 * aL ≤ 65535 * 65535 := Nat.mul_le_mul (by omega) (by omega)
    have hkL := own_mulL h5a hL (own_p62 (by omega))
    have He := hf_l2d hkL (own_p53 (by omega))
    show ∃ t o, Steps p.tables e below (s₁.setTop (mkF m 36 #[.val (.int i1), .val (.int i2), .val (.long q1), .second, .val (.int i3), .val (.long l5), .second, .val (.long l7), .second, .val (.long LL), .second, .unset, .unset, .unset, .unset, .unset, .unset, .unset, .unset] [])) t ∧ _
    refine own_go (fun _ => XS.lload X0.here hx rfl (hb hby at_36) rfl) ?_
    show ∃ t o, Steps p.tables e below (s₁.setTop (mkF m 38 #[.val (.int i1), .val (.int i2), .val (.long q1), .second, .val (.int i3), .val (.long l5), .second, .val (.long l7), .second, .val (.long LL), .second, .unset, .unset, .unset, .unset, .unset, .unset, .unset, .unset] [(.long l7)])) t ∧ _
    refine own_go (fun _ => XS.l2dS X0.here hx rfl (hb hby at_38) rfl rfl) ?_
    show ∃ t o, Steps p.tables e below (s₁.setTop (mkF m 39 #[.val (.int i1), .val (.int i2), .val (.long q1), .second, .val (.int i3), .val (.long l5), .second, .val (.long l7), .second, .val (.long LL), .second, .unset, .unset, .unset, .unset, .unset, .unset, .unset, .unset] [(.double (FP.l2d l7))])) t ∧ _
    refine own_go (fun _ => X0.ldc2DoubleC hx hown (mvT hZ (hw _ (List.mem_of_getElem? (i := 2) rfl))) (g := (mkF m 39 #[.val (.int i1), .val (.int i2), .val (.long q1), .second, .val (.int i3), .val (.long l5), .second, .val (.long l7), .second, .val (.long LL), .second, .unset, .unset, .unset, .unset, .unset, .unset, .unset, .unset] [(.double (FP.l2d l7))])) rfl (hb hby at_39) _) ?_
    show ∃ t o, Steps p.tables e below (s₁.setTop (mkF m 42 #[.val (.int i1), .val (.int i2), .val (.long q1), .second, .val (.int i3), .val (.long l5), .second, .val (.long l7), .second, .val (.long LL), .second, .unset, .unset, .unset, .unset, .unset, .unset, .unset, .unset] [(.double (4611686018427387904 : UInt64)), (.double (FP.l2d l7))])) t ∧ _
    refine own_go (fun _ => XS.ddivS X0.here hx rfl (hb hby at_42) rfl (own_no Hr) rfl) ?_
    show ∃ t o, Steps p.tables e below (s₁.setTop (mkF m 43 #[.val (.int i1), .val (.int i2), .val (.long q1), .second, .val (.int i3), .val (.long l5), .second, .val (.long l7), .second, .val (.long LL), .second, .unset, .unset, .unset, .unset, .unset, .unset, .unset, .unset] [(.double (FP.ddiv (FP.l2d l7) (4611686018427387904 : UInt64)))])) t ∧ _
    refine own_go (fun _ => XS.dstore X0.here hx rfl (hb hby at_43) rfl (l' := #[.val (.int i1), .val (.int i2), .val (.long q1), .second, .val (.int i3), .val (.long l5), .second, .val (.long l7), .second, .val (.long LL), .second, .val (.double (FP.ddiv (FP.l2d l7) (4611686018427387904 : UInt64))), .second, .unset, .unset, .unset, .unset, .unset, .unset]) rfl) ?_
    show ∃ t o, Steps p.tables e below (s₁.setTop (mkF m 45 #[.val (.int i1), .val (.int i2), .val (.long q1), .second, .val (.int i3), .val (.long l5), .second, .val (.long l7), .second, .val (.long LL), .second, .val (.double (FP.ddiv (FP.l2d l7) (4611686018427387904 : UInt64))), .second, .unset, .unset, .unset, .unset, .unset, .unset] [])) t ∧ _
    refine own_go (fun _ => XS.lload X0.here hx rfl (hb hby at_45) rfl) ?_
    show ∃ t o, Steps p.tables e below (s₁.setTop (mkF m 47 #[.val (.int i1), .val (.int i2), .val (.long q1), .second, .val (.int i3), .val (.long l5), .second, .val (.long l7), .second, .val (.long LL), .second, .val (.double (FP.ddiv (FP.l2d l7) (4611686018427387904 : UInt64))), .second, .unset, .unset, .unset, .unset, .unset, .unset] [(.long l5)])) t ∧ _
    refine own_go (fun _ => XS.lload X0.here hx rfl (hb hby at_47) rfl) ?_
    show ∃ t o, Steps p.tables e below (s₁.setTop (mkF m 49 #[.val (.int i1), .val (.int i2), .val (.long q1), .second, .val (.int i3), .val (.long l5), .second, .val (.long l7), .second, .val (.long LL), .second, .val (.double (FP.ddiv (FP.l2d l7) (4611686018427387904 : UInt64))), .second, .unset, .unset, .unset, .unset, .unset, .unset] [(.long l7), (.long l5)])) t ∧ _
    refine own_go (fun _ => XS.lmul X0.here hx rfl (hb hby at_49) rfl) ?_
    show ∃ t o, Steps p.tables e below (s₁.setTop (mkF m 50 #[.val (.int i1), .val (.int i2), .val (.long q1), .second, .val (.int i3), .val (.long l5), .second, .val (.long l7), .second, .val (.long LL), .second, .val (.double (FP.ddiv (FP.l2d l7) (4611686018427387904 : UInt64))), .second, .unset, .unset, .unset, .unset, .unset, .unset] [(.long (l5 * l7))])) t ∧ _
    refine own_go (fun _ => XS.l2dS X0.here hx rfl (hb hby at_50) rfl rfl) ?_
    show ∃ t o, Steps p.tables e below (s₁.setTop (mkF m 51 #[.val (.int i1), .val (.int i2), .val (.long q1), .second, .val (.int i3), .val (.long l5), .second, .val (.long l7), .second, .val (.long LL), .second, .val (.double (FP.ddiv (FP.l2d l7) (4611686018427387904 : UInt64))), .second, .unset, .unset, .unset, .unset, .unset, .unset] [(.double (FP.l2d (l5 * l7)))])) t ∧ _
    refine own_go (fun _ => X0.ldc2DoubleC hx hown (mvT hZ (hw _ (List.mem_of_getElem? (i := 2) rfl))) (g := (mkF m 51 #[.val (.int i1), .val (.int i2), .val (.long q1), .second, .val (.int i3), .val (.long l5), .second, .val (.long l7), .second, .val (.long LL), .second, .val (.double (FP.ddiv (FP.l2d l7) (4611686018427387904 : UInt64))), .second, .unset, .unset, .unset, .unset, .unset, .unset] [(.double (FP.l2d (l5 * l7)))])) rfl (hb hby at_51) _) ?_
    show ∃ t o, Steps p.tables e below (s₁.setTop (mkF m 54 #[.val (.int i1), .val (.int i2), .val (.long q1), .second, .val (.int i3), .val (.long l5), .second, .val (.long l7), .second, .val (.long LL), .second, .val (.double (FP.ddiv (FP.l2d l7) (4611686018427387904 : UInt64))), .second, .unset, .unset, .unset, .unset, .unset, .unset] [(.double (4611686018427387904 : UInt64)), (.double (FP.l2d (l5 * l7)))])) t ∧ _
    refine own_go (fun _ => XS.ddivS X0.here hx rfl (hb hby at_54) rfl (own_no Hc) rfl) ?_
    show ∃ t o, Steps p.tables e below (s₁.setTop (mkF m 55 #[.val (.int i1), .val (.int i2), .val (.long q1), .second, .val (.int i3), .val (.long l5), .second, .val (.long l7), .second, .val (.long LL), .second, .val (.double (FP.ddiv (FP.l2d l7) (4611686018427387904 : UInt64))), .second, .unset, .unset, .unset, .unset, .unset, .unset] [(.double (FP.ddiv (FP.l2d (l5 * l7)) (4611686018427387904 : UInt64)))])) t ∧ _
    refine own_go (fun _ => XS.dstore X0.here hx rfl (hb hby at_55) rfl (l' := #[.val (.int i1), .val (.int i2), .val (.long q1), .second, .val (.int i3), .val (.long l5), .second, .val (.long l7), .second, .val (.long LL), .second, .val (.double (FP.ddiv (FP.l2d l7) (4611686018427387904 : UInt64))), .second, .val (.double (FP.ddiv (FP.l2d (l5 * l7)) (4611686018427387904 : UInt64))), .second, .unset, .unset, .unset, .unset]) rfl) ?_
    show ∃ t o, Steps p.tables e below (s₁.setTop (mkF m 57 #[.val (.int i1), .val (.int i2), .val (.long q1), .second, .val (.int i3), .val (.long l5), .second, .val (.long l7), .second, .val (.long LL), .second, .val (.double (FP.ddiv (FP.l2d l7) (4611686018427387904 : UInt64))), .second, .val (.double (FP.ddiv (FP.l2d (l5 * l7)) (4611686018427387904 : UInt64))), .second, .unset, .unset, .unset, .unset] [])) t ∧ _
    refine own_go (fun _ => XS.dload X0.here hx rfl (hb hby at_57) rfl) ?_
    show ∃ t o, Steps p.tables e below (s₁.setTop (mkF m 59 #[.val (.int i1), .val (.int i2), .val (.long q1), .second, .val (.int i3), .val (.long l5), .second, .val (.long l7), .second, .val (.long LL), .second, .val (.double (FP.ddiv (FP.l2d l7) (4611686018427387904 : UInt64))), .second, .val (.double (FP.ddiv (FP.l2d (l5 * l7)) (4611686018427387904 : UInt64))), .second, .unset, .unset, .unset, .unset] [(.double (FP.ddiv (FP.l2d (l5 * l7)) (4611686018427387904 : UInt64)))])) t ∧ _
    refine own_go (fun _ => XS.dload X0.here hx rfl (hb hby at_59) rfl) ?_
    show ∃ t o, Steps p.tables e below (s₁.setTop (mkF m 61 #[.val (.int i1), .val (.int i2), .val (.long q1), .second, .val (.int i3), .val (.long l5), .second, .val (.long l7), .second, .val (.long LL), .second, .val (.double (FP.ddiv (FP.l2d l7) (4611686018427387904 : UInt64))), .second, .val (.double (FP.ddiv (FP.l2d (l5 * l7)) (4611686018427387904 : UInt64))), .second, .unset, .unset, .unset, .unset] [(.double (FP.ddiv (FP.l2d l7) (4611686018427387904 : UInt64))), (.double (FP.ddiv (FP.l2d (l5 * l7)) (4611686018427387904 : UInt64)))])) t ∧ _
    refine own_go (fun _ => XS.lload X0.here hx rfl (hb hby at_61) rfl) ?_
    show ∃ t o, Steps p.tables e below (s₁.setTop (mkF m 63 #[.val (.int i1), .val (.int i2), .val (.long q1), .second, .val (.int i3), .val (.long l5), .second, .val (.long l7), .second, .val (.long LL), .second, .val (.double (FP.ddiv (FP.l2d l7) (4611686018427387904 : UInt64))), .second, .val (.double (FP.ddiv (FP.l2d (l5 * l7)) (4611686018427387904 : UInt64))), .second, .unset, .unset, .unset, .unset] [(.long LL), (.double (FP.ddiv (FP.l2d l7) (4611686018427387904 : UInt64))), (.double (FP.ddiv (FP.l2d (l5 * l7)) (4611686018427387904 : UInt64)))])) t ∧ _
    obtain ⟨_, _, ⟨T3, L3, k3, n3⟩, -, X3, ⟨Lc3, hQ3, l3, y3, z3⟩, st3⟩ := Jvm.LawKit.callS X0 hx (y := (⟨"com/example/planwright/planwright/planner/CostModel", "stopAfter", "(DDJ)D"⟩ : MethodName)) hown (mvT hZ (hw _ (List.mem_of_getElem? (i := 3) rfl))) (mvT hZ (hw _ (List.mem_of_getElem? (i := 4) rfl))) (mvT hZ (hw _ (List.mem_of_getElem? (i := 5) rfl))) (mvT hZ (hw _ (List.mem_of_getElem? (i := 6) rfl))) (by decide) (backOf (W := 0) (rmSB l Z a0 hw [] ((FP.ddiv (FP.l2d (l5 * l7)) (4611686018427387904 : UInt64))) ((FP.ddiv (FP.l2d l7) (4611686018427387904 : UInt64))) LL h0 n0 Z0 OLD (own_gt Hr hL (by omega) hab : (cmpValue (FP.dcmp (FP.ddiv (FP.l2d l7) (4611686018427387904 : UInt64)) (FP.l2d LL)) .g) = (1 : Int32)) (own_no (own_mid Hc Hr hL h5b h7b hab) : Jvm.Free.Fl.NoNaN64 (FP.dmul (FP.ddiv (FP.l2d (l5 * l7)) (4611686018427387904 : UInt64)) (FP.l2d LL))) (own_no (own_got Hc Hr hL h5b h7b hab) : Jvm.Free.Fl.NoNaN64 (FP.ddiv (FP.dmul (FP.ddiv (FP.l2d (l5 * l7)) (4611686018427387904 : UInt64)) (FP.l2d LL)) (FP.ddiv (FP.l2d l7) (4611686018427387904 : UInt64))))) hZ (hw _ (List.mem_of_getElem? (i := 6) rfl)) (hw _ (List.mem_of_getElem? (i := 5) rfl)) (by decide) (by decide)) (g := (mkF m 63 #[.val (.int i1), .val (.int i2), .val (.long q1), .second, .val (.int i3), .val (.long l5), .second, .val (.long l7), .second, .val (.long LL), .second, .val (.double (FP.ddiv (FP.l2d l7) (4611686018427387904 : UInt64))), .second, .val (.double (FP.ddiv (FP.l2d (l5 * l7)) (4611686018427387904 : UInt64))), .second, .unset, .unset, .unset, .unset] [(.long LL), (.double (FP.ddiv (FP.l2d l7) (4611686018427387904 : UInt64))), (.double (FP.ddiv (FP.l2d (l5 * l7)) (4611686018427387904 : UInt64)))])) rfl (by rw [hml]; rfl) (argsL := [(.double (FP.ddiv (FP.l2d (l5 * l7)) (4611686018427387904 : UInt64))), (.double (FP.ddiv (FP.l2d l7) (4611686018427387904 : UInt64))), (.long LL)]) (rest := []) (lenOf pd__28DDJ_29D rfl) rfl (by show 2 * 0 + _ ≤ _; exact Nat.le_of_eq rfl) (hb hby at_63) (fun _ _ => ⟨rfl, e0, (by decide : 0 + 0 ≤ _), (by decide : 0 + 0 ≤ _)⟩)
    dsimp only [Pt.U, Pt.locs, Pt.cells, Pt.slots] at X3 l3 y3 z3 st3 hQ3
    subst l3 y3 z3
    obtain ⟨rfl, Nq3, e3⟩ := hQ3
    have N3 := Fr.app N0 Nq3
    refine own_go st3 ?_
    show ∃ t o, Steps p.tables e below (T3.setTop (mkF m 66 #[.val (.int i1), .val (.int i2), .val (.long q1), .second, .val (.int i3), .val (.long l5), .second, .val (.long l7), .second, .val (.long LL), .second, .val (.double (FP.ddiv (FP.l2d l7) (4611686018427387904 : UInt64))), .second, .val (.double (FP.ddiv (FP.l2d (l5 * l7)) (4611686018427387904 : UInt64))), .second, .unset, .unset, .unset, .unset] [(.double (FP.ddiv (FP.dmul (FP.ddiv (FP.l2d (l5 * l7)) (4611686018427387904 : UInt64)) (FP.l2d LL)) (FP.ddiv (FP.l2d l7) (4611686018427387904 : UInt64))))])) t ∧ _
    refine own_go (fun _ => XS.dstore X3.here hx rfl (hb hby at_66) rfl (l' := #[.val (.int i1), .val (.int i2), .val (.long q1), .second, .val (.int i3), .val (.long l5), .second, .val (.long l7), .second, .val (.long LL), .second, .val (.double (FP.ddiv (FP.l2d l7) (4611686018427387904 : UInt64))), .second, .val (.double (FP.ddiv (FP.l2d (l5 * l7)) (4611686018427387904 : UInt64))), .second, .val (.double (FP.ddiv (FP.dmul (FP.ddiv (FP.l2d (l5 * l7)) (4611686018427387904 : UInt64)) (FP.l2d LL)) (FP.ddiv (FP.l2d l7) (4611686018427387904 : UInt64)))), .second, .unset, .unset]) rfl) ?_
    show ∃ t o, Steps p.tables e below (T3.setTop (mkF m 68 #[.val (.int i1), .val (.int i2), .val (.long q1), .second, .val (.int i3), .val (.long l5), .second, .val (.long l7), .second, .val (.long LL), .second, .val (.double (FP.ddiv (FP.l2d l7) (4611686018427387904 : UInt64))), .second, .val (.double (FP.ddiv (FP.l2d (l5 * l7)) (4611686018427387904 : UInt64))), .second, .val (.double (FP.ddiv (FP.dmul (FP.ddiv (FP.l2d (l5 * l7)) (4611686018427387904 : UInt64)) (FP.l2d LL)) (FP.ddiv (FP.l2d l7) (4611686018427387904 : UInt64)))), .second, .unset, .unset] [])) t ∧ _
    refine own_go (fun _ => XS.lload X3.here hx rfl (hb hby at_68) rfl) ?_
    show ∃ t o, Steps p.tables e below (T3.setTop (mkF m 70 #[.val (.int i1), .val (.int i2), .val (.long q1), .second, .val (.int i3), .val (.long l5), .second, .val (.long l7), .second, .val (.long LL), .second, .val (.double (FP.ddiv (FP.l2d l7) (4611686018427387904 : UInt64))), .second, .val (.double (FP.ddiv (FP.l2d (l5 * l7)) (4611686018427387904 : UInt64))), .second, .val (.double (FP.ddiv (FP.dmul (FP.ddiv (FP.l2d (l5 * l7)) (4611686018427387904 : UInt64)) (FP.l2d LL)) (FP.ddiv (FP.l2d l7) (4611686018427387904 : UInt64)))), .second, .unset, .unset] [(.long LL)])) t ∧ _
    refine own_go (fun _ => XS.lload X3.here hx rfl (hb hby at_70) rfl) ?_
    show ∃ t o, Steps p.tables e below (T3.setTop (mkF m 72 #[.val (.int i1), .val (.int i2), .val (.long q1), .second, .val (.int i3), .val (.long l5), .second, .val (.long l7), .second, .val (.long LL), .second, .val (.double (FP.ddiv (FP.l2d l7) (4611686018427387904 : UInt64))), .second, .val (.double (FP.ddiv (FP.l2d (l5 * l7)) (4611686018427387904 : UInt64))), .second, .val (.double (FP.ddiv (FP.dmul (FP.ddiv (FP.l2d (l5 * l7)) (4611686018427387904 : UInt64)) (FP.l2d LL)) (FP.ddiv (FP.l2d l7) (4611686018427387904 : UInt64)))), .second, .unset, .unset] [(.long l7), (.long LL)])) t ∧ _
    refine own_go (fun _ => XS.lconst X3.here hx rfl (hb hby at_72)) ?_
    show ∃ t o, Steps p.tables e below (T3.setTop (mkF m 73 #[.val (.int i1), .val (.int i2), .val (.long q1), .second, .val (.int i3), .val (.long l5), .second, .val (.long l7), .second, .val (.long LL), .second, .val (.double (FP.ddiv (FP.l2d l7) (4611686018427387904 : UInt64))), .second, .val (.double (FP.ddiv (FP.l2d (l5 * l7)) (4611686018427387904 : UInt64))), .second, .val (.double (FP.ddiv (FP.dmul (FP.ddiv (FP.l2d (l5 * l7)) (4611686018427387904 : UInt64)) (FP.l2d LL)) (FP.ddiv (FP.l2d l7) (4611686018427387904 : UInt64)))), .second, .unset, .unset] [(.long (1 : Int64)), (.long l7), (.long LL)])) t ∧ _
    refine own_go (fun _ => XS.ladd X3.here hx rfl (hb hby at_73) rfl) ?_
    show ∃ t o, Steps p.tables e below (T3.setTop (mkF m 74 #[.val (.int i1), .val (.int i2), .val (.long q1), .second, .val (.int i3), .val (.long l5), .second, .val (.long l7), .second, .val (.long LL), .second, .val (.double (FP.ddiv (FP.l2d l7) (4611686018427387904 : UInt64))), .second, .val (.double (FP.ddiv (FP.l2d (l5 * l7)) (4611686018427387904 : UInt64))), .second, .val (.double (FP.ddiv (FP.dmul (FP.ddiv (FP.l2d (l5 * l7)) (4611686018427387904 : UInt64)) (FP.l2d LL)) (FP.ddiv (FP.l2d l7) (4611686018427387904 : UInt64)))), .second, .unset, .unset] [(.long (l7 + (1 : Int64))), (.long LL)])) t ∧ _
    refine own_go (fun _ => X3.ldc2Long hx hown (mvT hZ (hw _ (List.mem_of_getElem? (i := 7) rfl))) (g := (mkF m 74 #[.val (.int i1), .val (.int i2), .val (.long q1), .second, .val (.int i3), .val (.long l5), .second, .val (.long l7), .second, .val (.long LL), .second, .val (.double (FP.ddiv (FP.l2d l7) (4611686018427387904 : UInt64))), .second, .val (.double (FP.ddiv (FP.l2d (l5 * l7)) (4611686018427387904 : UInt64))), .second, .val (.double (FP.ddiv (FP.dmul (FP.ddiv (FP.l2d (l5 * l7)) (4611686018427387904 : UInt64)) (FP.l2d LL)) (FP.ddiv (FP.l2d l7) (4611686018427387904 : UInt64)))), .second, .unset, .unset] [(.long (l7 + (1 : Int64))), (.long LL)])) rfl (hb hby at_74) _) ?_
    show ∃ t o, Steps p.tables e below (T3.setTop (mkF m 77 #[.val (.int i1), .val (.int i2), .val (.long q1), .second, .val (.int i3), .val (.long l5), .second, .val (.long l7), .second, .val (.long LL), .second, .val (.double (FP.ddiv (FP.l2d l7) (4611686018427387904 : UInt64))), .second, .val (.double (FP.ddiv (FP.l2d (l5 * l7)) (4611686018427387904 : UInt64))), .second, .val (.double (FP.ddiv (FP.dmul (FP.ddiv (FP.l2d (l5 * l7)) (4611686018427387904 : UInt64)) (FP.l2d LL)) (FP.ddiv (FP.l2d l7) (4611686018427387904 : UInt64)))), .second, .unset, .unset] [(.long (2 : Int64)), (.long (l7 + (1 : Int64))), (.long LL)])) t ∧ _
    refine own_go (fun _ => XS.ldiv X3.here hx rfl (hb hby at_77) rfl (by decide)) ?_
    show ∃ t o, Steps p.tables e below (T3.setTop (mkF m 78 #[.val (.int i1), .val (.int i2), .val (.long q1), .second, .val (.int i3), .val (.long l5), .second, .val (.long l7), .second, .val (.long LL), .second, .val (.double (FP.ddiv (FP.l2d l7) (4611686018427387904 : UInt64))), .second, .val (.double (FP.ddiv (FP.l2d (l5 * l7)) (4611686018427387904 : UInt64))), .second, .val (.double (FP.ddiv (FP.dmul (FP.ddiv (FP.l2d (l5 * l7)) (4611686018427387904 : UInt64)) (FP.l2d LL)) (FP.ddiv (FP.l2d l7) (4611686018427387904 : UInt64)))), .second, .unset, .unset] [(.long ((l7 + (1 : Int64)) / (2 : Int64))), (.long LL)])) t ∧ _
    refine own_go (fun _ => XS.lcmp X3.here hx rfl (hb hby at_78) rfl) ?_
    show ∃ t o, Steps p.tables e below (T3.setTop (mkF m 79 #[.val (.int i1), .val (.int i2), .val (.long q1), .second, .val (.int i3), .val (.long l5), .second, .val (.long l7), .second, .val (.long LL), .second, .val (.double (FP.ddiv (FP.l2d l7) (4611686018427387904 : UInt64))), .second, .val (.double (FP.ddiv (FP.l2d (l5 * l7)) (4611686018427387904 : UInt64))), .second, .val (.double (FP.ddiv (FP.dmul (FP.ddiv (FP.l2d (l5 * l7)) (4611686018427387904 : UInt64)) (FP.l2d LL)) (FP.ddiv (FP.l2d l7) (4611686018427387904 : UInt64)))), .second, .unset, .unset] [(.int (lcmpW LL ((l7 + (1 : Int64)) / (2 : Int64))))])) t ∧ _
    refine own_go (fun _ => XS.ifYes X3.here hx rfl (pc0 := 79) (pc' := 89) rfl (hb hby at_79) rfl ((if0 _ _).trans (tlt ((lw_lt _ _).mpr hcL)).1) (by decide) (by decide)) ?_
    show ∃ t o, Steps p.tables e below (T3.setTop (mkF m 89 #[.val (.int i1), .val (.int i2), .val (.long q1), .second, .val (.int i3), .val (.long l5), .second, .val (.long l7), .second, .val (.long LL), .second, .val (.double (FP.ddiv (FP.l2d l7) (4611686018427387904 : UInt64))), .second, .val (.double (FP.ddiv (FP.l2d (l5 * l7)) (4611686018427387904 : UInt64))), .second, .val (.double (FP.ddiv (FP.dmul (FP.ddiv (FP.l2d (l5 * l7)) (4611686018427387904 : UInt64)) (FP.l2d LL)) (FP.ddiv (FP.l2d l7) (4611686018427387904 : UInt64)))), .second, .unset, .unset] [])) t ∧ _
    refine own_go (fun _ => XS.lload X3.here hx rfl (hb hby at_89) rfl) ?_
    show ∃ t o, Steps p.tables e below (T3.setTop (mkF m 91 #[.val (.int i1), .val (.int i2), .val (.long q1), .second, .val (.int i3), .val (.long l5), .second, .val (.long l7), .second, .val (.long LL), .second, .val (.double (FP.ddiv (FP.l2d l7) (4611686018427387904 : UInt64))), .second, .val (.double (FP.ddiv (FP.l2d (l5 * l7)) (4611686018427387904 : UInt64))), .second, .val (.double (FP.ddiv (FP.dmul (FP.ddiv (FP.l2d (l5 * l7)) (4611686018427387904 : UInt64)) (FP.l2d LL)) (FP.ddiv (FP.l2d l7) (4611686018427387904 : UInt64)))), .second, .unset, .unset] [(.long l5)])) t ∧ _
    refine own_go (fun _ => XS.lload X3.here hx rfl (hb hby at_91) rfl) ?_
    show ∃ t o, Steps p.tables e below (T3.setTop (mkF m 93 #[.val (.int i1), .val (.int i2), .val (.long q1), .second, .val (.int i3), .val (.long l5), .second, .val (.long l7), .second, .val (.long LL), .second, .val (.double (FP.ddiv (FP.l2d l7) (4611686018427387904 : UInt64))), .second, .val (.double (FP.ddiv (FP.l2d (l5 * l7)) (4611686018427387904 : UInt64))), .second, .val (.double (FP.ddiv (FP.dmul (FP.ddiv (FP.l2d (l5 * l7)) (4611686018427387904 : UInt64)) (FP.l2d LL)) (FP.ddiv (FP.l2d l7) (4611686018427387904 : UInt64)))), .second, .unset, .unset] [(.long LL), (.long l5)])) t ∧ _
    refine own_go (fun _ => XS.lmul X3.here hx rfl (hb hby at_93) rfl) ?_
    show ∃ t o, Steps p.tables e below (T3.setTop (mkF m 94 #[.val (.int i1), .val (.int i2), .val (.long q1), .second, .val (.int i3), .val (.long l5), .second, .val (.long l7), .second, .val (.long LL), .second, .val (.double (FP.ddiv (FP.l2d l7) (4611686018427387904 : UInt64))), .second, .val (.double (FP.ddiv (FP.l2d (l5 * l7)) (4611686018427387904 : UInt64))), .second, .val (.double (FP.ddiv (FP.dmul (FP.ddiv (FP.l2d (l5 * l7)) (4611686018427387904 : UInt64)) (FP.l2d LL)) (FP.ddiv (FP.l2d l7) (4611686018427387904 : UInt64)))), .second, .unset, .unset] [(.long (l5 * LL))])) t ∧ _
    refine own_go (fun _ => XS.l2dS X3.here hx rfl (hb hby at_94) rfl rfl) ?_
    show ∃ t o, Steps p.tables e below (T3.setTop (mkF m 95 #[.val (.int i1), .val (.int i2), .val (.long q1), .second, .val (.int i3), .val (.long l5), .second, .val (.long l7), .second, .val (.long LL), .second, .val (.double (FP.ddiv (FP.l2d l7) (4611686018427387904 : UInt64))), .second, .val (.double (FP.ddiv (FP.l2d (l5 * l7)) (4611686018427387904 : UInt64))), .second, .val (.double (FP.ddiv (FP.dmul (FP.ddiv (FP.l2d (l5 * l7)) (4611686018427387904 : UInt64)) (FP.l2d LL)) (FP.ddiv (FP.l2d l7) (4611686018427387904 : UInt64)))), .second, .unset, .unset] [(.double (FP.l2d (l5 * LL)))])) t ∧ _
    refine own_go (fun _ => XS.dstore X3.here hx rfl (hb hby at_95) rfl (l' := #[.val (.int i1), .val (.int i2), .val (.long q1), .second, .val (.int i3), .val (.long l5), .second, .val (.long l7), .second, .val (.long LL), .second, .val (.double (FP.ddiv (FP.l2d l7) (4611686018427387904 : UInt64))), .second, .val (.double (FP.ddiv (FP.l2d (l5 * l7)) (4611686018427387904 : UInt64))), .second, .val (.double (FP.ddiv (FP.dmul (FP.ddiv (FP.l2d (l5 * l7)) (4611686018427387904 : UInt64)) (FP.l2d LL)) (FP.ddiv (FP.l2d l7) (4611686018427387904 : UInt64)))), .second, .val (.double (FP.l2d (l5 * LL))), .second]) rfl) ?_
    show ∃ t o, Steps p.tables e below (T3.setTop (mkF m 97 #[.val (.int i1), .val (.int i2), .val (.long q1), .second, .val (.int i3), .val (.long l5), .second, .val (.long l7), .second, .val (.long LL), .second, .val (.double (FP.ddiv (FP.l2d l7) (4611686018427387904 : UInt64))), .second, .val (.double (FP.ddiv (FP.l2d (l5 * l7)) (4611686018427387904 : UInt64))), .second, .val (.double (FP.ddiv (FP.dmul (FP.ddiv (FP.l2d (l5 * l7)) (4611686018427387904 : UInt64)) (FP.l2d LL)) (FP.ddiv (FP.l2d l7) (4611686018427387904 : UInt64)))), .second, .val (.double (FP.l2d (l5 * LL))), .second] [])) t ∧ _
    refine own_go (fun _ => XS.dload X3.here hx rfl (hb hby at_97) rfl) ?_
    show ∃ t o, Steps p.tables e below (T3.setTop (mkF m 99 #[.val (.int i1), .val (.int i2), .val (.long q1), .second, .val (.int i3), .val (.long l5), .second, .val (.long l7), .second, .val (.long LL), .second, .val (.double (FP.ddiv (FP.l2d l7) (4611686018427387904 : UInt64))), .second, .val (.double (FP.ddiv (FP.l2d (l5 * l7)) (4611686018427387904 : UInt64))), .second, .val (.double (FP.ddiv (FP.dmul (FP.ddiv (FP.l2d (l5 * l7)) (4611686018427387904 : UInt64)) (FP.l2d LL)) (FP.ddiv (FP.l2d l7) (4611686018427387904 : UInt64)))), .second, .val (.double (FP.l2d (l5 * LL))), .second] [(.double (FP.ddiv (FP.dmul (FP.ddiv (FP.l2d (l5 * l7)) (4611686018427387904 : UInt64)) (FP.l2d LL)) (FP.ddiv (FP.l2d l7) (4611686018427387904 : UInt64))))])) t ∧ _
    refine own_go (fun _ => XS.dload X3.here hx rfl (hb hby at_99) rfl) ?_
    show ∃ t o, Steps p.tables e below (T3.setTop (mkF m 101 #[.val (.int i1), .val (.int i2), .val (.long q1), .second, .val (.int i3), .val (.long l5), .second, .val (.long l7), .second, .val (.long LL), .second, .val (.double (FP.ddiv (FP.l2d l7) (4611686018427387904 : UInt64))), .second, .val (.double (FP.ddiv (FP.l2d (l5 * l7)) (4611686018427387904 : UInt64))), .second, .val (.double (FP.ddiv (FP.dmul (FP.ddiv (FP.l2d (l5 * l7)) (4611686018427387904 : UInt64)) (FP.l2d LL)) (FP.ddiv (FP.l2d l7) (4611686018427387904 : UInt64)))), .second, .val (.double (FP.l2d (l5 * LL))), .second] [(.double (FP.l2d (l5 * LL))), (.double (FP.ddiv (FP.dmul (FP.ddiv (FP.l2d (l5 * l7)) (4611686018427387904 : UInt64)) (FP.l2d LL)) (FP.ddiv (FP.l2d l7) (4611686018427387904 : UInt64))))])) t ∧ _
    refine own_go (fun _ => XS.dcmpS X3.here hx rfl (hb hby at_101) rfl (v := (0 : Int32)) (own_same (own_got Hc Hr hL h5b h7b hab) He)) ?_
    show ∃ t o, Steps p.tables e below (T3.setTop (mkF m 102 #[.val (.int i1), .val (.int i2), .val (.long q1), .second, .val (.int i3), .val (.long l5), .second, .val (.long l7), .second, .val (.long LL), .second, .val (.double (FP.ddiv (FP.l2d l7) (4611686018427387904 : UInt64))), .second, .val (.double (FP.ddiv (FP.l2d (l5 * l7)) (4611686018427387904 : UInt64))), .second, .val (.double (FP.ddiv (FP.dmul (FP.ddiv (FP.l2d (l5 * l7)) (4611686018427387904 : UInt64)) (FP.l2d LL)) (FP.ddiv (FP.l2d l7) (4611686018427387904 : UInt64)))), .second, .val (.double (FP.l2d (l5 * LL))), .second] [(.int (0 : Int32))])) t ∧ _
    refine own_go (fun _ => XS.ifNo X3.here hx rfl (hb hby at_102) rfl ((if0 _ _).trans (teq (by decide : (0 : Int32) = (0 : Int32))).2)) ?_
    show ∃ t o, Steps p.tables e below (T3.setTop (mkF m 105 #[.val (.int i1), .val (.int i2), .val (.long q1), .second, .val (.int i3), .val (.long l5), .second, .val (.long l7), .second, .val (.long LL), .second, .val (.double (FP.ddiv (FP.l2d l7) (4611686018427387904 : UInt64))), .second, .val (.double (FP.ddiv (FP.l2d (l5 * l7)) (4611686018427387904 : UInt64))), .second, .val (.double (FP.ddiv (FP.dmul (FP.ddiv (FP.l2d (l5 * l7)) (4611686018427387904 : UInt64)) (FP.l2d LL)) (FP.ddiv (FP.l2d l7) (4611686018427387904 : UInt64)))), .second, .val (.double (FP.l2d (l5 * LL))), .second] [])) t ∧ _
    refine own_go (fun _ => XS.iconst X3.here hx rfl (hb hby at_105)) ?_
    show ∃ t o, Steps p.tables e below (T3.setTop (mkF m 106 #[.val (.int i1), .val (.int i2), .val (.long q1), .second, .val (.int i3), .val (.long l5), .second, .val (.long l7), .second, .val (.long LL), .second, .val (.double (FP.ddiv (FP.l2d l7) (4611686018427387904 : UInt64))), .second, .val (.double (FP.ddiv (FP.l2d (l5 * l7)) (4611686018427387904 : UInt64))), .second, .val (.double (FP.ddiv (FP.dmul (FP.ddiv (FP.l2d (l5 * l7)) (4611686018427387904 : UInt64)) (FP.l2d LL)) (FP.ddiv (FP.l2d l7) (4611686018427387904 : UInt64)))), .second, .val (.double (FP.l2d (l5 * LL))), .second] [(.int (1 : Int32))])) t ∧ _
    refine own_go (fun _ => XS.goto X3.here hx rfl (pc0 := 106) (pc' := 110) rfl (hb hby at_106) (by decide) (by decide)) ?_
    show ∃ t o, Steps p.tables e below (T3.setTop (mkF m 110 #[.val (.int i1), .val (.int i2), .val (.long q1), .second, .val (.int i3), .val (.long l5), .second, .val (.long l7), .second, .val (.long LL), .second, .val (.double (FP.ddiv (FP.l2d l7) (4611686018427387904 : UInt64))), .second, .val (.double (FP.ddiv (FP.l2d (l5 * l7)) (4611686018427387904 : UInt64))), .second, .val (.double (FP.ddiv (FP.dmul (FP.ddiv (FP.l2d (l5 * l7)) (4611686018427387904 : UInt64)) (FP.l2d LL)) (FP.ddiv (FP.l2d l7) (4611686018427387904 : UInt64)))), .second, .val (.double (FP.l2d (l5 * LL))), .second] [(.int (1 : Int32))])) t ∧ _
    obtain ⟨fs, hr, hrun, hended, hW, hsame⟩ := X3.leave (v := some (.int (1 : Int32))) (fun h => by rw [Bd.returns] at h; cases h)
    refine ⟨_, _, ?_, hrun, hended, _, _, rfl, ?_, ⟨_, rfl⟩, hW, hsame.mono (by decide) (by decide)⟩
    · exact retN X3 hx (t := .boolean) Bd.returns (by simp) (hb hby at_110) hr
    · show Q_rm0 Z _ _ _ _ h0 n0 _ T3.heap _
      rw [e3]
      exact ⟨rfl, N3, (Keep.refl h0 [])⟩
  · have hcI := hcL
    rw [Int64.lt_iff_toInt_lt, hL, hh2] at hcI
    have hab : a7 ≤ 2 * aL := by omega
    show ∃ t o, Steps p.tables e below (s₁.setTop (mkF m 36 #[.val (.int i1), .val (.int i2), .val (.long q1), .second, .val (.int i3), .val (.long l5), .second, .val (.long l7), .second, .val (.long LL), .second, .unset, .unset, .unset, .unset, .unset, .unset, .unset, .unset] [])) t ∧ _
    refine own_go (fun _ => XS.lload X0.here hx rfl (hb hby at_36) rfl) ?_
    show ∃ t o, Steps p.tables e below (s₁.setTop (mkF m 38 #[.val (.int i1), .val (.int i2), .val (.long q1), .second, .val (.int i3), .val (.long l5), .second, .val (.long l7), .second, .val (.long LL), .second, .unset, .unset, .unset, .unset, .unset, .unset, .unset, .unset] [(.long l7)])) t ∧ _
    refine own_go (fun _ => XS.l2dS X0.here hx rfl (hb hby at_38) rfl rfl) ?_
    show ∃ t o, Steps p.tables e below (s₁.setTop (mkF m 39 #[.val (.int i1), .val (.int i2), .val (.long q1), .second, .val (.int i3), .val (.long l5), .second, .val (.long l7), .second, .val (.long LL), .second, .unset, .unset, .unset, .unset, .unset, .unset, .unset, .unset] [(.double (FP.l2d l7))])) t ∧ _
    refine own_go (fun _ => X0.ldc2DoubleC hx hown (mvT hZ (hw _ (List.mem_of_getElem? (i := 2) rfl))) (g := (mkF m 39 #[.val (.int i1), .val (.int i2), .val (.long q1), .second, .val (.int i3), .val (.long l5), .second, .val (.long l7), .second, .val (.long LL), .second, .unset, .unset, .unset, .unset, .unset, .unset, .unset, .unset] [(.double (FP.l2d l7))])) rfl (hb hby at_39) _) ?_
    show ∃ t o, Steps p.tables e below (s₁.setTop (mkF m 42 #[.val (.int i1), .val (.int i2), .val (.long q1), .second, .val (.int i3), .val (.long l5), .second, .val (.long l7), .second, .val (.long LL), .second, .unset, .unset, .unset, .unset, .unset, .unset, .unset, .unset] [(.double (4611686018427387904 : UInt64)), (.double (FP.l2d l7))])) t ∧ _
    refine own_go (fun _ => XS.ddivS X0.here hx rfl (hb hby at_42) rfl (own_no Hr) rfl) ?_
    show ∃ t o, Steps p.tables e below (s₁.setTop (mkF m 43 #[.val (.int i1), .val (.int i2), .val (.long q1), .second, .val (.int i3), .val (.long l5), .second, .val (.long l7), .second, .val (.long LL), .second, .unset, .unset, .unset, .unset, .unset, .unset, .unset, .unset] [(.double (FP.ddiv (FP.l2d l7) (4611686018427387904 : UInt64)))])) t ∧ _
    refine own_go (fun _ => XS.dstore X0.here hx rfl (hb hby at_43) rfl (l' := #[.val (.int i1), .val (.int i2), .val (.long q1), .second, .val (.int i3), .val (.long l5), .second, .val (.long l7), .second, .val (.long LL), .second, .val (.double (FP.ddiv (FP.l2d l7) (4611686018427387904 : UInt64))), .second, .unset, .unset, .unset, .unset, .unset, .unset]) rfl) ?_
    show ∃ t o, Steps p.tables e below (s₁.setTop (mkF m 45 #[.val (.int i1), .val (.int i2), .val (.long q1), .second, .val (.int i3), .val (.long l5), .second, .val (.long l7), .second, .val (.long LL), .second, .val (.double (FP.ddiv (FP.l2d l7) (4611686018427387904 : UInt64))), .second, .unset, .unset, .unset, .unset, .unset, .unset] [])) t ∧ _
    refine own_go (fun _ => XS.lload X0.here hx rfl (hb hby at_45) rfl) ?_
    show ∃ t o, Steps p.tables e below (s₁.setTop (mkF m 47 #[.val (.int i1), .val (.int i2), .val (.long q1), .second, .val (.int i3), .val (.long l5), .second, .val (.long l7), .second, .val (.long LL), .second, .val (.double (FP.ddiv (FP.l2d l7) (4611686018427387904 : UInt64))), .second, .unset, .unset, .unset, .unset, .unset, .unset] [(.long l5)])) t ∧ _
    refine own_go (fun _ => XS.lload X0.here hx rfl (hb hby at_47) rfl) ?_
    show ∃ t o, Steps p.tables e below (s₁.setTop (mkF m 49 #[.val (.int i1), .val (.int i2), .val (.long q1), .second, .val (.int i3), .val (.long l5), .second, .val (.long l7), .second, .val (.long LL), .second, .val (.double (FP.ddiv (FP.l2d l7) (4611686018427387904 : UInt64))), .second, .unset, .unset, .unset, .unset, .unset, .unset] [(.long l7), (.long l5)])) t ∧ _
    refine own_go (fun _ => XS.lmul X0.here hx rfl (hb hby at_49) rfl) ?_
    show ∃ t o, Steps p.tables e below (s₁.setTop (mkF m 50 #[.val (.int i1), .val (.int i2), .val (.long q1), .second, .val (.int i3), .val (.long l5), .second, .val (.long l7), .second, .val (.long LL), .second, .val (.double (FP.ddiv (FP.l2d l7) (4611686018427387904 : UInt64))), .second, .unset, .unset, .unset, .unset, .unset, .unset] [(.long (l5 * l7))])) t ∧ _
    refine own_go (fun _ => XS.l2dS X0.here hx rfl (hb hby at_50) rfl rfl) ?_
    show ∃ t o, Steps p.tables e below (s₁.setTop (mkF m 51 #[.val (.int i1), .val (.int i2), .val (.long q1), .second, .val (.int i3), .val (.long l5), .second, .val (.long l7), .second, .val (.long LL), .second, .val (.double (FP.ddiv (FP.l2d l7) (4611686018427387904 : UInt64))), .second, .unset, .unset, .unset, .unset, .unset, .unset] [(.double (FP.l2d (l5 * l7)))])) t ∧ _
    refine own_go (fun _ => X0.ldc2DoubleC hx hown (mvT hZ (hw _ (List.mem_of_getElem? (i := 2) rfl))) (g := (mkF m 51 #[.val (.int i1), .val (.int i2), .val (.long q1), .second, .val (.int i3), .val (.long l5), .second, .val (.long l7), .second, .val (.long LL), .second, .val (.double (FP.ddiv (FP.l2d l7) (4611686018427387904 : UInt64))), .second, .unset, .unset, .unset, .unset, .unset, .unset] [(.double (FP.l2d (l5 * l7)))])) rfl (hb hby at_51) _) ?_
    show ∃ t o, Steps p.tables e below (s₁.setTop (mkF m 54 #[.val (.int i1), .val (.int i2), .val (.long q1), .second, .val (.int i3), .val (.long l5), .second, .val (.long l7), .second, .val (.long LL), .second, .val (.double (FP.ddiv (FP.l2d l7) (4611686018427387904 : UInt64))), .second, .unset, .unset, .unset, .unset, .unset, .unset] [(.double (4611686018427387904 : UInt64)), (.double (FP.l2d (l5 * l7)))])) t ∧ _
    refine own_go (fun _ => XS.ddivS X0.here hx rfl (hb hby at_54) rfl (own_no Hc) rfl) ?_
    show ∃ t o, Steps p.tables e below (s₁.setTop (mkF m 55 #[.val (.int i1), .val (.int i2), .val (.long q1), .second, .val (.int i3), .val (.long l5), .second, .val (.long l7), .second, .val (.long LL), .second, .val (.double (FP.ddiv (FP.l2d l7) (4611686018427387904 : UInt64))), .second, .unset, .unset, .unset, .unset, .unset, .unset] [(.double (FP.ddiv (FP.l2d (l5 * l7)) (4611686018427387904 : UInt64)))])) t ∧ _
    refine own_go (fun _ => XS.dstore X0.here hx rfl (hb hby at_55) rfl (l' := #[.val (.int i1), .val (.int i2), .val (.long q1), .second, .val (.int i3), .val (.long l5), .second, .val (.long l7), .second, .val (.long LL), .second, .val (.double (FP.ddiv (FP.l2d l7) (4611686018427387904 : UInt64))), .second, .val (.double (FP.ddiv (FP.l2d (l5 * l7)) (4611686018427387904 : UInt64))), .second, .unset, .unset, .unset, .unset]) rfl) ?_
    show ∃ t o, Steps p.tables e below (s₁.setTop (mkF m 57 #[.val (.int i1), .val (.int i2), .val (.long q1), .second, .val (.int i3), .val (.long l5), .second, .val (.long l7), .second, .val (.long LL), .second, .val (.double (FP.ddiv (FP.l2d l7) (4611686018427387904 : UInt64))), .second, .val (.double (FP.ddiv (FP.l2d (l5 * l7)) (4611686018427387904 : UInt64))), .second, .unset, .unset, .unset, .unset] [])) t ∧ _
    refine own_go (fun _ => XS.dload X0.here hx rfl (hb hby at_57) rfl) ?_
    show ∃ t o, Steps p.tables e below (s₁.setTop (mkF m 59 #[.val (.int i1), .val (.int i2), .val (.long q1), .second, .val (.int i3), .val (.long l5), .second, .val (.long l7), .second, .val (.long LL), .second, .val (.double (FP.ddiv (FP.l2d l7) (4611686018427387904 : UInt64))), .second, .val (.double (FP.ddiv (FP.l2d (l5 * l7)) (4611686018427387904 : UInt64))), .second, .unset, .unset, .unset, .unset] [(.double (FP.ddiv (FP.l2d (l5 * l7)) (4611686018427387904 : UInt64)))])) t ∧ _
    refine own_go (fun _ => XS.dload X0.here hx rfl (hb hby at_59) rfl) ?_
    show ∃ t o, Steps p.tables e below (s₁.setTop (mkF m 61 #[.val (.int i1), .val (.int i2), .val (.long q1), .second, .val (.int i3), .val (.long l5), .second, .val (.long l7), .second, .val (.long LL), .second, .val (.double (FP.ddiv (FP.l2d l7) (4611686018427387904 : UInt64))), .second, .val (.double (FP.ddiv (FP.l2d (l5 * l7)) (4611686018427387904 : UInt64))), .second, .unset, .unset, .unset, .unset] [(.double (FP.ddiv (FP.l2d l7) (4611686018427387904 : UInt64))), (.double (FP.ddiv (FP.l2d (l5 * l7)) (4611686018427387904 : UInt64)))])) t ∧ _
    refine own_go (fun _ => XS.lload X0.here hx rfl (hb hby at_61) rfl) ?_
    show ∃ t o, Steps p.tables e below (s₁.setTop (mkF m 63 #[.val (.int i1), .val (.int i2), .val (.long q1), .second, .val (.int i3), .val (.long l5), .second, .val (.long l7), .second, .val (.long LL), .second, .val (.double (FP.ddiv (FP.l2d l7) (4611686018427387904 : UInt64))), .second, .val (.double (FP.ddiv (FP.l2d (l5 * l7)) (4611686018427387904 : UInt64))), .second, .unset, .unset, .unset, .unset] [(.long LL), (.double (FP.ddiv (FP.l2d l7) (4611686018427387904 : UInt64))), (.double (FP.ddiv (FP.l2d (l5 * l7)) (4611686018427387904 : UInt64)))])) t ∧ _
    obtain ⟨_, _, ⟨T4, L4, k4, n4⟩, -, X4, ⟨Lc4, hQ4, l4, y4, z4⟩, st4⟩ := Jvm.LawKit.callS X0 hx (y := (⟨"com/example/planwright/planwright/planner/CostModel", "stopAfter", "(DDJ)D"⟩ : MethodName)) hown (mvT hZ (hw _ (List.mem_of_getElem? (i := 3) rfl))) (mvT hZ (hw _ (List.mem_of_getElem? (i := 4) rfl))) (mvT hZ (hw _ (List.mem_of_getElem? (i := 5) rfl))) (mvT hZ (hw _ (List.mem_of_getElem? (i := 6) rfl))) (by decide) (backOf (W := 0) (rmSA l Z a0 hw [] ((FP.ddiv (FP.l2d (l5 * l7)) (4611686018427387904 : UInt64))) ((FP.ddiv (FP.l2d l7) (4611686018427387904 : UInt64))) LL h0 n0 Z0 OLD (own_le Hr h7b hL hab : ¬ ((0 : Int32) < (cmpValue (FP.dcmp (FP.ddiv (FP.l2d l7) (4611686018427387904 : UInt64)) (FP.l2d LL)) .g)))) hZ (hw _ (List.mem_of_getElem? (i := 6) rfl)) (hw _ (List.mem_of_getElem? (i := 5) rfl)) (by decide) (by decide)) (g := (mkF m 63 #[.val (.int i1), .val (.int i2), .val (.long q1), .second, .val (.int i3), .val (.long l5), .second, .val (.long l7), .second, .val (.long LL), .second, .val (.double (FP.ddiv (FP.l2d l7) (4611686018427387904 : UInt64))), .second, .val (.double (FP.ddiv (FP.l2d (l5 * l7)) (4611686018427387904 : UInt64))), .second, .unset, .unset, .unset, .unset] [(.long LL), (.double (FP.ddiv (FP.l2d l7) (4611686018427387904 : UInt64))), (.double (FP.ddiv (FP.l2d (l5 * l7)) (4611686018427387904 : UInt64)))])) rfl (by rw [hml]; rfl) (argsL := [(.double (FP.ddiv (FP.l2d (l5 * l7)) (4611686018427387904 : UInt64))), (.double (FP.ddiv (FP.l2d l7) (4611686018427387904 : UInt64))), (.long LL)]) (rest := []) (lenOf pd__28DDJ_29D rfl) rfl (by show 2 * 0 + _ ≤ _; exact Nat.le_of_eq rfl) (hb hby at_63) (fun _ _ => ⟨rfl, e0, (by decide : 0 + 0 ≤ _), (by decide : 0 + 0 ≤ _)⟩)
    dsimp only [Pt.U, Pt.locs, Pt.cells, Pt.slots] at X4 l4 y4 z4 st4 hQ4
    subst l4 y4 z4
    obtain ⟨rfl, Nq4, e4⟩ := hQ4
    have N4 := Fr.app N0 Nq4
    refine own_go st4 ?_
    show ∃ t o, Steps p.tables e below (T4.setTop (mkF m 66 #[.val (.int i1), .val (.int i2), .val (.long q1), .second, .val (.int i3), .val (.long l5), .second, .val (.long l7), .second, .val (.long LL), .second, .val (.double (FP.ddiv (FP.l2d l7) (4611686018427387904 : UInt64))), .second, .val (.double (FP.ddiv (FP.l2d (l5 * l7)) (4611686018427387904 : UInt64))), .second, .unset, .unset, .unset, .unset] [(.double (FP.ddiv (FP.l2d (l5 * l7)) (4611686018427387904 : UInt64)))])) t ∧ _
    refine own_go (fun _ => XS.dstore X4.here hx rfl (hb hby at_66) rfl (l' := #[.val (.int i1), .val (.int i2), .val (.long q1), .second, .val (.int i3), .val (.long l5), .second, .val (.long l7), .second, .val (.long LL), .second, .val (.double (FP.ddiv (FP.l2d l7) (4611686018427387904 : UInt64))), .second, .val (.double (FP.ddiv (FP.l2d (l5 * l7)) (4611686018427387904 : UInt64))), .second, .val (.double (FP.ddiv (FP.l2d (l5 * l7)) (4611686018427387904 : UInt64))), .second, .unset, .unset]) rfl) ?_
    show ∃ t o, Steps p.tables e below (T4.setTop (mkF m 68 #[.val (.int i1), .val (.int i2), .val (.long q1), .second, .val (.int i3), .val (.long l5), .second, .val (.long l7), .second, .val (.long LL), .second, .val (.double (FP.ddiv (FP.l2d l7) (4611686018427387904 : UInt64))), .second, .val (.double (FP.ddiv (FP.l2d (l5 * l7)) (4611686018427387904 : UInt64))), .second, .val (.double (FP.ddiv (FP.l2d (l5 * l7)) (4611686018427387904 : UInt64))), .second, .unset, .unset] [])) t ∧ _
    refine own_go (fun _ => XS.lload X4.here hx rfl (hb hby at_68) rfl) ?_
    show ∃ t o, Steps p.tables e below (T4.setTop (mkF m 70 #[.val (.int i1), .val (.int i2), .val (.long q1), .second, .val (.int i3), .val (.long l5), .second, .val (.long l7), .second, .val (.long LL), .second, .val (.double (FP.ddiv (FP.l2d l7) (4611686018427387904 : UInt64))), .second, .val (.double (FP.ddiv (FP.l2d (l5 * l7)) (4611686018427387904 : UInt64))), .second, .val (.double (FP.ddiv (FP.l2d (l5 * l7)) (4611686018427387904 : UInt64))), .second, .unset, .unset] [(.long LL)])) t ∧ _
    refine own_go (fun _ => XS.lload X4.here hx rfl (hb hby at_70) rfl) ?_
    show ∃ t o, Steps p.tables e below (T4.setTop (mkF m 72 #[.val (.int i1), .val (.int i2), .val (.long q1), .second, .val (.int i3), .val (.long l5), .second, .val (.long l7), .second, .val (.long LL), .second, .val (.double (FP.ddiv (FP.l2d l7) (4611686018427387904 : UInt64))), .second, .val (.double (FP.ddiv (FP.l2d (l5 * l7)) (4611686018427387904 : UInt64))), .second, .val (.double (FP.ddiv (FP.l2d (l5 * l7)) (4611686018427387904 : UInt64))), .second, .unset, .unset] [(.long l7), (.long LL)])) t ∧ _
    refine own_go (fun _ => XS.lconst X4.here hx rfl (hb hby at_72)) ?_
    show ∃ t o, Steps p.tables e below (T4.setTop (mkF m 73 #[.val (.int i1), .val (.int i2), .val (.long q1), .second, .val (.int i3), .val (.long l5), .second, .val (.long l7), .second, .val (.long LL), .second, .val (.double (FP.ddiv (FP.l2d l7) (4611686018427387904 : UInt64))), .second, .val (.double (FP.ddiv (FP.l2d (l5 * l7)) (4611686018427387904 : UInt64))), .second, .val (.double (FP.ddiv (FP.l2d (l5 * l7)) (4611686018427387904 : UInt64))), .second, .unset, .unset] [(.long (1 : Int64)), (.long l7), (.long LL)])) t ∧ _
    refine own_go (fun _ => XS.ladd X4.here hx rfl (hb hby at_73) rfl) ?_
    show ∃ t o, Steps p.tables e below (T4.setTop (mkF m 74 #[.val (.int i1), .val (.int i2), .val (.long q1), .second, .val (.int i3), .val (.long l5), .second, .val (.long l7), .second, .val (.long LL), .second, .val (.double (FP.ddiv (FP.l2d l7) (4611686018427387904 : UInt64))), .second, .val (.double (FP.ddiv (FP.l2d (l5 * l7)) (4611686018427387904 : UInt64))), .second, .val (.double (FP.ddiv (FP.l2d (l5 * l7)) (4611686018427387904 : UInt64))), .second, .unset, .unset] [(.long (l7 + (1 : Int64))), (.long LL)])) t ∧ _
    refine own_go (fun _ => X4.ldc2Long hx hown (mvT hZ (hw _ (List.mem_of_getElem? (i := 7) rfl))) (g := (mkF m 74 #[.val (.int i1), .val (.int i2), .val (.long q1), .second, .val (.int i3), .val (.long l5), .second, .val (.long l7), .second, .val (.long LL), .second, .val (.double (FP.ddiv (FP.l2d l7) (4611686018427387904 : UInt64))), .second, .val (.double (FP.ddiv (FP.l2d (l5 * l7)) (4611686018427387904 : UInt64))), .second, .val (.double (FP.ddiv (FP.l2d (l5 * l7)) (4611686018427387904 : UInt64))), .second, .unset, .unset] [(.long (l7 + (1 : Int64))), (.long LL)])) rfl (hb hby at_74) _) ?_
    show ∃ t o, Steps p.tables e below (T4.setTop (mkF m 77 #[.val (.int i1), .val (.int i2), .val (.long q1), .second, .val (.int i3), .val (.long l5), .second, .val (.long l7), .second, .val (.long LL), .second, .val (.double (FP.ddiv (FP.l2d l7) (4611686018427387904 : UInt64))), .second, .val (.double (FP.ddiv (FP.l2d (l5 * l7)) (4611686018427387904 : UInt64))), .second, .val (.double (FP.ddiv (FP.l2d (l5 * l7)) (4611686018427387904 : UInt64))), .second, .unset, .unset] [(.long (2 : Int64)), (.long (l7 + (1 : Int64))), (.long LL)])) t ∧ _
    refine own_go (fun _ => XS.ldiv X4.here hx rfl (hb hby at_77) rfl (by decide)) ?_
    show ∃ t o, Steps p.tables e below (T4.setTop (mkF m 78 #[.val (.int i1), .val (.int i2), .val (.long q1), .second, .val (.int i3), .val (.long l5), .second, .val (.long l7), .second, .val (.long LL), .second, .val (.double (FP.ddiv (FP.l2d l7) (4611686018427387904 : UInt64))), .second, .val (.double (FP.ddiv (FP.l2d (l5 * l7)) (4611686018427387904 : UInt64))), .second, .val (.double (FP.ddiv (FP.l2d (l5 * l7)) (4611686018427387904 : UInt64))), .second, .unset, .unset] [(.long ((l7 + (1 : Int64)) / (2 : Int64))), (.long LL)])) t ∧ _
    refine own_go (fun _ => XS.lcmp X4.here hx rfl (hb hby at_78) rfl) ?_
    show ∃ t o, Steps p.tables e below (T4.setTop (mkF m 79 #[.val (.int i1), .val (.int i2), .val (.long q1), .second, .val (.int i3), .val (.long l5), .second, .val (.long l7), .second, .val (.long LL), .second, .val (.double (FP.ddiv (FP.l2d l7) (4611686018427387904 : UInt64))), .second, .val (.double (FP.ddiv (FP.l2d (l5 * l7)) (4611686018427387904 : UInt64))), .second, .val (.double (FP.ddiv (FP.l2d (l5 * l7)) (4611686018427387904 : UInt64))), .second, .unset, .unset] [(.int (lcmpW LL ((l7 + (1 : Int64)) / (2 : Int64))))])) t ∧ _
    refine own_go (fun _ => XS.ifNo X4.here hx rfl (hb hby at_79) rfl ((if0 _ _).trans (flt (mt (lw_lt _ _).mp hcL)).1)) ?_
    show ∃ t o, Steps p.tables e below (T4.setTop (mkF m 82 #[.val (.int i1), .val (.int i2), .val (.long q1), .second, .val (.int i3), .val (.long l5), .second, .val (.long l7), .second, .val (.long LL), .second, .val (.double (FP.ddiv (FP.l2d l7) (4611686018427387904 : UInt64))), .second, .val (.double (FP.ddiv (FP.l2d (l5 * l7)) (4611686018427387904 : UInt64))), .second, .val (.double (FP.ddiv (FP.l2d (l5 * l7)) (4611686018427387904 : UInt64))), .second, .unset, .unset] [])) t ∧ _
    refine own_go (fun _ => XS.dload X4.here hx rfl (hb hby at_82) rfl) ?_
    show ∃ t o, Steps p.tables e below (T4.setTop (mkF m 84 #[.val (.int i1), .val (.int i2), .val (.long q1), .second, .val (.int i3), .val (.long l5), .second, .val (.long l7), .second, .val (.long LL), .second, .val (.double (FP.ddiv (FP.l2d l7) (4611686018427387904 : UInt64))), .second, .val (.double (FP.ddiv (FP.l2d (l5 * l7)) (4611686018427387904 : UInt64))), .second, .val (.double (FP.ddiv (FP.l2d (l5 * l7)) (4611686018427387904 : UInt64))), .second, .unset, .unset] [(.double (FP.ddiv (FP.l2d (l5 * l7)) (4611686018427387904 : UInt64)))])) t ∧ _
    refine own_go (fun _ => XS.dstore X4.here hx rfl (hb hby at_84) rfl (l' := #[.val (.int i1), .val (.int i2), .val (.long q1), .second, .val (.int i3), .val (.long l5), .second, .val (.long l7), .second, .val (.long LL), .second, .val (.double (FP.ddiv (FP.l2d l7) (4611686018427387904 : UInt64))), .second, .val (.double (FP.ddiv (FP.l2d (l5 * l7)) (4611686018427387904 : UInt64))), .second, .val (.double (FP.ddiv (FP.l2d (l5 * l7)) (4611686018427387904 : UInt64))), .second, .val (.double (FP.ddiv (FP.l2d (l5 * l7)) (4611686018427387904 : UInt64))), .second]) rfl) ?_
    show ∃ t o, Steps p.tables e below (T4.setTop (mkF m 86 #[.val (.int i1), .val (.int i2), .val (.long q1), .second, .val (.int i3), .val (.long l5), .second, .val (.long l7), .second, .val (.long LL), .second, .val (.double (FP.ddiv (FP.l2d l7) (4611686018427387904 : UInt64))), .second, .val (.double (FP.ddiv (FP.l2d (l5 * l7)) (4611686018427387904 : UInt64))), .second, .val (.double (FP.ddiv (FP.l2d (l5 * l7)) (4611686018427387904 : UInt64))), .second, .val (.double (FP.ddiv (FP.l2d (l5 * l7)) (4611686018427387904 : UInt64))), .second] [])) t ∧ _
    refine own_go (fun _ => XS.goto X4.here hx rfl (pc0 := 86) (pc' := 97) rfl (hb hby at_86) (by decide) (by decide)) ?_
    show ∃ t o, Steps p.tables e below (T4.setTop (mkF m 97 #[.val (.int i1), .val (.int i2), .val (.long q1), .second, .val (.int i3), .val (.long l5), .second, .val (.long l7), .second, .val (.long LL), .second, .val (.double (FP.ddiv (FP.l2d l7) (4611686018427387904 : UInt64))), .second, .val (.double (FP.ddiv (FP.l2d (l5 * l7)) (4611686018427387904 : UInt64))), .second, .val (.double (FP.ddiv (FP.l2d (l5 * l7)) (4611686018427387904 : UInt64))), .second, .val (.double (FP.ddiv (FP.l2d (l5 * l7)) (4611686018427387904 : UInt64))), .second] [])) t ∧ _
    refine own_go (fun _ => XS.dload X4.here hx rfl (hb hby at_97) rfl) ?_
    show ∃ t o, Steps p.tables e below (T4.setTop (mkF m 99 #[.val (.int i1), .val (.int i2), .val (.long q1), .second, .val (.int i3), .val (.long l5), .second, .val (.long l7), .second, .val (.long LL), .second, .val (.double (FP.ddiv (FP.l2d l7) (4611686018427387904 : UInt64))), .second, .val (.double (FP.ddiv (FP.l2d (l5 * l7)) (4611686018427387904 : UInt64))), .second, .val (.double (FP.ddiv (FP.l2d (l5 * l7)) (4611686018427387904 : UInt64))), .second, .val (.double (FP.ddiv (FP.l2d (l5 * l7)) (4611686018427387904 : UInt64))), .second] [(.double (FP.ddiv (FP.l2d (l5 * l7)) (4611686018427387904 : UInt64)))])) t ∧ _
    refine own_go (fun _ => XS.dload X4.here hx rfl (hb hby at_99) rfl) ?_
    show ∃ t o, Steps p.tables e below (T4.setTop (mkF m 101 #[.val (.int i1), .val (.int i2), .val (.long q1), .second, .val (.int i3), .val (.long l5), .second, .val (.long l7), .second, .val (.long LL), .second, .val (.double (FP.ddiv (FP.l2d l7) (4611686018427387904 : UInt64))), .second, .val (.double (FP.ddiv (FP.l2d (l5 * l7)) (4611686018427387904 : UInt64))), .second, .val (.double (FP.ddiv (FP.l2d (l5 * l7)) (4611686018427387904 : UInt64))), .second, .val (.double (FP.ddiv (FP.l2d (l5 * l7)) (4611686018427387904 : UInt64))), .second] [(.double (FP.ddiv (FP.l2d (l5 * l7)) (4611686018427387904 : UInt64))), (.double (FP.ddiv (FP.l2d (l5 * l7)) (4611686018427387904 : UInt64)))])) t ∧ _
    refine own_go (fun _ => XS.dcmpS X4.here hx rfl (hb hby at_101) rfl (v := (0 : Int32)) (own_same Hc Hc)) ?_
    show ∃ t o, Steps p.tables e below (T4.setTop (mkF m 102 #[.val (.int i1), .val (.int i2), .val (.long q1), .second, .val (.int i3), .val (.long l5), .second, .val (.long l7), .second, .val (.long LL), .second, .val (.double (FP.ddiv (FP.l2d l7) (4611686018427387904 : UInt64))), .second, .val (.double (FP.ddiv (FP.l2d (l5 * l7)) (4611686018427387904 : UInt64))), .second, .val (.double (FP.ddiv (FP.l2d (l5 * l7)) (4611686018427387904 : UInt64))), .second, .val (.double (FP.ddiv (FP.l2d (l5 * l7)) (4611686018427387904 : UInt64))), .second] [(.int (0 : Int32))])) t ∧ _
    refine own_go (fun _ => XS.ifNo X4.here hx rfl (hb hby at_102) rfl ((if0 _ _).trans (teq (by decide : (0 : Int32) = (0 : Int32))).2)) ?_
    show ∃ t o, Steps p.tables e below (T4.setTop (mkF m 105 #[.val (.int i1), .val (.int i2), .val (.long q1), .second, .val (.int i3), .val (.long l5), .second, .val (.long l7), .second, .val (.long LL), .second, .val (.double (FP.ddiv (FP.l2d l7) (4611686018427387904 : UInt64))), .second, .val (.double (FP.ddiv (FP.l2d (l5 * l7)) (4611686018427387904 : UInt64))), .second, .val (.double (FP.ddiv (FP.l2d (l5 * l7)) (4611686018427387904 : UInt64))), .second, .val (.double (FP.ddiv (FP.l2d (l5 * l7)) (4611686018427387904 : UInt64))), .second] [])) t ∧ _
    refine own_go (fun _ => XS.iconst X4.here hx rfl (hb hby at_105)) ?_
    show ∃ t o, Steps p.tables e below (T4.setTop (mkF m 106 #[.val (.int i1), .val (.int i2), .val (.long q1), .second, .val (.int i3), .val (.long l5), .second, .val (.long l7), .second, .val (.long LL), .second, .val (.double (FP.ddiv (FP.l2d l7) (4611686018427387904 : UInt64))), .second, .val (.double (FP.ddiv (FP.l2d (l5 * l7)) (4611686018427387904 : UInt64))), .second, .val (.double (FP.ddiv (FP.l2d (l5 * l7)) (4611686018427387904 : UInt64))), .second, .val (.double (FP.ddiv (FP.l2d (l5 * l7)) (4611686018427387904 : UInt64))), .second] [(.int (1 : Int32))])) t ∧ _
    refine own_go (fun _ => XS.goto X4.here hx rfl (pc0 := 106) (pc' := 110) rfl (hb hby at_106) (by decide) (by decide)) ?_
    show ∃ t o, Steps p.tables e below (T4.setTop (mkF m 110 #[.val (.int i1), .val (.int i2), .val (.long q1), .second, .val (.int i3), .val (.long l5), .second, .val (.long l7), .second, .val (.long LL), .second, .val (.double (FP.ddiv (FP.l2d l7) (4611686018427387904 : UInt64))), .second, .val (.double (FP.ddiv (FP.l2d (l5 * l7)) (4611686018427387904 : UInt64))), .second, .val (.double (FP.ddiv (FP.l2d (l5 * l7)) (4611686018427387904 : UInt64))), .second, .val (.double (FP.ddiv (FP.l2d (l5 * l7)) (4611686018427387904 : UInt64))), .second] [(.int (1 : Int32))])) t ∧ _
    obtain ⟨fs, hr, hrun, hended, hW, hsame⟩ := X4.leave (v := some (.int (1 : Int32))) (fun h => by rw [Bd.returns] at h; cases h)
    refine ⟨_, _, ?_, hrun, hended, _, _, rfl, ?_, ⟨_, rfl⟩, hW, hsame.mono (by decide) (by decide)⟩
    · exact retN X4 hx (t := .boolean) Bd.returns (by simp) (hb hby at_110) hr
    · show Q_rm0 Z _ _ _ _ h0 n0 _ T4.heap _
      rw [e4]
      exact ⟨rfl, N4, (Keep.refl h0 [])⟩
set_option maxRecDepth 65536 in
set_option maxHeartbeats 40000000 in
theorem comes_1 {Post : Tables → Env → Array Value → State → Outcome → State → Prop} (hpost : ∀ tb e args s v u, (limb_1_1.after args s (.returned v) u = true ∧ limb_1_2.after args s (.returned v) u = true ∧ True) → FrameEnd s (.returned v) u (Jvm.fieldLocs frame_1_writes args s ++ Jvm.arrayLocs frame_1_arrays args s ++ Jvm.staticLocs frame_1_statics s) 0 0 → Post tb e args s (.returned v) u) :
    ArmFor flags0 classFile x code maxLocals ret World_1 tables_1 room_1 Calls_1 rest_1 Pre_1 Post := by
  intro l hfl _ _ p e ha hc hk s m args below hf hA hF happ hP
  obtain ⟨hcalls, hrest, hpre⟩ := hP
  obtain ⟨-, -, -, hnamed, -, -, -, hat⟩ := (Spec.applies_iff hf).mp happ
  obtain ⟨hg, hn⟩ := and_e (Cond.before_iff.mp (show (Jvm.Cond.and given_1 narrow_1).before args s = true from hpre))
  obtain ⟨g1, g2⟩ := and_e hg
  obtain ⟨g3, g4⟩ := and_e g2
  obtain ⟨g5, g6⟩ := and_e g4
  obtain ⟨g7, g8⟩ := and_e g6
  obtain ⟨w0, w1, w2, w3, rfl⟩ : ∃ w0 w1 w2 w3 : Value, args = #[w0, w1, w2, w3] := by
    have hs : args.size = 4 := by simpa [Cond.value, given_1] using g1
    obtain ⟨L⟩ := args
    match L, hs with
    | [w0, w1, w2, w3], _ => exact ⟨w0, w1, w2, w3, rfl⟩
  have hw := fun d (hd : d ∈ tables_1) => atoms_spec (ws := Jvm.Cond.code x code maxLocals ret :: tables_1) hat d (List.mem_cons_of_mem _ hd)
  have hfit : Fit s := fun {y c} hc i hi => by
    obtain ⟨ha, rfl⟩ := Array.getElem?_eq_some_iff.mp hc
    have q := List.all_eq_true.mp ((Array.all_eq_true_iff_forall_mem.mp hF) _ (Array.getElem_mem ha)) i (List.mem_range.mpr hi)
    simpa [Array.getElem?_eq_getElem hi] using q
  obtain ⟨i0, ei0⟩ := is_v g3
  obtain rfl : w0 = (.int i0) := Option.some.inj ei0
  obtain ⟨i1, ei1⟩ := is_v g5
  obtain rfl : w1 = (.int i1) := Option.some.inj ei1
  obtain ⟨i2, ei2⟩ := isL_v g7
  obtain rfl : w2 = (.long i2) := Option.some.inj ei2
  obtain ⟨i3, ei3⟩ := is_v g8
  obtain rfl : w3 = (.int i3) := Option.some.inj ei3
  have OLD := Old.start s
  obtain ⟨n, o, h1, h2, h3, _, L, rfl, ⟨rfl, N, -⟩, hq⟩ := rm0 l s _ hw tables_1 i0 i1 i2 i3  s.heap s.heap.size (Nat.le_refl _) OLD p e ha hc hk s m _ below hf ((Spec.applies_iff_loose hf).mp happ).1 ⟨rfl, State.Warmed39.refl s, rfl⟩ trivial
  refine ⟨n, _, h1, h2, h3, hpost _ _ _ _ _ _ ⟨Cond.after_iff.mpr rfl, Cond.after_iff.mpr (eq_i res_at (Term.int_eval (1)) rfl), trivial⟩ ⟨hq.1, hq.2.1, (hq.2.2.sift fun y hy => Or.inr (N y hy)).mono (by decide) (by decide)⟩⟩
theorem main_1_1 : Claimed_1_1 := comes_1 fun _ _ _ _ _ _ h hF => ⟨h.1, hF⟩
theorem main_1_2 : Claimed_1_2 := comes_1 fun _ _ _ _ _ _ h hF => ⟨h.2.1, hF⟩
end Jvm.Pilot.@@N@@
namespace Jvm.Pilot.@@N@@
open Jvm Jvm.ClassFile Sem Op Lib Jvm.Free Jvm.Stand Jvm.Pilot.@@N@@.Jvm.D
/-! MADE BY PROGRAM (witnessworld.py) out of the Statement's table words and the real class files: 9 classes; the members and pool entries that the words name. The judged class is class 1, her method 1. -/
namespace start1
open Jvm.ClassFile
def u (s : String) : CpInfo := .utf8 (stringToUtf16 s)
/-- a pool by its gaps: so many unusable entries, then the entry; so many at the end -/
def gap : Nat → List CpInfo → List CpInfo
  | 0, r => r
  | n + 1, r => .unusable :: gap n r
def poolList (es : List (Nat × CpInfo)) (last : Nat) : List CpInfo := es.foldr (fun e r => gap e.1 (e.2 :: r)) (gap last [])
def pool (es : List (Nat × CpInfo)) (last : Nat) : Array CpInfo := ⟨poolList es last⟩
def fileOf (pool : Array CpInfo) (this : Nat) (attrs : Array Attribute := #[]) (ms : Array MethodInfo := #[]) (fl : Nat := 33) (sup : Nat := 0) (ifs : Array Nat := #[]) (fds : Array FieldInfo := #[]) : ClassFile where
  minorVersion := 0
  majorVersion := 65
  constantPool := pool
  accessFlags := fl
  thisClass := this
  superClass := sup
  interfaces := ifs
  fields := fds
  methods := ms
  attributes := attrs
def plain (name : String) (sup : Option ClassId) : Class where
  name := name
  kind := .ordinary
  loader := none
  accessFlags := 33
  super := sup
  interfaces := #[]
  cf := none
  fields := #[]
  methods := #[]
  instanceTypes := #[]
  staticTypes := #[]
  resolved := #[]
  callSites := []
  init := .initialized
  statics := none
  mirror := none

def pool0 : Array CpInfo := pool [(5, u "<init>"), (0, u "()V"), (1, .class_ 10), (1, u "java/lang/Object")] 113

def k0m0 : Method := { name := "<init>", desc := "()V", sig := { parameters := [], returnType := none }, accessFlags := 1, code := none }
/-- java/lang/Object -/
def k0 : Class := { plain "java/lang/Object" none with
  accessFlags := 33
  interfaces := #[]
  cf := some (fileOf pool0 8 #[] #[{ accessFlags := 1, nameIndex := 5, descriptorIndex := 6, attributes := #[] }] 33 0 #[] #[])
  fields := #[]
  methods := #[k0m0]
  instanceTypes := #[]
  staticTypes := #[]
  resolved := Array.replicate 124 none
  statics := none }

def pool1 : Array CpInfo := pool [(2, .class_ 4), (1, u "java/lang/Object"), (0, u "<init>"), (0, u "()V"), (0, .integer 65535), (2, .long 9223372036854775807), (1, .long 32767), (1, .double 4611686018427387904), (1, .methodref 17 18), (0, .class_ 19), (0, .nameAndType 20 21), (0, u "com/example/planwright/planwright/planner/CostModel"), (0, u "stopAfter"), (0, u "(DDJ)D"), (0, .long 2), (1, .class_ 25), (0, u "com/example/planwright/planwright/planner/CostModelStopAfterPinLaw"), (2, u "law"), (0, u "(IIJI)Z")] 3

def k1m0 : Method := { name := "<init>", desc := "()V", sig := { parameters := [], returnType := none }, accessFlags := 2, code := none }
def k1c1 : Code := { maxStack := 6, maxLocals := 19, code := code, exceptionTable := #[], attributes := #[] }
def k1m1 : Method := { name := "law", desc := "(IIJI)Z", sig := { parameters := [.int, .int, .long, .int], returnType := some .boolean }, accessFlags := 9, code := some k1c1 }
/-- com/example/planwright/planwright/planner/CostModelStopAfterPinLaw -/
def k1 : Class := { plain "com/example/planwright/planwright/planner/CostModelStopAfterPinLaw" (some 0) with
  accessFlags := 49
  interfaces := #[]
  cf := some (fileOf pool1 24 #[] #[{ accessFlags := 2, nameIndex := 5, descriptorIndex := 6, attributes := #[] }, { accessFlags := 9, nameIndex := 28, descriptorIndex := 29, attributes := #[] }] 49 2 #[] #[])
  fields := #[]
  methods := #[k1m0, k1m1]
  instanceTypes := #[]
  staticTypes := #[]
  resolved := Array.replicate 33 none
  statics := none }

def pool2 : Array CpInfo := pool [(2, .class_ 4), (1, u "java/lang/Object"), (0, u "<init>"), (0, u "()V"), (0, .class_ 8), (0, u "com/example/planwright/planwright/planner/CostModel"), (28, u "ROW"), (0, u "D"), (3, u "CONDITION"), (0, u "HASH"), (0, u "AGGREGATE"), (0, u "COMPARISON"), (0, u "INDEX_LEVEL"), (0, u "INDEX_ENTRY"), (0, u "ROW_ID"), (18, u "stopAfter"), (0, u "(DDJ)D")] 2

def k2m0 : Method := { name := "<init>", desc := "()V", sig := { parameters := [], returnType := none }, accessFlags := 2, code := none }
def k2c1 : Code := { maxStack := 4, maxLocals := 6, code := prog_94_method_10_code, exceptionTable := #[], attributes := #[] }
def k2m1 : Method := { name := "stopAfter", desc := "(DDJ)D", sig := { parameters := [.double, .double, .long], returnType := some .double }, accessFlags := 8, code := some k2c1 }
/-- com/example/planwright/planwright/planner/CostModel -/
def k2 : Class := { plain "com/example/planwright/planwright/planner/CostModel" (some 0) with
  accessFlags := 48
  interfaces := #[]
  cf := some (fileOf pool2 7 #[] #[{ accessFlags := 2, nameIndex := 5, descriptorIndex := 6, attributes := #[] }, { accessFlags := 8, nameIndex := 67, descriptorIndex := 68, attributes := #[] }] 48 2 #[] #[{ accessFlags := 24, nameIndex := 37, descriptorIndex := 38, attributes := #[] }, { accessFlags := 24, nameIndex := 42, descriptorIndex := 38, attributes := #[] }, { accessFlags := 24, nameIndex := 43, descriptorIndex := 38, attributes := #[] }, { accessFlags := 24, nameIndex := 44, descriptorIndex := 38, attributes := #[] }, { accessFlags := 24, nameIndex := 45, descriptorIndex := 38, attributes := #[] }, { accessFlags := 24, nameIndex := 46, descriptorIndex := 38, attributes := #[] }, { accessFlags := 24, nameIndex := 47, descriptorIndex := 38, attributes := #[] }, { accessFlags := 24, nameIndex := 48, descriptorIndex := 38, attributes := #[] }])
  fields := #[{ name := "ROW", type := .double, accessFlags := 24, slot := 0, constantValue := 0 }, { name := "CONDITION", type := .double, accessFlags := 24, slot := 1, constantValue := 0 }, { name := "HASH", type := .double, accessFlags := 24, slot := 2, constantValue := 0 }, { name := "AGGREGATE", type := .double, accessFlags := 24, slot := 3, constantValue := 0 }, { name := "COMPARISON", type := .double, accessFlags := 24, slot := 4, constantValue := 0 }, { name := "INDEX_LEVEL", type := .double, accessFlags := 24, slot := 5, constantValue := 0 }, { name := "INDEX_ENTRY", type := .double, accessFlags := 24, slot := 6, constantValue := 0 }, { name := "ROW_ID", type := .double, accessFlags := 24, slot := 7, constantValue := 0 }]
  methods := #[k2m0, k2m1]
  instanceTypes := #[]
  staticTypes := #[.double, .double, .double, .double, .double, .double, .double, .double]
  resolved := Array.replicate 71 none
  statics := none }

def pool3 : Array CpInfo := pool [(1, u "java/lang/Cloneable"), (0, .class_ 1), (0, u "java/lang/Object"), (0, .class_ 3)] 3

/-- java/lang/Cloneable -/
def k3 : Class := { plain "java/lang/Cloneable" (some 0) with
  accessFlags := 1537
  interfaces := #[]
  cf := some (fileOf pool3 2 #[] #[] 1537 4 #[] #[])
  fields := #[]
  methods := #[]
  instanceTypes := #[]
  staticTypes := #[]
  resolved := Array.replicate 8 none
  statics := none }

def pool4 : Array CpInfo := pool [(1, u "java/io/Serializable"), (0, .class_ 1), (0, u "java/lang/Object"), (0, .class_ 3)] 3

/-- java/io/Serializable -/
def k4 : Class := { plain "java/io/Serializable" (some 0) with
  accessFlags := 1537
  interfaces := #[]
  cf := some (fileOf pool4 2 #[] #[] 1537 4 #[] #[])
  fields := #[]
  methods := #[]
  instanceTypes := #[]
  staticTypes := #[]
  resolved := Array.replicate 8 none
  statics := none }

/-- the primitive byte -/
def k5 : Class := { plain "byte" none with kind := .primitive 'B', accessFlags := 0x411 }
/-- [B -/
def k6 : Class := { plain "[B" (some 0) with kind := .array 5 .byte, interfaces := #[3, 4], accessFlags := 1041 }

/-- the primitive int -/
def k7 : Class := { plain "int" none with kind := .primitive 'I', accessFlags := 0x411 }
/-- [I -/
def k8 : Class := { plain "[I" (some 0) with kind := .array 7 .int, interfaces := #[3, 4], accessFlags := 1041 }

def heap : Heap := #[]
def classes : Array Class := #[k0, k1, k2, k3, k4, k5, k6, k7, k8]
def interned : List (Array UInt16 × Addr) := []
def slotsUsed : Nat := 0
def theMethod : MethodId := ⟨1, 1⟩
def args0 : Array Value := #[.int 5, .int 7, .long 6, .int 9]
def aboutOver (below : List Frame) : State where
  vm := { classes := classes, interned := interned.toArray }
  heap := heap
  slotsUsed := slotsUsed
  threads := #[{ frames := .invoking theMethod args0 :: below }]
def below0 : List Frame := [.native { method := ⟨0, 0⟩, args := #[] }]
def about1 : State := aboutOver below0
def p0 : Program := .bare "" "" ""
def e0 : Env := launch0.env 0 0 0
theorem w_frames : about1.frames = Frame.invoking theMethod args0 :: below0 := rfl
set_option maxRecDepth 65536 in
theorem w_args : argsFit about1.vm theMethod args0 = true := by decide +kernel
set_option maxRecDepth 65536 in
theorem w_heap : heapFits about1 = true := by decide +kernel
set_option maxRecDepth 65536 in
theorem w_runnable : about1.curStatus? = some .runnable := by decide +kernel
set_option maxRecDepth 65536 in
theorem w_alone : about1.alone = true := by decide +kernel
set_option maxRecDepth 65536 in
theorem w_named : about1.methodNamed? x = some theMethod := by decide +kernel
set_option maxRecDepth 65536 in
theorem w_hears : about1.hears theMethod below0 = true := by decide +kernel
set_option maxRecDepth 65536 in
theorem w_ripe : about1.ripe theMethod args0 below0 = true := by decide +kernel
theorem w_running : about1.status = .running := rfl
set_option maxRecDepth 65536 in
theorem w_room : about1.hasRoom e0.platform room_1 = true :=
  launch0.hasRoom_least _ room_1 (by decide +kernel) (by decide +kernel) (by decide +kernel) (by decide +kernel) (by decide +kernel) (by decide +kernel)
theorem allAtoms_all (ts : List Jvm.Cond) (a : Array Jvm.Value) (st : Jvm.State) : (allAtoms ts).before a st = ts.all (fun c => c.before a st) := by
  induction ts with
  | nil => rfl
  | cons c t ih =>
    show (Jvm.Cond.and c (allAtoms t)).before a st = _
    rw [Jvm.Cond.before_and, ih, List.all_cons]
def words1 : List Jvm.Cond := Jvm.Cond.code x code maxLocals ret :: tables_1
/-- a 'code' word, met by the world's own term for the bytes: nothing is compared byte by byte -/
theorem code_word {y : MethodName} {bytes : ByteArray} {mx : Nat} {rt : Option FieldType} {a : Array Value} {s : State} {m : MethodId} {meth : Method} {c : Code} (h1 : s.methodNamed? y = some m) (h2 : s.vm.method? m = some meth) (h3 : meth.code = some c) (h4 : c.code = bytes)
    (h5 : (c.maxLocals == mx && c.exceptionTable.isEmpty && decide (c.maxStack ≤ mostOperands) && decide (meth.sig.returnType = rt) && !meth.locks && decide (parseMethodDescriptor y.desc = some meth.sig)) = true) : (Jvm.Cond.code y bytes mx rt).before a s = true := by
  simp only [Bool.and_eq_true, beq_iff_eq, Bool.not_eq_true', decide_eq_true_eq] at h5
  obtain ⟨⟨⟨⟨⟨g1, g2⟩, g3⟩, g4⟩, g5⟩, g6⟩ := h5
  simp [Cond.before, Cond.holds, Cond.value, h1, h2, h3, h4, g1, g2, g3, g4, g5, g6]
def isCode : Jvm.Cond → Bool
  | .code _ _ _ _ => true
  | _ => false
theorem all_split {L : List Jvm.Cond} {P : Jvm.Cond → Bool} (h1 : L.all (fun c => isCode c || P c) = true) (h2 : ∀ c ∈ L.filter isCode, P c = true) : L.all P = true := by
  refine List.all_eq_true.mpr fun c hc => ?_
  have h := List.all_eq_true.mp h1 c hc
  rcases Bool.eq_false_or_eq_true (isCode c) with hi | hi
  · exact h2 c (List.mem_filter.mpr ⟨hc, hi⟩)
  · simpa [hi] using h
set_option maxRecDepth 65536 in
theorem w_c0 : (Jvm.Cond.code x code maxLocals ret).before args0 about1 = true := code_word (m := ⟨1, 1⟩) (meth := k1m1) (c := k1c1) (by decide +kernel) rfl rfl rfl (by decide +kernel)
set_option maxRecDepth 65536 in
theorem w_c1 : (Jvm.Cond.code ({ cls := "com/example/planwright/planwright/planner/CostModel", name := "stopAfter", desc := "(DDJ)D" } : Jvm.MethodName) prog_94_method_10_code (6 : Nat) (Option.some Jvm.ClassFile.FieldType.double)).before args0 about1 = true := code_word (m := ⟨2, 1⟩) (meth := k2m1) (c := k2c1) (by decide +kernel) rfl rfl rfl (by decide +kernel)
def codes1 : List Jvm.Cond := [Jvm.Cond.code x code maxLocals ret, Jvm.Cond.code ({ cls := "com/example/planwright/planwright/planner/CostModel", name := "stopAfter", desc := "(DDJ)D" } : Jvm.MethodName) prog_94_method_10_code (6 : Nat) (Option.some Jvm.ClassFile.FieldType.double)]
set_option maxRecDepth 65536 in
theorem codes_eq : words1.filter isCode = codes1 := rfl
theorem w_codes : ∀ c ∈ words1.filter isCode, c.before args0 about1 = true := by
  rw [codes_eq]
  intro c hc
  simp only [codes1, List.mem_cons, List.not_mem_nil, or_false] at hc
  rcases hc with rfl | rfl
  · exact w_c0
  · exact w_c1
set_option maxRecDepth 65536 in
theorem w_t1 : words1.all (fun c => isCode c || c.before args0 about1) = true := by decide +kernel
theorem w_tables : (allAtoms (Jvm.Cond.code x code maxLocals ret :: tables_1)).before args0 about1 = true := by
  rw [allAtoms_all]
  show words1.all (fun c => c.before args0 about1) = true
  refine all_split ?_ w_codes
  rw [w_t1]
set_option maxRecDepth 65536 in
theorem w_case : (Jvm.Cond.and given_1 narrow_1).before args0 about1 = true := by decide +kernel
theorem w_applies : (headSpec (Jvm.Cond.code x code maxLocals ret :: tables_1) room_1).applies x e0.platform about1 = true :=
  (Spec.applies_iff w_frames).mpr ⟨w_running, w_runnable, w_alone, w_named, w_hears, w_ripe, w_room, w_tables⟩
theorem atStart : AtStart classFile x code maxLocals ret World_1 tables_1 room_1 Calls_1 rest_1 Pre_1 launch0 p0 e0 about1 theMethod args0 below0 :=
  ⟨lists_1, trivial, launch0.admits_env _ _ _, launch0.least_env, fairChoices_fair.cas, fairChoices_fair.clock, w_frames, w_args, w_heap, w_applies, trivial, trivial, w_case⟩
end start1
theorem witness_1 : WitnessClaimed_1 := ⟨start1.p0, start1.e0, start1.about1, start1.theMethod, start1.args0, start1.below0, start1.atStart⟩
end Jvm.Pilot.@@N@@
