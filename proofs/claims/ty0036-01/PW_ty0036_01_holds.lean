import PyProof.Rows.All
import Wide.All
import OpenK.AllK
import Wide.FinOn
import PySem.Challenge.RW_ty0036_01
open PySem PySem.W PySem.Spec PySem.Calls PyProof.Rows
set_option Elab.async false
set_option rowWalk.seconds 0
section
open PySem PySem.W PyProof.Rows
namespace Mine
open PySem.Float64

/-- x is the float n / 2 ^ 20 (a zero of either sign where n = 0) -/
def FQ (x : UInt64) (n : Int) : Prop := ∃ a m e, decode x = .fin a m e ∧ val x = n * ((2 ^ 1054 : Nat) : Int)

theorem V_hit {N : Nat} (h : N < 2 ^ 53) : ∃ t, V t = N * 2 ^ 1054 := by
  by_cases h0 : N = 0
  · exact ⟨0, by rw [V_zero, h0, Nat.zero_mul]⟩
  · have h1 : 2 ^ N.log2 ≤ N := Nat.log2_self_le h0
    have h2 : N < 2 ^ (N.log2 + 1) := Nat.lt_log2_self
    have h3 : N.log2 < 53 := (Nat.pow_lt_pow_iff_right (a := 2) (by decide)).mp (Nat.lt_of_le_of_lt h1 h)
    refine ⟨(1054 - (52 - N.log2)) * 2 ^ 52 + N * 2 ^ (52 - N.log2), ?_⟩
    have e1 : N.log2 + (52 - N.log2) = 52 := by omega
    have e2 : 2 ^ N.log2 * 2 ^ (52 - N.log2) = 2 ^ 52 := by rw [← Nat.pow_add, e1]
    have e3 : 2 ^ (N.log2 + 1) * 2 ^ (52 - N.log2) = 2 ^ 53 := by rw [← Nat.pow_add]; congr 1; omega
    rw [V_at (k := 1054 - (52 - N.log2)) (q := N * 2 ^ (52 - N.log2)), Nat.mul_assoc, ← Nat.pow_add]
    · congr 2; omega
    · rw [← e3]; exact Nat.mul_le_mul_right _ (Nat.le_of_lt h2)
    · left; rw [← e2]; exact Nat.mul_le_mul_right _ h1

theorem exact_of {r : UInt64} {neg : Bool} {N D : Nat} (h : Right r neg (N * 2 ^ 1054 * D) D) (hD : 0 < D) (hN : N < 2 ^ 53) :
    ∃ m e, decode r = .fin neg m e ∧ val r = sgn neg (N * 2 ^ 1054) := by
  obtain ⟨t, rfl, hle, hinf, hn⟩ := h
  have ht : t < infMag := by
    rcases Nat.lt_or_eq_of_le hle with h | h
    · exact h
    · exfalso
      have h1 := hinf.mp h
      have h2 : D * ((2 ^ 54 - 1) * 2 ^ 2045) ≤ D * (2 * (N * 2 ^ 1054)) := by
        rw [show D * (2 * (N * 2 ^ 1054)) = 2 * (N * 2 ^ 1054 * D) by (generalize (2 : Nat) ^ 1054 = UU; ac_rfl)]; exact h1
      have h3 := Nat.le_of_mul_le_mul_left h2 hD
      have h4 : 2 * (N * 2 ^ 1054) ≤ 2 * (2 ^ 53 * 2 ^ 1054) := Nat.mul_le_mul_left _ (Nat.mul_le_mul_right _ (Nat.le_of_lt hN))
      have h5 := Nat.le_trans h3 h4
      revert h5
      decide +kernel
  obtain ⟨t0, ht0⟩ := V_hit hN
  have h1 := (hn ht t0).1
  rw [ht0, show D * (N * 2 ^ 1054) = N * 2 ^ 1054 * D by (generalize (2 : Nat) ^ 1054 = UU; ac_rfl)] at h1
  have h2 : dist (N * 2 ^ 1054 * D) (N * 2 ^ 1054 * D) = 0 := by unfold dist; omega
  rw [h2] at h1
  have h3 : D * V t = N * 2 ^ 1054 * D := by unfold dist at h1; omega
  have h4 : V t = N * 2 ^ 1054 := Nat.eq_of_mul_eq_mul_left hD (by (rw [h3]; generalize (2 : Nat) ^ 1054 = UU; ac_rfl))
  obtain ⟨m, e, hd, _⟩ := decode_pack neg ht
  exact ⟨m, e, hd, by rw [val_pack neg ht, h4]⟩

theorem sgn_decide (a : Int) (U : Nat) : sgn (decide (a < 0)) (a.natAbs * U) = a * (U : Int) := by
  unfold sgn
  by_cases h : a < 0
  · rw [decide_eq_true h]
    simp only [if_true, Int.natCast_mul]
    rw [← Int.neg_mul]; congr 1; omega
  · rw [decide_eq_false h]
    simp only [Bool.false_eq_true, if_false, Int.natCast_mul]
    congr 1; omega

theorem U_pos : (0 : Int) < ((2 ^ 1054 : Nat) : Int) := Int.ofNat_lt.mpr (Nat.two_pow_pos _)

theorem fq_of_right {r : UInt64} {neg : Bool} {c : Int} {D : Nat} (h : Right r neg (c.natAbs * 2 ^ 1054 * D) D) (hD : 0 < D) (hc : c.natAbs < 2 ^ 53) (hs : c ≠ 0 → neg = decide (c < 0)) : FQ r c := by
  obtain ⟨m, e, hd, hv⟩ := exact_of h hD hc
  refine ⟨neg, m, e, hd, ?_⟩
  by_cases h0 : c = 0
  · rw [hv, h0]; unfold sgn; cases neg <;> simp
  · rw [hv, hs h0, sgn_decide]

theorem natAbs_U (a : Int) : (a * ((2 ^ 1054 : Nat) : Int)).natAbs = a.natAbs * 2 ^ 1054 := by rw [Int.natAbs_mul, Int.natAbs_natCast]

theorem mulU_lt (a : Int) : a * ((2 ^ 1054 : Nat) : Int) < 0 ↔ a < 0 := by
  have h := U_pos
  generalize ((2 ^ 1054 : Nat) : Int) = U at h ⊢
  constructor
  · intro h1
    by_cases h2 : a < 0
    · exact h2
    · have := Int.mul_nonneg (show 0 ≤ a by omega) (Int.le_of_lt h); omega
  · intro h1; exact Int.mul_neg_of_neg_of_pos h1 h

theorem fq_ofInt {i : Int} (h : i.natAbs < 2 ^ 33) : FQ (ofInt i) (i * 2 ^ 20) := by
  have hr := ofInt_right i
  refine fq_of_right (neg := decide (i < 0)) (D := 1) ?_ (by decide) (by omega) (fun h0 => ?_)
  · have e : i.natAbs * 2 ^ 1074 = (i * 2 ^ 20).natAbs * 2 ^ 1054 * 1 := by
      rw [Int.natAbs_mul, show ((2 : Int) ^ 20).natAbs = 2 ^ 20 by decide, Nat.mul_one, Nat.mul_assoc, ← Nat.pow_add]
    rw [← e]; exact hr
  · apply decide_eq_decide.mpr; omega

theorem fq_zero (b : Bool) : FQ (zero b) 0 := by
  obtain ⟨m, e, hd, hv⟩ := decode_pack b (t := 0) (by decide)
  refine ⟨b, m, e, hd, ?_⟩
  show val (pack b 0) = _
  rw [val_pack b (by decide), V_zero]; unfold sgn; cases b <;> simp

theorem fq_add {x y : UInt64} {a b : Int} (hx : FQ x a) (hy : FQ y b) (h : (a + b).natAbs < 2 ^ 53) : FQ (add x y) (a + b) := by
  obtain ⟨sa, ma, ea, hdx, hvx⟩ := hx
  obtain ⟨sb, mb, eb, hdy, hvy⟩ := hy
  have hr := add_right hdx hdy
  have e : val x + val y = (a + b) * ((2 ^ 1054 : Nat) : Int) := by rw [hvx, hvy, Int.add_mul]
  rw [e] at hr
  by_cases h0 : a + b = 0
  · rw [hr.1 (by rw [h0, Int.zero_mul]), h0]; exact fq_zero _
  · have hne : (a + b) * ((2 ^ 1054 : Nat) : Int) ≠ 0 := fun q => by
      rcases Int.mul_eq_zero.mp q with q | q
      · exact h0 q
      · have := U_pos; omega
    have h1 := hr.2 hne
    rw [natAbs_U] at h1
    refine fq_of_right (D := 1) (by rw [Nat.mul_one]; exact h1) (by decide) h (fun _ => ?_)
    exact decide_eq_decide.mpr (mulU_lt _)

theorem fq_neg {y : UInt64} {b : Int} (hy : FQ y b) : FQ (neg y) (-b) := by
  obtain ⟨sb, mb, eb, hdy, hvy⟩ := hy
  exact ⟨_, _, _, neg_decode hdy, by rw [neg_val hdy, hvy, Int.neg_mul]⟩

theorem fq_sub {x y : UInt64} {a b : Int} (hx : FQ x a) (hy : FQ y b) (h : (a - b).natAbs < 2 ^ 53) : FQ (Float64.sub x y) (a - b) := by
  unfold Float64.sub
  have := fq_add hx (fq_neg hy) (by rw [← Int.sub_eq_add_neg]; exact h)
  rw [← Int.sub_eq_add_neg] at this
  exact this

theorem sign_of {x : UInt64} {s : Bool} {m : Nat} {e : Int} {a : Int} (hd : decode x = .fin s m e) (hv : val x = a * ((2 ^ 1054 : Nat) : Int)) (h0 : a ≠ 0) : s = decide (a < 0) := by
  rw [val_eq hd] at hv
  have hU := U_pos
  cases s
  · have h1 : ¬ a < 0 := by
      intro h
      have := (mulU_lt a).mpr h
      rw [← hv] at this
      unfold sgn at this
      simp only [Bool.false_eq_true, if_false] at this
      omega
    rw [decide_eq_false h1]
  · have h1 : a < 0 := by
      by_cases h : a < 0
      · exact h
      · exfalso
        have h2 : 0 < a := by omega
        have := Int.mul_pos h2 hU
        rw [← hv] at this
        unfold sgn at this
        simp only [if_true] at this
        omega
    rw [decide_eq_true h1]

theorem fq_mul {x y : UInt64} {a b : Int} (c : Int) (hx : FQ x a) (hy : FQ y b) (hc : a * b = c * 2 ^ 20) (h : c.natAbs < 2 ^ 53) : FQ (mul x y) c := by
  obtain ⟨sa, ma, ea, hdx, hvx⟩ := hx
  obtain ⟨sb, mb, eb, hdy, hvy⟩ := hy
  have hr := mul_right hdx hdy
  rw [hvx, hvy, natAbs_U, natAbs_U] at hr
  have hn : a.natAbs * b.natAbs = c.natAbs * 2 ^ 20 := by
    rw [← Int.natAbs_mul, hc, Int.natAbs_mul]; rfl
  have e : a.natAbs * 2 ^ 1054 * (b.natAbs * 2 ^ 1054) = c.natAbs * 2 ^ 1054 * 2 ^ 1074 := by
    have e2 : (2 : Nat) ^ 1074 = 2 ^ 20 * 2 ^ 1054 := by rw [← Nat.pow_add]
    rw [e2]
    calc a.natAbs * 2 ^ 1054 * (b.natAbs * 2 ^ 1054) = a.natAbs * b.natAbs * (2 ^ 1054 * 2 ^ 1054) := by (generalize (2 : Nat) ^ 1054 = UU; ac_rfl)
      _ = c.natAbs * 2 ^ 20 * (2 ^ 1054 * 2 ^ 1054) := by rw [hn]
      _ = c.natAbs * 2 ^ 1054 * (2 ^ 20 * 2 ^ 1054) := by (generalize (2 : Nat) ^ 1054 = UU; ac_rfl)
  rw [e] at hr
  refine fq_of_right hr (Nat.two_pow_pos _) h (fun h0 => ?_)
  have ha0 : a ≠ 0 := by intro q; rw [q, Int.zero_mul] at hc; omega
  have hb0 : b ≠ 0 := by intro q; rw [q, Int.mul_zero] at hc; omega
  rw [sign_of hdx hvx ha0, sign_of hdy hvy hb0]
  have hlt : c < 0 ↔ a * b < 0 := by omega
  rcases Int.lt_or_gt_of_ne ha0 with h1 | h1 <;> rcases Int.lt_or_gt_of_ne hb0 with h2 | h2
  · have := Int.mul_pos_of_neg_of_neg h1 h2
    rw [decide_eq_true h1, decide_eq_true h2, decide_eq_false (by omega)]; rfl
  · have := Int.mul_neg_of_neg_of_pos h1 h2
    rw [decide_eq_true h1, decide_eq_false (by omega : ¬ b < 0), decide_eq_true (by omega : c < 0)]; rfl
  · have := Int.mul_neg_of_pos_of_neg h1 h2
    rw [decide_eq_false (by omega : ¬ a < 0), decide_eq_true h2, decide_eq_true (by omega : c < 0)]; rfl
  · have := Int.mul_pos h1 h2
    rw [decide_eq_false (by omega : ¬ a < 0), decide_eq_false (by omega : ¬ b < 0), decide_eq_false (by omega : ¬ c < 0)]; rfl

theorem fq_div {x y : UInt64} {a b : Int} (c : Int) (hx : FQ x a) (hy : FQ y b) (hb : b ≠ 0) (hc : a * 2 ^ 20 = c * b) (h : c.natAbs < 2 ^ 53) : FQ (div x y) c := by
  obtain ⟨sa, ma, ea, hdx, hvx⟩ := hx
  obtain ⟨sb, mb, eb, hdy, hvy⟩ := hy
  have hmb : mb ≠ 0 := by
    intro q
    rw [val_eq hdy, q, Nat.zero_mul] at hvy
    have h0 : b * ((2 ^ 1054 : Nat) : Int) = 0 := by rw [← hvy]; unfold sgn; cases sb <;> simp
    rcases Int.mul_eq_zero.mp h0 with q | q
    · exact hb q
    · have := U_pos; omega
  have hr := div_right hdx hdy hmb
  rw [hvx, hvy, natAbs_U, natAbs_U] at hr
  have hn : a.natAbs * 2 ^ 20 = c.natAbs * b.natAbs := by
    have : (a * 2 ^ 20).natAbs = (c * b).natAbs := by rw [hc]
    rw [Int.natAbs_mul, Int.natAbs_mul] at this
    exact this
  have e : a.natAbs * 2 ^ 1054 * 2 ^ 1074 = c.natAbs * 2 ^ 1054 * (b.natAbs * 2 ^ 1054) := by
    have e2 : (2 : Nat) ^ 1074 = 2 ^ 20 * 2 ^ 1054 := by rw [← Nat.pow_add]
    rw [e2]
    calc a.natAbs * 2 ^ 1054 * (2 ^ 20 * 2 ^ 1054) = a.natAbs * 2 ^ 20 * (2 ^ 1054 * 2 ^ 1054) := by (generalize (2 : Nat) ^ 1054 = UU; ac_rfl)
      _ = c.natAbs * b.natAbs * (2 ^ 1054 * 2 ^ 1054) := by rw [hn]
      _ = c.natAbs * 2 ^ 1054 * (b.natAbs * 2 ^ 1054) := by (generalize (2 : Nat) ^ 1054 = UU; ac_rfl)
  rw [e] at hr
  refine fq_of_right hr (Nat.mul_pos (by omega) (Nat.two_pow_pos _)) h (fun h0 => ?_)
  have ha0 : a ≠ 0 := by
    intro q; rw [q, Int.zero_mul] at hc
    rcases Int.mul_eq_zero.mp hc.symm with q | q
    · exact h0 q
    · exact hb q
  rw [sign_of hdx hvx ha0, sign_of hdy hvy hb]
  rcases Int.lt_or_gt_of_ne h0 with h1 | h1 <;> rcases Int.lt_or_gt_of_ne hb with h2 | h2
  · have := Int.mul_pos_of_neg_of_neg h1 h2
    rw [decide_eq_true h1, decide_eq_true h2, decide_eq_false (by omega : ¬ a < 0)]; rfl
  · have := Int.mul_neg_of_neg_of_pos h1 h2
    rw [decide_eq_true h1, decide_eq_false (by omega : ¬ b < 0), decide_eq_true (by omega : a < 0)]; rfl
  · have := Int.mul_neg_of_pos_of_neg h1 h2
    rw [decide_eq_false (by omega : ¬ c < 0), decide_eq_true h2, decide_eq_true (by omega : a < 0)]; rfl
  · have := Int.mul_pos h1 h2
    rw [decide_eq_false (by omega : ¬ c < 0), decide_eq_false (by omega : ¬ b < 0), decide_eq_false (by omega : ¬ a < 0)]; rfl

theorem cmpU (a b : Int) : compare (a * ((2 ^ 1054 : Nat) : Int)) (b * ((2 ^ 1054 : Nat) : Int)) = compare a b := by
  have hU := U_pos
  generalize ((2 ^ 1054 : Nat) : Int) = U at hU ⊢
  rcases Int.lt_trichotomy a b with h | h | h
  · rw [Int.compare_eq_lt.mpr h, Int.compare_eq_lt.mpr (Int.mul_lt_mul_of_pos_right h hU)]
  · subst h; simp
  · rw [Int.compare_eq_gt.mpr h, Int.compare_eq_gt.mpr (Int.mul_lt_mul_of_pos_right h hU)]

theorem fq_cmp {x y : UInt64} {a b : Int} (hx : FQ x a) (hy : FQ y b) : cmp x y = some (compare a b) := by
  obtain ⟨sa, ma, ea, hdx, hvx⟩ := hx
  obtain ⟨sb, mb, eb, hdy, hvy⟩ := hy
  rw [cmp_right hdx hdy, hvx, hvy, cmpU]

theorem fq_cmpInt {x : UInt64} {a : Int} (hx : FQ x a) (i : Int) : cmpInt x i = some (compare a (i * 2 ^ 20)) := by
  obtain ⟨sa, ma, ea, hdx, hvx⟩ := hx
  rw [cmpInt_right hdx, hvx]
  have e : i * 2 ^ 1074 = i * 2 ^ 20 * ((2 ^ 1054 : Nat) : Int) := by
    rw [Int.mul_assoc, Int.natCast_pow, show ((2 : Nat) : Int) = 2 from rfl, ← Int.pow_add]
  rw [e, cmpU]

theorem cmp_eqT {a b : Int} : (some (compare a b) == some Ordering.eq) = decide (a = b) := by
  rcases Int.lt_trichotomy a b with h | h | h
  · rw [Int.compare_eq_lt.mpr h, decide_eq_false (by omega)]; rfl
  · subst h; simp
  · rw [Int.compare_eq_gt.mpr h, decide_eq_false (by omega)]; rfl
theorem cmp_ltT {a b : Int} : (some (compare a b) == some Ordering.lt) = decide (a < b) := by
  rcases Int.lt_trichotomy a b with h | h | h
  · rw [Int.compare_eq_lt.mpr h, decide_eq_true h]; rfl
  · subst h; simp
  · rw [Int.compare_eq_gt.mpr h, decide_eq_false (by omega)]; rfl
theorem cmp_gtT {a b : Int} : (some (compare a b) == some Ordering.gt) = decide (b < a) := by
  rcases Int.lt_trichotomy a b with h | h | h
  · rw [Int.compare_eq_lt.mpr h, decide_eq_false (by omega)]; rfl
  · subst h; simp
  · rw [Int.compare_eq_gt.mpr h, decide_eq_true h]; rfl

theorem fq_finite {x : UInt64} {a : Int} (hx : FQ x a) : Float64.isFinite x = true ∧ Float64.isNaN x = false ∧ Float64.isInf x = false := by
  obtain ⟨sa, ma, ea, hdx, _⟩ := hx
  unfold Float64.isFinite Float64.isNaN Float64.isInf
  rw [hdx]; exact ⟨rfl, rfl, rfl⟩

theorem fq_isZero {x : UInt64} {a : Int} (hx : FQ x a) : isZero x = decide (a = 0) := by
  obtain ⟨sa, ma, ea, hdx, hvx⟩ := hx
  have hU := U_pos
  unfold isZero
  rw [hdx]
  rw [val_eq hdx] at hvx
  cases ma with
  | zero =>
    have h0 : a * ((2 ^ 1054 : Nat) : Int) = 0 := by rw [← hvx, Nat.zero_mul]; unfold sgn; cases sa <;> simp
    rcases Int.mul_eq_zero.mp h0 with q | q
    · simp [q]
    · omega
  | succ k =>
    have : a ≠ 0 := by
      intro q
      rw [q, Int.zero_mul] at hvx
      have := congrArg Int.natAbs hvx
      rw [sgn_natAbs] at this
      have h2 := Nat.mul_pos (Nat.succ_pos k) (Nat.two_pow_pos (ea + 1074).toNat)
      have h3 : (k + 1) * 2 ^ (ea + 1074).toNat = 0 := this
      rw [Nat.succ_eq_add_one, h3] at h2
      exact absurd h2 (Nat.lt_irrefl 0)
    simp [this]

theorem nat_lo {e : Int} (h : 0 ≤ e) : (e + 1074).toNat = e.toNat + 1074 := by omega
theorem nat_hi {e : Int} (h : ¬ 0 ≤ e) (hg : -1074 ≤ e) : 1054 + 20 = (e + 1074).toNat + (-e).toNat := by omega
theorem abs_nat {a : Int} (h : 0 ≤ a) : a.natAbs = a.toNat := by omega
theorem fq_trunc {x : UInt64} {a : Int} (hx : FQ x a) (ha : 0 ≤ a) : Flt.toInt truncOf x = a / 2 ^ 20 := by
  obtain ⟨sa, ma, ea, hdx, hvx⟩ := hx
  unfold Flt.toInt
  rw [hdx]
  show truncOf sa ma ea = _
  have hge := decode_ge hdx
  rw [val_eq hdx] at hvx
  have hnat : ma * 2 ^ (ea + 1074).toNat = a.toNat * 2 ^ 1054 := by
    have := congrArg Int.natAbs hvx
    rw [sgn_natAbs, natAbs_U] at this
    rw [this, abs_nat ha]
  have hz : sa = true → ma = 0 := by
    intro h
    subst h
    have hU := U_pos
    have h1 := Int.mul_nonneg ha (Int.le_of_lt hU)
    rw [← hvx] at h1
    unfold sgn at h1
    simp only [if_true] at h1
    have h2 : ma * 2 ^ (ea + 1074).toNat = 0 := by omega
    rcases Nat.mul_eq_zero.mp h2 with q | q
    · exact q
    · exact absurd q (Nat.ne_of_gt (Nat.two_pow_pos _))
  have key : floorOf false ma ea = a / 2 ^ 20 := by
    unfold floorOf
    have ea' : (a.toNat : Int) = a := Int.toNat_of_nonneg ha
    split
    · rename_i h
      have e1 : (ea + 1074).toNat = ea.toNat + 1074 := nat_lo h
      rw [e1, Nat.pow_add, show (2 : Nat) ^ 1074 = 2 ^ 20 * 2 ^ 1054 by rw [← Nat.pow_add]] at hnat
      have h2 : ma * 2 ^ ea.toNat * 2 ^ 20 = a.toNat := Nat.eq_of_mul_eq_mul_right (Nat.two_pow_pos 1054) (by (rw [← hnat]; generalize (2 : Nat) ^ 1054 = UU; ac_rfl))
      unfold sgn
      simp only [Bool.false_eq_true, if_false]
      have h3 : ((ma : Int) * 2 ^ ea.toNat) * 2 ^ 20 = a := by
        rw [← ea', ← h2]; simp [Int.natCast_mul, Int.natCast_pow]
      rw [← h3]; omega
    · rename_i h
      unfold sgn
      simp only [Bool.false_eq_true, if_false]
      have e1 : 1054 + 20 = (ea + 1074).toNat + (-ea).toNat := nat_hi h hge
      have h2 : ma * 2 ^ 20 = a.toNat * 2 ^ (-ea).toNat := by
        refine Nat.eq_of_mul_eq_mul_right (Nat.two_pow_pos (ea + 1074).toNat) ?_
        calc ma * 2 ^ 20 * 2 ^ (ea + 1074).toNat = ma * 2 ^ (ea + 1074).toNat * 2 ^ 20 := by (generalize (2 : Nat) ^ 1054 = UU; ac_rfl)
          _ = a.toNat * (2 ^ 1054 * 2 ^ 20) := by rw [hnat, Nat.mul_assoc]
          _ = a.toNat * (2 ^ (ea + 1074).toNat * 2 ^ (-ea).toNat) := by rw [← Nat.pow_add, e1, Nat.pow_add]
          _ = a.toNat * 2 ^ (-ea).toNat * 2 ^ (ea + 1074).toNat := by (generalize (2 : Nat) ^ 1054 = UU; ac_rfl)
      have h3 : ma / 2 ^ (-ea).toNat = a.toNat / 2 ^ 20 := by
        have hp := Nat.two_pow_pos (-ea).toNat
        have h4 : ma / 2 ^ (-ea).toNat = (ma * 2 ^ 20) / (2 ^ (-ea).toNat * 2 ^ 20) := by rw [Nat.mul_div_mul_right _ _ (by decide)]
        rw [h4, h2, Nat.mul_comm (2 ^ (-ea).toNat) (2 ^ 20), Nat.mul_div_mul_right _ _ hp]
      have h5 : ((ma : Int)).fdiv (2 ^ (-ea).toNat) = ((ma / 2 ^ (-ea).toNat : Nat) : Int) := by
        rw [show ((2 : Int) ^ (-ea).toNat) = ((2 ^ (-ea).toNat : Nat) : Int) by simp]
        exact (Int.ofNat_fdiv _ _).symm
      rw [h5, h3]
      omega
  unfold truncOf
  cases hs : sa with
  | false => simpa using key
  | true =>
    have hm := hz hs
    subst hm
    have h0 : a.toNat * 2 ^ 1054 = 0 := by rw [← hnat, Nat.zero_mul]
    have h1 : a.toNat = 0 := by
      rcases Nat.mul_eq_zero.mp h0 with q | q
      · exact q
      · exact absurd q (Nat.ne_of_gt (Nat.two_pow_pos _))
    have h2 : a = 0 := by omega
    simp only [if_true]
    unfold ceilOf floorOf
    rw [h2]
    simp [sgn]

theorem fq_ofFrac {a : Int} {d : Nat} (c : Int) (ha : 0 ≤ a) (hd : 0 < d) (hc : a * 2 ^ 20 = c * d) (h : c.natAbs < 2 ^ 53) : FQ (ofFrac false a.natAbs d) c := by
  have hc0 : 0 ≤ c := by
    by_cases q : 0 ≤ c
    · exact q
    · exfalso
      have := Int.mul_neg_of_neg_of_pos (show c < 0 by omega) (show (0 : Int) < d by omega)
      omega
  refine fq_of_right (D := 1) (neg := false) (ofFrac_right hd (W := c.natAbs * 2 ^ 1054 * 1) ?_ (by decide)) (by decide) h (fun _ => by rw [decide_eq_false (by omega)])
  have hn : a.natAbs * 2 ^ 20 = c.natAbs * d := by
    have : (a * 2 ^ 20).natAbs = (c * d).natAbs := by rw [hc]
    rw [Int.natAbs_mul, Int.natAbs_mul, Int.natAbs_natCast] at this
    exact this
  have e2 : (2 : Nat) ^ 1074 = 2 ^ 20 * 2 ^ 1054 := by rw [← Nat.pow_add]
  rw [e2]
  calc a.natAbs * (2 ^ 20 * 2 ^ 1054) * 1 = a.natAbs * 2 ^ 20 * 2 ^ 1054 := by (generalize (2 : Nat) ^ 1054 = UU; ac_rfl)
    _ = c.natAbs * d * 2 ^ 1054 := by rw [hn]
    _ = c.natAbs * 2 ^ 1054 * 1 * d := by (generalize (2 : Nat) ^ 1054 = UU; ac_rfl)

theorem min_pow {a m : Int} (h : m ≤ a) (hm : -1074 ≤ m) : (a - m).toNat + (m + 1074).toNat = (a + 1074).toNat := by omega
theorem tmod_sign {a b : Int} (h0 : a.tmod b ≠ 0) (hb : 0 < b) : decide (a < 0) = decide (a.tmod b < 0) := by
  apply decide_eq_decide.mpr
  by_cases hp : 0 ≤ a
  · exact ⟨fun h => absurd hp (Int.not_le.mpr h), fun h => absurd (Int.tmod_nonneg b hp) (Int.not_le.mpr h)⟩
  · have h1 := Int.tmod_nonneg b (show 0 ≤ -a from Int.neg_nonneg.mpr (Int.le_of_lt (Int.not_le.mp hp)))
    rw [Int.neg_tmod] at h1
    have h2 : a.tmod b ≤ 0 := Int.neg_nonneg.mp h1
    exact ⟨fun _ => Int.lt_iff_le_and_ne.mpr ⟨h2, h0⟩, fun _ => Int.not_le.mp hp⟩
theorem fq_fmod {x y : UInt64} {a b : Int} (hx : FQ x a) (hy : FQ y b) (hb : 0 < b) (hab : a.natAbs < 2 ^ 53) : FQ (fmod x y) (a.tmod b) := by
  obtain ⟨sa, ma, ea, hdx, hvx⟩ := hx
  obtain ⟨sb, mb, eb, hdy, hvy⟩ := hy
  have hmb : mb ≠ 0 := by
    intro q
    rw [val_eq hdy, q, Nat.zero_mul] at hvy
    have h0 : b * ((2 ^ 1054 : Nat) : Int) = 0 := by rw [← hvy]; unfold sgn; cases sb <;> simp
    rcases Int.mul_eq_zero.mp h0 with q | q
    · omega
    · have := U_pos; omega
  have he := decode_ge hdx
  have hf := decode_ge hdy
  have h1 : fmod x y = ofBin sa ((ma * 2 ^ (ea - min ea eb).toNat) % (mb * 2 ^ (eb - min ea eb).toNat)) (min ea eb) := by
    unfold fmod
    rw [hdx, hdy]
    simp only
    rw [if_neg (by simpa using hmb)]
    unfold align sgn
    simp only [Bool.false_eq_true, if_false, Int.toNat_natCast]
  rw [h1]
  have hr := ofBin_right (neg := sa) (M := (ma * 2 ^ (ea - min ea eb).toNat) % (mb * 2 ^ (eb - min ea eb).toNat)) (g := min ea eb) (by omega)
  have hX : ma * 2 ^ (ea + 1074).toNat = a.natAbs * 2 ^ 1054 := by
    have := congrArg Int.natAbs hvx
    rw [val_natAbs hdx, natAbs_U] at this
    exact this
  have hY : mb * 2 ^ (eb + 1074).toNat = b.natAbs * 2 ^ 1054 := by
    have := congrArg Int.natAbs hvy
    rw [val_natAbs hdy, natAbs_U] at this
    exact this
  have eM : (ma * 2 ^ (ea - min ea eb).toNat) % (mb * 2 ^ (eb - min ea eb).toNat) * 2 ^ (min ea eb + 1074).toNat = (a.tmod b).natAbs * 2 ^ 1054 * 1 := by
    rw [← Nat.mul_mod_mul_right, Nat.mul_assoc, Nat.mul_assoc, ← Nat.pow_add, ← Nat.pow_add]
    have hm : -1074 ≤ min ea eb := Int.le_min.mpr ⟨he, hf⟩
    rw [min_pow (Int.min_le_left ea eb) hm, min_pow (Int.min_le_right ea eb) hm, hX, hY, Nat.mul_mod_mul_right, Int.natAbs_tmod, Nat.mul_one]
  rw [eM] at hr
  have hlt : (a.tmod b).natAbs ≤ a.natAbs := by rw [Int.natAbs_tmod]; exact Nat.mod_le _ _
  refine fq_of_right hr (by decide) (by omega) (fun h0 => ?_)
  have ha0 : a ≠ 0 := by intro q; rw [q, Int.zero_tmod] at h0; exact h0 rfl
  rw [sign_of hdx hvx ha0]
  exact tmod_sign h0 hb

theorem fq_mod {x y : UInt64} {a b : Int} (hx : FQ x a) (hy : FQ y b) (hb : 0 < b) (hab : a.natAbs < 2 ^ 53) (hbb : b.natAbs < 2 ^ 53) : FQ (divmod x y).2 (a % b) := by
  have hm := fq_fmod hx hy hb hab
  have hz := fq_isZero hm
  have e0 : (divmod x y).2 = (if Float64.isZero (fmod x y) then copysign (zero false) y else if (Float64.lt y (zero false) != Float64.lt (fmod x y) (zero false)) = true then add (fmod x y) y else fmod x y) := by
    unfold divmod
    simp only
    split
    · rfl
    · split <;> rfl
  rw [e0, hz]
  have hab' : a.tmod b = if 0 ≤ a then a % b else if a % b = 0 then 0 else a % b - b := by
    split
    · rw [Int.tmod_eq_emod_of_nonneg (by assumption)]
    · have h2 : a.tmod b = -((-a).tmod b) := by rw [Int.neg_tmod]; omega
      rw [h2, Int.tmod_eq_emod_of_nonneg (by omega)]
      have h3 := Int.emod_nonneg a (Int.ne_of_gt hb)
      have h4 := Int.emod_lt_of_pos a hb
      have h5 : (-a) % b = if a % b = 0 then 0 else b - a % b := by
        split
        · rename_i h6
          rw [Int.neg_emod, if_pos (Int.dvd_of_emod_eq_zero h6)]
        · rename_i h6
          rw [Int.neg_emod, if_neg (fun h7 => h6 (Int.emod_eq_zero_of_dvd h7))]; omega
      rw [h5]
      split <;> omega
  have h3 := Int.emod_nonneg a (Int.ne_of_gt hb)
  have h4 := Int.emod_lt_of_pos a hb
  by_cases h0 : a.tmod b = 0
  · rw [decide_eq_true h0, if_pos rfl]
    have h5 : a % b = 0 := by rw [h0] at hab'; split at hab' <;> (try split at hab') <;> omega
    rw [h5]
    unfold copysign
    rw [if_neg (by rw [(fq_finite (fq_zero false)).2.1]; decide)]
    have h6 : (zero false).toNat % 2 ^ 63 = 0 := by decide +kernel
    rw [h6]
    exact fq_zero _
  · rw [decide_eq_false h0, if_neg (by decide)]
    have hl1 : Float64.lt y (zero false) = false := by
      unfold Float64.lt
      rw [fq_cmp hy (fq_zero false), cmp_ltT, decide_eq_false (by omega)]
    have hl2 : Float64.lt (fmod x y) (zero false) = decide (a.tmod b < 0) := by
      unfold Float64.lt
      rw [fq_cmp hm (fq_zero false), cmp_ltT]
    rw [hl1, hl2]
    by_cases hn : a.tmod b < 0
    · rw [decide_eq_true hn, if_pos (by decide)]
      have h5 : a % b = a.tmod b + b := by rw [hab'] at hn ⊢; split <;> (try split) <;> simp_all <;> omega
      rw [h5]
      exact fq_add hm hy (by rw [← h5]; omega)
    · rw [decide_eq_false hn, if_neg (by decide)]
      have h5 : a % b = a.tmod b := by rw [hab'] at hn h0 ⊢; split <;> (try split) <;> simp_all <;> omega
      rw [h5]
      exact hm

theorem fq_lit6 : FQ 4618441417868443648 (6 * 2 ^ 20) := by
  have e : (4618441417868443648 : UInt64) = ofInt 6 := by decide +kernel
  rw [e]; exact fq_ofInt (by decide)
theorem fq_lit1 : FQ 4607182418800017408 (1 * 2 ^ 20) := by
  have e : (4607182418800017408 : UInt64) = ofInt 1 := by decide +kernel
  rw [e]; exact fq_ofInt (by decide)
theorem fq_lit2 : FQ 4611686018427387904 (2 * 2 ^ 20) := by
  have e : (4611686018427387904 : UInt64) = ofInt 2 := by decide +kernel
  rw [e]; exact fq_ofInt (by decide)
theorem fq_lit4 : FQ 4616189618054758400 (4 * 2 ^ 20) := by
  have e : (4616189618054758400 : UInt64) = ofInt 4 := by decide +kernel
  rw [e]; exact fq_ofInt (by decide)
theorem fq_lit0 : FQ 0 0 := by
  have e : (0 : UInt64) = zero false := by decide +kernel
  rw [e]; exact fq_zero false
end Mine
end
section
open PySem PySem.W PyProof.Rows
namespace Mine
open PySem.Flt
def fmax2 (x y : UInt64) : UInt64 := if (Float64.cmp x y == some .lt) = true then y else x
def fmin2 (x y : UInt64) : UInt64 := if (Float64.cmp y x == some .lt) = true then y else x
def fmax3 (x y z : UInt64) : UInt64 := fmax2 (fmax2 x y) z
def fmin3 (x y z : UInt64) : UInt64 := fmin2 (fmin2 x y) z
theorem max_three_ff {prog : Program} {w : World} {A : Around} {E : Value → Shared → Prop} {s : Shared} {Q : Value → Shared → Prop} {x y z : UInt64} {t u v : Tok} {h₀ : Heap} {L : Addr} {m : Str → Option Value} {news : List (Addr × Obj)}
    (hh : A.handled = none) (F : Fr h₀ L s.heap m) (N : News h₀ L s.heap news)
    (h : ∀ h' tk r, (r = t ∨ r = u ∨ r = v) → Fr h₀ L h' m → News h₀ L h' news → Q (.float (fmax3 x y z) r) { s with heap := h', toks := tk }) :
    wpAny (model prog w) A (call (.builtin "max") [.float x t, .float y u, .float z v]) Q E s := by
  have hT : (s.heap.push { cls := .type "tuple", data := .seq #[.float x t, .float y u, .float z v] }).IsTuple s.heap.objs.size #[.float x t, .float y u, .float z v] := ⟨_, Heap.get?_push_size _ rfl, rfl, 0, rfl⟩
  refine call_max_three (wpAny_pyIter_tuple hT ?_)
  have hsz : (s.heap.push { cls := .type "tuple", data := .seq #[.float x t, .float y u, .float z v] }).objs.size = s.heap.objs.size + 1 := Heap.size_push ..
  refine ⟨_, [_, s.heap.objs.size], [_], _, _, _, _, rfl, Walks.tuple (A := A.in1) hh _ s.heap.objs.size (by rw [hsz]; exact Nat.ne_of_lt (Nat.lt_succ_self _)) #[.float x t, .float y u, .float z v],
    ⟨⟨_, Heap.get?_push_size _ rfl, rfl, rfl⟩, hT.push _⟩, fun c hc => ?_, by simp, cmpOf_gt #[.float x t, .float y u, .float z v] (by simp [NumV.float]), fun r h' tk hP hk => ?_⟩
  · show c < ((s.heap.push _).push _).objs.size
    rw [Heap.size_push, hsz]
    rcases List.mem_cons.mp hc with rfl | hc
    · rw [hsz]; exact Nat.lt_succ_self _
    · rcases List.mem_cons.mp hc with rfl | hc
      · exact Nat.lt_succ_of_lt (Nat.lt_succ_self _)
      · cases hc
  · have hold : ∀ c o, s.heap.get? c = some o → h'.get? c = some o := fun c o e => by
      refine hk c o (fun hm => ?_) (Heap.get?_push_of_some _ (Heap.get?_push_of_some _ e))
      rcases List.mem_cons.mp hm with e1 | hm
      · have := Heap.lt_size e; rw [e1, hsz] at this; exact Nat.lt_irrefl _ (Nat.lt_of_succ_lt this)
      · cases hm
    have hv : ∃ q, r = .float (fmax3 x y z) q ∧ (q = t ∨ q = u ∨ q = v) := by
      unfold fmax3 fmax2
      cases c1 : (Float64.cmp x y == some .lt) <;> cases c2 : (Float64.cmp x z == some .lt) <;> cases c3 : (Float64.cmp y z == some .lt) <;> simp [argBest, ltV, c1, c2, c3] at hP <;> simp [c1, c2, c3, ← hP]
    obtain ⟨q, rfl, hq⟩ := hv
    exact h h' tk q hq (F.grownK hold) (N.grown hold)
theorem min_three_ff {prog : Program} {w : World} {A : Around} {E : Value → Shared → Prop} {s : Shared} {Q : Value → Shared → Prop} {x y z : UInt64} {t u v : Tok} {h₀ : Heap} {L : Addr} {m : Str → Option Value} {news : List (Addr × Obj)}
    (hh : A.handled = none) (F : Fr h₀ L s.heap m) (N : News h₀ L s.heap news)
    (h : ∀ h' tk r, (r = t ∨ r = u ∨ r = v) → Fr h₀ L h' m → News h₀ L h' news → Q (.float (fmin3 x y z) r) { s with heap := h', toks := tk }) :
    wpAny (model prog w) A (call (.builtin "min") [.float x t, .float y u, .float z v]) Q E s := by
  have hT : (s.heap.push { cls := .type "tuple", data := .seq #[.float x t, .float y u, .float z v] }).IsTuple s.heap.objs.size #[.float x t, .float y u, .float z v] := ⟨_, Heap.get?_push_size _ rfl, rfl, 0, rfl⟩
  refine call_min_three (wpAny_pyIter_tuple hT ?_)
  have hsz : (s.heap.push { cls := .type "tuple", data := .seq #[.float x t, .float y u, .float z v] }).objs.size = s.heap.objs.size + 1 := Heap.size_push ..
  refine ⟨_, [_, s.heap.objs.size], [_], _, _, _, _, rfl, Walks.tuple (A := A.in1) hh _ s.heap.objs.size (by rw [hsz]; exact Nat.ne_of_lt (Nat.lt_succ_self _)) #[.float x t, .float y u, .float z v],
    ⟨⟨_, Heap.get?_push_size _ rfl, rfl, rfl⟩, hT.push _⟩, fun c hc => ?_, by simp, cmpOf_lt #[.float x t, .float y u, .float z v] (by simp [NumV.float]), fun r h' tk hP hk => ?_⟩
  · show c < ((s.heap.push _).push _).objs.size
    rw [Heap.size_push, hsz]
    rcases List.mem_cons.mp hc with rfl | hc
    · rw [hsz]; exact Nat.lt_succ_self _
    · rcases List.mem_cons.mp hc with rfl | hc
      · exact Nat.lt_succ_of_lt (Nat.lt_succ_self _)
      · cases hc
  · have hold : ∀ c o, s.heap.get? c = some o → h'.get? c = some o := fun c o e => by
      refine hk c o (fun hm => ?_) (Heap.get?_push_of_some _ (Heap.get?_push_of_some _ e))
      rcases List.mem_cons.mp hm with e1 | hm
      · have := Heap.lt_size e; rw [e1, hsz] at this; exact Nat.lt_irrefl _ (Nat.lt_of_succ_lt this)
      · cases hm
    have hv : ∃ q, r = .float (fmin3 x y z) q ∧ (q = t ∨ q = u ∨ q = v) := by
      unfold fmin3 fmin2
      cases c1 : (Float64.cmp y x == some .lt) <;> cases c2 : (Float64.cmp z x == some .lt) <;> cases c3 : (Float64.cmp z y == some .lt) <;> simp [argBest, ltV, c1, c2, c3] at hP <;> simp [c1, c2, c3, ← hP]
    obtain ⟨q, rfl, hq⟩ := hv
    exact h h' tk q hq (F.grownK hold) (N.grown hold)

theorem fq_max2 {x y : UInt64} {a b : Int} (hx : FQ x a) (hy : FQ y b) : FQ (fmax2 x y) (max a b) := by
  unfold fmax2
  rw [fq_cmp hx hy, cmp_ltT]
  by_cases h : a < b
  · rw [decide_eq_true h, if_pos rfl, Int.max_eq_right (by omega)]; exact hy
  · rw [decide_eq_false h, if_neg (by decide), Int.max_eq_left (by omega)]; exact hx
theorem fq_min2 {x y : UInt64} {a b : Int} (hx : FQ x a) (hy : FQ y b) : FQ (fmin2 x y) (min a b) := by
  unfold fmin2
  rw [fq_cmp hy hx, cmp_ltT]
  by_cases h : b < a
  · rw [decide_eq_true h, if_pos rfl, Int.min_eq_right (by omega)]; exact hy
  · rw [decide_eq_false h, if_neg (by decide), Int.min_eq_left (by omega)]; exact hx
theorem fq_max3 {x y z : UInt64} {a b c : Int} (hx : FQ x a) (hy : FQ y b) (hz : FQ z c) : FQ (fmax3 x y z) (max (max a b) c) := fq_max2 (fq_max2 hx hy) hz
theorem fq_min3 {x y z : UInt64} {a b c : Int} (hx : FQ x a) (hy : FQ y b) (hz : FQ z c) : FQ (fmin3 x y z) (min (min a b) c) := fq_min2 (fq_min2 hx hy) hz

/-- the colours' two functions as they reckon -/
def hsvF (h s v : UInt64) : UInt64 × UInt64 × UInt64 :=
  let i := Flt.toInt Float64.truncOf (Float64.mul h 4618441417868443648)
  let f := Float64.sub (Float64.mul h 4618441417868443648) (Float64.ofInt i)
  let p := Float64.mul v (Float64.sub 4607182418800017408 s)
  let q := Float64.mul v (Float64.sub 4607182418800017408 (Float64.mul s f))
  let t := Float64.mul v (Float64.sub 4607182418800017408 (Float64.mul s (Float64.sub 4607182418800017408 f)))
  if i.fmod 6 = 0 then (v, t, p) else if i.fmod 6 = 1 then (q, v, p) else if i.fmod 6 = 2 then (p, v, t) else if i.fmod 6 = 3 then (p, q, v) else if i.fmod 6 = 4 then (t, p, v) else (v, p, q)
def rgbF (r g b : UInt64) : UInt64 × UInt64 × UInt64 :=
  let maxc := fmax3 r g b
  let minc := fmin3 r g b
  let rangec := Float64.sub maxc minc
  let rc := Float64.div (Float64.sub maxc r) rangec
  let gc := Float64.div (Float64.sub maxc g) rangec
  let bc := Float64.div (Float64.sub maxc b) rangec
  let h := if (Float64.cmp r maxc == some .eq) = true then Float64.sub bc gc else if (Float64.cmp g maxc == some .eq) = true then Float64.sub (Float64.add 4611686018427387904 rc) bc else Float64.sub (Float64.add 4616189618054758400 gc) rc
  ((Float64.divmod (Float64.div h 4618441417868443648) 4607182418800017408).2, Float64.div rangec maxc, maxc)
end Mine
end
section
open PySem PySem.W PyProof.Rows
namespace Mine
theorem FQ.as {x : UInt64} {a : Int} (h : FQ x a) (b : Int) (e : a = b) : FQ x b := e ▸ h
theorem mulb {x y a b : Int} (hx : 0 ≤ x ∧ x ≤ a) (hy : 0 ≤ y ∧ y ≤ b) : 0 ≤ x * y ∧ x * y ≤ a * b :=
  ⟨Int.mul_nonneg hx.1 hy.1, Int.mul_le_mul hx.2 hy.2 hy.1 (by omega)⟩

theorem mmc (a b c d : Int) : a * b * (c * d) = a * c * (b * d) := by rw [Int.mul_assoc, Int.mul_left_comm b, ← Int.mul_assoc]
theorem nat53k {x a k : Int} (h : 0 ≤ x ∧ x ≤ a) (hk : 0 ≤ k) (hN : a * k < 2 ^ 53) : (x * k).natAbs < 2 ^ 53 := by
  have h1 := Int.mul_nonneg h.1 hk
  have h2 := Int.mul_le_mul_of_nonneg_right h.2 hk
  omega
/-- how far the three parts lie below the value, in 256ths of the saturation's share -/
def colX (n : Int) : Int × Int × Int :=
  if 3 * n / 256 % 6 = 0 then (0, 256 - 3 * n % 256, 256) else if 3 * n / 256 % 6 = 1 then (3 * n % 256, 0, 256) else if 3 * n / 256 % 6 = 2 then (256, 0, 256 - 3 * n % 256)
  else if 3 * n / 256 % 6 = 3 then (256, 3 * n % 256, 0) else if 3 * n / 256 % 6 = 4 then (256 - 3 * n % 256, 256, 0) else (0, 256, 3 * n % 256)

theorem hsv_six {h : UInt64} {n : Int} (hh : FQ h (n * 2 ^ 11)) (hn : 0 ≤ n ∧ n < 1024) :
    FQ (Float64.mul h 4618441417868443648) (n * 12288) ∧ Flt.toInt Float64.truncOf (Float64.mul h 4618441417868443648) = 3 * n / 256 := by
  have h1 : FQ (Float64.mul h 4618441417868443648) (n * 12288) := fq_mul (n * 12288) hh fq_lit6 (by omega) (by omega)
  exact ⟨h1, by rw [fq_trunc h1 (by omega)]; omega⟩

theorem hsv_fq {h s v : UInt64} {n share val : Int} (hh : FQ h (n * 2 ^ 11)) (hs : FQ s (share * 2 ^ 18)) (hv : FQ v (val * 2 ^ 17)) (hn : 0 ≤ n ∧ n < 1024) (h1 : 1 ≤ share ∧ share ≤ 4) (h2 : 1 ≤ val ∧ val ≤ 8) :
    FQ (hsvF h s v).1 (val * (1024 - share * (colX n).1) * 2 ^ 7) ∧ FQ (hsvF h s v).2.1 (val * (1024 - share * (colX n).2.1) * 2 ^ 7) ∧ FQ (hsvF h s v).2.2 (val * (1024 - share * (colX n).2.2) * 2 ^ 7) := by
  obtain ⟨q1, e1⟩ := hsv_six hh hn
  have hi : FQ (Float64.ofInt (3 * n / 256)) (3 * n / 256 * 2 ^ 20) := fq_ofInt (by omega)
  have q2 : FQ (Float64.sub (Float64.mul h 4618441417868443648) (Float64.ofInt (3 * n / 256))) (3 * n % 256 * 4096) :=
    (fq_sub q1 hi (by omega)).as _ (by omega)
  have hg : 0 ≤ 3 * n % 256 ∧ 3 * n % 256 ≤ 256 := by omega
  generalize hge : 3 * n % 256 = g at q2 hg
  have b1 := mulb (x := share) (y := g) (a := 4) (b := 256) (by omega) hg
  have b2 := mulb (x := share) (y := 256 - g) (a := 4) (b := 256) (by omega) (by omega)
  have b3 := mulb (x := val) (y := 1024 - share * g) (a := 8) (b := 1024) (by omega) (by omega)
  have b4 := mulb (x := val) (y := 1024 - share * (256 - g)) (a := 8) (b := 1024) (by omega) (by omega)
  have b5 := mulb (x := val) (y := 1024 - share * 256) (a := 8) (b := 1024) (by omega) (by omega)
  have q3 : FQ (Float64.mul s (Float64.sub (Float64.mul h 4618441417868443648) (Float64.ofInt (3 * n / 256)))) (share * g * 1024) :=
    fq_mul _ hs q2 (by rw [mmc, Int.mul_assoc (share * g)]; rfl) (nat53k b1 (by decide) (by decide))
  have q4 : FQ (Float64.sub 4607182418800017408 (Float64.mul s (Float64.sub (Float64.mul h 4618441417868443648) (Float64.ofInt (3 * n / 256))))) ((1024 - share * g) * 1024) :=
    (fq_sub fq_lit1 q3 (by omega)).as _ (by rw [Int.sub_mul]; rfl)
  have q5 := fq_mul (val * (1024 - share * g) * 2 ^ 7) hv q4 (by rw [mmc, Int.mul_assoc (val * (1024 - share * g))]; rfl) (nat53k b3 (by decide) (by decide))
  have q6 : FQ (Float64.sub 4607182418800017408 (Float64.sub (Float64.mul h 4618441417868443648) (Float64.ofInt (3 * n / 256)))) ((256 - g) * 4096) :=
    (fq_sub fq_lit1 q2 (by omega)).as _ (by rw [Int.sub_mul]; rfl)
  have q7 : FQ (Float64.mul s (Float64.sub 4607182418800017408 (Float64.sub (Float64.mul h 4618441417868443648) (Float64.ofInt (3 * n / 256))))) (share * (256 - g) * 1024) :=
    fq_mul _ hs q6 (by rw [mmc, Int.mul_assoc (share * (256 - g))]; rfl) (nat53k b2 (by decide) (by decide))
  have q8 := (fq_sub fq_lit1 q7 (by omega)).as ((1024 - share * (256 - g)) * 1024) (by rw [Int.sub_mul]; rfl)
  have q9 := fq_mul (val * (1024 - share * (256 - g)) * 2 ^ 7) hv q8 (by rw [mmc, Int.mul_assoc (val * (1024 - share * (256 - g)))]; rfl) (nat53k b4 (by decide) (by decide))
  have p1 : FQ (Float64.sub 4607182418800017408 s) ((4 - share) * 2 ^ 18) := (fq_sub fq_lit1 hs (by omega)).as _ (by rw [Int.sub_mul]; rfl)
  have p2 := fq_mul (val * (1024 - share * 256) * 2 ^ 7) hv p1 (by grind) (nat53k b5 (by decide) (by decide))
  have p3 : FQ v (val * (1024 - share * 0) * 2 ^ 7) := hv.as _ (by omega)
  have ef : (3 * n / 256).fmod 6 = 3 * n / 256 % 6 := Int.fmod_eq_emod_of_nonneg _ (by decide)
  unfold hsvF colX
  simp only [e1, ef, hge]
  split
  · exact ⟨p3, q9, p2⟩
  · split
    · exact ⟨q5, p3, p2⟩
    · split
      · exact ⟨p2, p3, q9⟩
      · split
        · exact ⟨p2, q5, p3⟩
        · split
          · exact ⟨q9, p2, p3⟩
          · exact ⟨p3, p2, q5⟩

/-- the hue comes back by a whole turn -/
theorem colX_mod (n : Int) : colX n = colX (n % 512) := by
  have e0 : 3 * n / 256 = 3 * (n % 512) / 256 + 6 * (n / 512) := by omega
  have e1 : 3 * n / 256 % 6 = 3 * (n % 512) / 256 % 6 := by rw [e0, Int.add_mul_emod_self_left]
  have e2 : 3 * n % 256 = 3 * (n % 512) % 256 := by omega
  unfold colX
  rw [e1, e2]
def zT (m : Int) : Int := if 3 * m / 256 = 5 then m - 512 else m
def hueX (X Y Z : Int) : Int := if X = 0 then Z - Y else if Y = 0 then 512 + X - Z else 1024 + Y - X
/-- what the parts say of the hue, place by place -/
def colOK (m : Int) : Bool :=
  let c := colX m
  decide (0 ≤ c.1) && decide (c.1 ≤ 256) && decide (0 ≤ c.2.1) && decide (c.2.1 ≤ 256) && decide (0 ≤ c.2.2) && decide (c.2.2 ≤ 256) && (decide (c.1 = 0) || decide (c.2.1 = 0) || decide (c.2.2 = 0)) && (decide (c.1 = 256) || decide (c.2.1 = 256) || decide (c.2.2 = 256)) &&
    decide (hueX c.1 c.2.1 c.2.2 = 3 * zT m) && decide (zT m % 512 = m) && decide (-512 ≤ zT m) && decide (zT m < 512)
theorem colOK_tab : ∀ m : Nat, m < 512 → colOK (m : Int) = true := by decide +kernel
theorem modN (n : Int) : ∃ m : Nat, m < 512 ∧ n % 512 = (m : Int) := ⟨(n % 512).toNat, by omega, by omega⟩
theorem colX_box (n : Int) : (0 ≤ (colX n).1 ∧ (colX n).1 ≤ 256) ∧ (0 ≤ (colX n).2.1 ∧ (colX n).2.1 ≤ 256) ∧ (0 ≤ (colX n).2.2 ∧ (colX n).2.2 ≤ 256) ∧ ((colX n).1 = 0 ∨ (colX n).2.1 = 0 ∨ (colX n).2.2 = 0) ∧ ((colX n).1 = 256 ∨ (colX n).2.1 = 256 ∨ (colX n).2.2 = 256) ∧
    ∃ z, hueX (colX n).1 (colX n).2.1 (colX n).2.2 = 3 * z ∧ z % 512 = n % 512 ∧ -512 ≤ z ∧ z < 512 := by
  obtain ⟨m, hm, e⟩ := modN n
  have h := colOK_tab m hm
  rw [colX_mod n, e]
  unfold colOK at h
  simp only [Bool.and_eq_true, Bool.or_eq_true, decide_eq_true_eq, or_assoc] at h
  obtain ⟨⟨⟨⟨⟨⟨⟨⟨⟨⟨⟨h1, h2⟩, h3⟩, h4⟩, h5⟩, h6⟩, h7⟩, h8⟩, h9⟩, h10⟩, h11⟩, h12⟩ := h
  exact ⟨⟨h1, h2⟩, ⟨h3, h4⟩, ⟨h5, h6⟩, h7, h8, zT m, h9, h10, h11, h12⟩

theorem fq_neZero {x : UInt64} {a : Int} (hx : FQ x a) (h : a ≠ 0) : Float64.isZero x = false := by rw [fq_isZero hx, decide_eq_false h]

theorem max_hit {V T x y z : Int} (hx : 0 ≤ x) (hy : 0 ≤ y) (hz : 0 ≤ z) (h : x = 0 ∨ y = 0 ∨ z = 0) : max (max ((V - x) * 2 ^ 7) ((V - y) * 2 ^ 7)) ((V - z) * 2 ^ 7) = V * 2 ^ 7 := by
  have _ := T
  rcases h with rfl | rfl | rfl <;> omega
theorem min_hit {V T x y z : Int} (hx : x ≤ T) (hy : y ≤ T) (hz : z ≤ T) (h : x = T ∨ y = T ∨ z = T) : min (min ((V - x) * 2 ^ 7) ((V - y) * 2 ^ 7)) ((V - z) * 2 ^ 7) = (V - T) * 2 ^ 7 := by
  rcases h with rfl | rfl | rfl <;> omega
theorem rgb_core {r g b : UInt64} {V T x y z : Int} (hr : FQ r ((V - x) * 2 ^ 7)) (hg : FQ g ((V - y) * 2 ^ 7)) (hb : FQ b ((V - z) * 2 ^ 7)) (hV : V ≤ 8192) (hT : 0 ≤ T ∧ T ≤ V)
    (hx : 0 ≤ x ∧ x ≤ T) (hy : 0 ≤ y ∧ y ≤ T) (hz : 0 ≤ z ∧ z ≤ T) (h0 : x = 0 ∨ y = 0 ∨ z = 0) (hM : x = T ∨ y = T ∨ z = T) :
    FQ (fmax3 r g b) (V * 2 ^ 7) ∧ FQ (fmin3 r g b) ((V - T) * 2 ^ 7) ∧ FQ (Float64.sub (fmax3 r g b) (fmin3 r g b)) (T * 2 ^ 7) ∧ FQ (Float64.sub (fmax3 r g b) r) (x * 2 ^ 7) ∧ FQ (Float64.sub (fmax3 r g b) g) (y * 2 ^ 7) ∧ FQ (Float64.sub (fmax3 r g b) b) (z * 2 ^ 7) := by
  have qM : FQ (fmax3 r g b) (V * 2 ^ 7) := (fq_max3 hr hg hb).as _ (max_hit (T := T) hx.1 hy.1 hz.1 h0)
  have qm : FQ (fmin3 r g b) ((V - T) * 2 ^ 7) := (fq_min3 hr hg hb).as _ (min_hit hx.2 hy.2 hz.2 hM)
  have key : ∀ (u : UInt64) (a : Int), FQ u ((V - a) * 2 ^ 7) → 0 ≤ a ∧ a ≤ T → FQ (Float64.sub (fmax3 r g b) u) (a * 2 ^ 7) := fun u a hu ha =>
    have e : V * 2 ^ 7 - (V - a) * 2 ^ 7 = a * 2 ^ 7 := by rw [← Int.sub_mul]; congr 1; omega
    (fq_sub qM hu (by rw [e]; omega)).as _ e
  exact ⟨qM, qm, key _ T qm ⟨hT.1, Int.le_refl _⟩, key _ x hr hx, key _ y hg hy, key _ z hb hz⟩
/-- a colour's three parts, as far below the value as X Y Z tell -/
theorem rgb_parts {r g b : UInt64} {share val X Y Z : Int} (hr : FQ r (val * (1024 - share * X) * 2 ^ 7)) (hg : FQ g (val * (1024 - share * Y) * 2 ^ 7)) (hb : FQ b (val * (1024 - share * Z) * 2 ^ 7))
    (h1 : 1 ≤ share ∧ share ≤ 4) (h2 : 1 ≤ val ∧ val ≤ 8) (hX : 0 ≤ X ∧ X ≤ 256) (hY : 0 ≤ Y ∧ Y ≤ 256) (hZ : 0 ≤ Z ∧ Z ≤ 256) (h0 : X = 0 ∨ Y = 0 ∨ Z = 0) (hM : X = 256 ∨ Y = 256 ∨ Z = 256) :
    FQ (fmax3 r g b) (val * 2 ^ 17) ∧ FQ (fmin3 r g b) (val * (1024 - share * 256) * 2 ^ 7) ∧ FQ (Float64.sub (fmax3 r g b) (fmin3 r g b)) (val * share * 256 * 2 ^ 7) ∧
    FQ (Float64.div (Float64.sub (fmax3 r g b) (fmin3 r g b)) (fmax3 r g b)) (share * 2 ^ 18) ∧
    FQ (Float64.div (Float64.sub (fmax3 r g b) r) (Float64.sub (fmax3 r g b) (fmin3 r g b))) (X * 4096) ∧
    FQ (Float64.div (Float64.sub (fmax3 r g b) g) (Float64.sub (fmax3 r g b) (fmin3 r g b))) (Y * 4096) ∧
    FQ (Float64.div (Float64.sub (fmax3 r g b) b) (Float64.sub (fmax3 r g b) (fmin3 r g b))) (Z * 4096) := by
  have e : ∀ a : Int, val * (1024 - share * a) = val * 1024 - val * share * a := fun a => by rw [Int.mul_sub, Int.mul_assoc]
  rw [e] at hr hg hb
  rw [e]
  have hP : 1 ≤ val * share := Int.mul_le_mul h2.1 h1.1 (by decide) (Int.le_trans (by decide) h2.1)
  have hPv : val * share ≤ val * 4 := Int.mul_le_mul_of_nonneg_left h1.2 (Int.le_trans (by decide) h2.1)
  generalize hPe : val * share = P at *
  have p0 : 0 ≤ P := Int.le_trans (by decide) hP
  have bx : ∀ a : Int, 0 ≤ a ∧ a ≤ 256 → 0 ≤ P * a ∧ P * a ≤ P * 256 := fun a h => ⟨Int.mul_nonneg p0 h.1, Int.mul_le_mul_of_nonneg_left h.2 p0⟩
  obtain ⟨qM, qm, qd, qr, qg, qb⟩ := rgb_core (V := val * 1024) (T := P * 256) hr hg hb (by omega) (by omega) (bx X hX) (bx Y hY) (bx Z hZ)
    (h0.imp (fun h => by rw [h, Int.mul_zero]) fun h => h.imp (fun h => by rw [h, Int.mul_zero]) fun h => by rw [h, Int.mul_zero])
    (hM.imp (fun h => by rw [h]) fun h => h.imp (fun h => by rw [h]) fun h => by rw [h])
  have d0 : P * 256 * 2 ^ 7 ≠ 0 := by omega
  have key : ∀ (u : UInt64) (a : Int), FQ u (P * a * 2 ^ 7) → 0 ≤ a ∧ a ≤ 256 → FQ (Float64.div u (Float64.sub (fmax3 r g b) (fmin3 r g b))) (a * 4096) := fun u a hu ha =>
    fq_div _ hu qd d0 (by rw [Int.mul_assoc (P * a), Int.mul_assoc P 256, mmc a, Int.mul_comm a P]; rfl) (by omega)
  refine ⟨qM.as _ (by omega), qm, qd, fq_div _ qd qM (by omega) ?_ (by omega), key _ X qr hX, key _ Y qg hY, key _ Z qb hZ⟩
  rw [← hPe, Int.mul_assoc (val * share), Int.mul_assoc (val * share), Int.mul_assoc val 1024, mmc share, Int.mul_comm share val]
  rfl

theorem rgb_fq {r g b : UInt64} {n share val : Int} (hr : FQ r (val * (1024 - share * (colX n).1) * 2 ^ 7)) (hg : FQ g (val * (1024 - share * (colX n).2.1) * 2 ^ 7)) (hb : FQ b (val * (1024 - share * (colX n).2.2) * 2 ^ 7))
    (hn : 0 ≤ n) (h1 : 1 ≤ share ∧ share ≤ 4) (h2 : 1 ≤ val ∧ val ≤ 8) :
    FQ (rgbF r g b).1 (n % 512 * 2 ^ 11) ∧ FQ (rgbF r g b).2.1 (share * 2 ^ 18) ∧ FQ (rgbF r g b).2.2 (val * 2 ^ 17) ∧
    (Float64.cmp (fmin3 r g b) (fmax3 r g b) == some .eq) = false ∧ Float64.isZero (fmax3 r g b) = false ∧ Float64.isZero (Float64.sub (fmax3 r g b) (fmin3 r g b)) = false := by
  have hP : 1 ≤ val * share := by have := Int.mul_le_mul h2.1 h1.1 (by decide) (by omega); omega
  have key : ∀ X Y Z : Int, FQ r (val * (1024 - share * X) * 2 ^ 7) → FQ g (val * (1024 - share * Y) * 2 ^ 7) → FQ b (val * (1024 - share * Z) * 2 ^ 7) →
      (0 ≤ X ∧ X ≤ 256) → (0 ≤ Y ∧ Y ≤ 256) → (0 ≤ Z ∧ Z ≤ 256) → (X = 0 ∨ Y = 0 ∨ Z = 0) → (X = 256 ∨ Y = 256 ∨ Z = 256) →
      (∃ z, (if X = 0 then Z - Y else if Y = 0 then 512 + X - Z else 1024 + Y - X) = 3 * z ∧ z % 512 = n % 512 ∧ -512 ≤ z ∧ z < 512) →
      FQ (rgbF r g b).1 (n % 512 * 2 ^ 11) ∧ FQ (rgbF r g b).2.1 (share * 2 ^ 18) ∧ FQ (rgbF r g b).2.2 (val * 2 ^ 17) ∧
      (Float64.cmp (fmin3 r g b) (fmax3 r g b) == some .eq) = false ∧ Float64.isZero (fmax3 r g b) = false ∧ Float64.isZero (Float64.sub (fmax3 r g b) (fmin3 r g b)) = false := by
    intro X Y Z hr hg hb hX hY hZ h0 hM ⟨z, hz, hz2, hz3, hz4⟩
    obtain ⟨qM, qm, qd, qs, qr, qg, qb⟩ := rgb_parts hr hg hb h1 h2 hX hY hZ h0 hM
    have eX : val * (1024 - share * X) = val * 1024 - val * share * X := by grind
    have eY : val * (1024 - share * Y) = val * 1024 - val * share * Y := by grind
    have cX : val * share * X = 0 ↔ X = 0 := ⟨fun h => (Int.mul_eq_zero.mp h).resolve_left (by omega), fun h => by rw [h, Int.mul_zero]⟩
    have cY : val * share * Y = 0 ↔ Y = 0 := ⟨fun h => (Int.mul_eq_zero.mp h).resolve_left (by omega), fun h => by rw [h, Int.mul_zero]⟩
    have c1 : (Float64.cmp r (fmax3 r g b) == some .eq) = decide (X = 0) := by
      rw [fq_cmp hr qM, cmp_eqT]; apply decide_eq_decide.mpr; rw [eX, ← cX]; omega
    have c2 : (Float64.cmp g (fmax3 r g b) == some .eq) = decide (Y = 0) := by
      rw [fq_cmp hg qM, cmp_eqT]; apply decide_eq_decide.mpr; rw [eY, ← cY]; omega
    refine ⟨?_, qs, qM, ?_, fq_neZero qM (by omega), fq_neZero qd (by omega)⟩
    · show FQ (Float64.divmod (Float64.div _ 4618441417868443648) 4607182418800017408).2 _
      refine (fq_mod (a := z * 2 ^ 11) (fq_div (a := 3 * z * 4096) (z * 2 ^ 11) ?_ fq_lit6 (by decide) (by omega) (by omega)) fq_lit1 (by decide) (by omega) (by decide)).as _ (by omega)
      simp only [c1, c2, decide_eq_true_eq]
      rw [← hz]
      by_cases hx0 : X = 0
      · rw [if_pos hx0, if_pos hx0]
        exact (fq_sub qb qg (by omega)).as _ (by omega)
      · rw [if_neg hx0, if_neg hx0]
        by_cases hy0 : Y = 0
        · rw [if_pos hy0, if_pos hy0]
          exact (fq_sub (fq_add fq_lit2 qr (by omega)) qb (by omega)).as _ (by omega)
        · rw [if_neg hy0, if_neg hy0]
          exact (fq_sub (fq_add fq_lit4 qg (by omega)) qr (by omega)).as _ (by omega)
    · rw [fq_cmp qm qM, cmp_eqT, decide_eq_false]
      have e3 : val * (1024 - share * 256) = val * 1024 - val * share * 256 := by grind
      rw [e3]; omega
  obtain ⟨b1, b2, b3, b4, b5, z, b6, b7, b8, b9⟩ := colX_box n
  exact key _ _ _ hr hg hb b1 b2 b3 b4 b5 ⟨z, b6, b7, b8, b9⟩
end Mine
end
section
open PySem PySem.W PyProof.Rows
namespace Mine
theorem fq_divI {a d : Int} (c : Int) (ha : 0 ≤ a) (hd : 0 < d) (hc : a * 2 ^ 20 = c * d) (h : c.natAbs < 2 ^ 53) : FQ (Float64.ofFrac (decide (a < 0) != decide (d < 0)) a.natAbs d.natAbs) c := by
  rw [decide_eq_false (by omega : ¬ a < 0), decide_eq_false (by omega : ¬ d < 0)]
  exact fq_ofFrac c ha (by omega) (by rw [show ((d.natAbs : Nat) : Int) = d by omega]; exact hc) h
theorem fq_d512 {a : Int} (ha : 0 ≤ a ∧ a < 100000) : FQ (Float64.ofFrac (decide (a < 0) != decide ((512 : Int) < 0)) a.natAbs (512 : Int).natAbs) (a * 2 ^ 11) := fq_divI _ ha.1 (by decide) (by omega) (by omega)
theorem fq_d4s {a : Int} (ha : 0 ≤ a ∧ a < 100000) : FQ (Float64.ofFrac (decide (a < 0) != decide ((4 : Int) < 0)) a.natAbs (4 : Int).natAbs) (a * 2 ^ 18) := fq_divI _ ha.1 (by decide) (by omega) (by omega)
theorem fq_d4v {a : Int} (ha : 0 ≤ a ∧ a < 100000) : FQ (Float64.ofFrac (decide (a < 0) != decide ((4 : Int) < 0)) a.natAbs (4 : Int).natAbs) (a * 2 * 2 ^ 17) := fq_divI _ ha.1 (by decide) (by omega) (by omega)
end Mine
end
section
open PySem PySem.W PyProof.Rows
namespace Mine
open PySem.SeqAt
section
variable {A : Around} {s : Shared}
theorem eq_fq_int {x : UInt64} {a n : Int} {t u : Tok} (hx : FQ x a) (h : a = n * 2 ^ 20) : EqAt A s (.float x t) (.int n u) true := fun prog w E Q hq => by
  unfold eqBool
  refine wpAny_holding ?_
  refine wpAny_ite_split (fun hab => absurd (eq_of_beq hab) nofun) (fun _ => ?_)
  refine wpAny_bind (eq_fi (wpAny_truthy_bool ?_))
  rw [fq_cmpInt hx, cmp_eqT, decide_eq_true h]; exact hq
theorem same_floats {M : Model} {A : Around} {E : Value → Shared → Prop} {s : Shared} {x y : UInt64} {t u : Tok} {Q : Bool → Shared → Prop} (hb : NoneBooked s.heap) (ht : (t : Nat) ≠ 0) (hu : (u : Nat) ≠ 0) (hq : ∀ b, Q b s) :
    wpAny M A (isSame (.float x t) (.float y u)) Q E s := by
  show wpAny M A (isSame.created (x == y && !Float64.isNaN x) t u) Q E s
  have h0 : (t == 0 || u == 0) = false := by
    have e1 : (t == 0) = false := beq_eq_false_iff_ne.mpr ht
    have e2 : (u == 0) = false := beq_eq_false_iff_ne.mpr hu
    rw [e1, e2]; rfl
  unfold isSame.created
  rw [h0]
  simp only [Bool.false_eq_true, if_false]
  refine wpAny_ite_split (fun _ => wpAny_pure (hq _)) (fun _ => wpAny_ite_split (fun _ => wpAny_pure (hq _)) (fun _ => ?_))
  refine wpAny_bind (wpAny_sharingNotTold_none hb ?_)
  simp only [Bool.false_eq_true, if_false]
  refine wpAny_bind (wpAny_sharingNotTold_none hb ?_)
  simp only [Bool.false_eq_true, if_false]
  exact wpAny_bind (wpAny_rule (wpAny_bind (wpAny_askSetting (wpAny_pure (hq _)))))
theorem eq_fq_fq {x y : UInt64} {a b : Int} {t u : Tok} (hb : NoneBooked s.heap) (ht : (t : Nat) ≠ 0) (hu : (u : Nat) ≠ 0) (hx : FQ x a) (hy : FQ y b) (h : a = b) : EqAt A s (.float x t) (.float y u) true := fun prog w E Q hq => by
  unfold eqBool
  refine wpAny_holding ?_
  refine wpAny_ite_split (fun hab => ?_) (fun _ => ?_)
  · exact wpAny_bind (wpAny_rule (wpAny_pure hq))
  · refine wpAny_bind (same_floats hb ht hu fun b' => ?_)
    cases b' with
    | true => exact wpAny_pure hq
    | false =>
      refine wpAny_bind (AutoFloatOps.eq_0 (wpAny_truthy_bool ?_))
      rw [fq_cmp hx hy, cmp_eqT, decide_eq_true h]; exact hq
theorem booked_of {K : Frag} {h : Heap} (X : K.In h) (T : h.NoLimit) (e : nsIn K cStatics sharingNotToldKey = some none) : NoneBooked h := by
  obtain ⟨mc, hn, _⟩ := T
  refine ⟨mc, hn, ?_⟩
  obtain ⟨o, es, ep, ho, hd, _, hf⟩ := hn
  unfold nsIn at e
  split at e
  · rename_i c d es' n' sl q
    have := X _ _ q
    rw [ho] at this
    cases this
    cases hd
    split at e
    · cases e
    · rename_i he
      rw [← hf]
      unfold nsFind findBy
      rw [← Array.find?_toList, he]
      rfl
  · cases e
theorem NoneBooked.keeps {h h' : Heap} (x : NoneBooked h) (hk : ∀ b o, h.get? b = some o → h'.get? b = some o) : NoneBooked h' := let ⟨mc, hn, e⟩ := x; ⟨mc, hn.keeps hk, e⟩
theorem eq_bools {a b : Bool} (h : a = b) : EqAt A s (.bool a) (.bool b) true := by
  have := EqAt.bool_bool (A := A) (s := s) a b
  rw [h, beq_self_eq_true] at this
  rw [h]; exact this
theorem eq_ints {a b : Int} {t u : Tok} (h : a = b) : EqAt A s (.int a t) (.int b u) true := by
  have := EqAt.int_int (A := A) (s := s) a t b u
  rw [h, beq_self_eq_true] at this
  rw [h]; exact this

/-- item by item equal -/
inductive EqAll (A : Around) (s : Shared) : List Value → List Value → Prop
  | nil : EqAll A s [] []
  | cons {x y xs ys} : EqAt A s x y true → EqAll A s xs ys → EqAll A s (x :: xs) (y :: ys)
theorem EqAll.length {xs ys : List Value} (h : EqAll A s xs ys) : xs.length = ys.length := by
  induction h with
  | nil => rfl
  | cons _ _ ih => simp [ih]
theorem EqAll.get {xs ys : List Value} (h : EqAll A s xs ys) : ∀ j (h1 : j < xs.length) (h2 : j < ys.length), EqAt A s xs[j] ys[j] true := by
  induction h with
  | nil => intro j h1; simp at h1
  | cons hx _ ih =>
    intro j h1 h2
    cases j with
    | zero => exact hx
    | succ j => exact ih j (by simpa using h1) (by simpa using h2)
end
section
variable {prog : Program} {w : World} {A : Around} {E : Value → Shared → Prop} {s : Shared}
theorem ne_lists {l b : Addr} {xs ys : List Value} {Q : Value → Shared → Prop} (hl : s.heap.IsList l xs.toArray) (hb : s.heap.IsList b ys.toArray) (hu : A.units < cLine) (he : EqAll A.in1 s xs ys) (h : Q (.bool false) s) :
    wpAny (model prog w) A (compareOp .NotEq (.ref l) (.ref b)) Q E s := by
  refine RcNeAt.lists (e := fun _ => true) hl hb (by simpa using he.length) hu (fun j h1 h2 => ?_) prog w E Q ?_
  · exact he.get j (by simpa using h1) (by simpa using h2)
  · have : (!(List.range xs.toArray.size).all fun _ => true) = false := by simp
    rw [this]; exact h
theorem ne_tuples {l b : Addr} {xs ys : List Value} {Q : Value → Shared → Prop} (hl : s.heap.IsTuple l xs.toArray) (hb : s.heap.IsTuple b ys.toArray) (hu : A.units < cLine) (he : EqAll A.in1 s xs ys) (h : Q (.bool false) s) :
    wpAny (model prog w) A (compareOp .NotEq (.ref l) (.ref b)) Q E s := by
  have hlen := he.length
  refine RcNeAt.tuples (e := fun _ => true) hl hb hu (fun j h1 h2 => ?_) prog w E Q ?_
  · exact he.get j (by simpa using h1) (by simpa using h2)
  · have : (!((List.range (min xs.toArray.size ys.toArray.size)).all (fun _ => true) && xs.toArray.size == ys.toArray.size)) = false := by simp [hlen]
    rw [this]; exact h
theorem int_fq {x : UInt64} {a c : Int} {t : Tok} {Q : Value → Shared → Prop} (hA : A.handled = none) (hx : FQ x a) (h0 : 0 ≤ a) (hc : c = a / 2 ^ 20) (h : Q (.int c s.toks) { s with toks := s.toks + 1 }) :
    wpAny (model prog w) A (call (.type "int") [.float x t]) Q E s := by
  obtain ⟨f1, f2, f3⟩ := fq_finite hx
  refine Flt.call_int_float3 hA (fun q => by rw [f2] at q; cases q) (fun q => by rw [f3] at q; cases q) (fun _ => ?_)
  rw [fq_trunc hx h0, ← hc]; exact h
end

def fall (place corner : Int) : Int := min (max ((if (3 * place - corner + 768) % 1536 - 768 < 0 then -((3 * place - corner + 768) % 1536 - 768) else (3 * place - corner + 768) % 1536 - 768) - 256) 0) 256
def farOK (m : Int) : Bool := (decide ((colX m).2.2 < (colX m).2.1) || (decide ((colX m).2.2 = (colX m).2.1) && decide ((colX m).2.1 < (colX m).1))) == decide (256 ≤ m)
def fallOK (m : Int) : Bool := decide ((colX m).1 = fall m 0) && decide ((colX m).2.1 = fall m 512) && decide ((colX m).2.2 = fall m 1024)
theorem far_tab : ∀ m : Nat, m < 512 → (farOK (m : Int) && fallOK (m : Int)) = true := by decide +kernel
theorem far_iff (n : Int) (_ : 0 ≤ n) : ((colX n).2.2 < (colX n).2.1 ∨ ((colX n).2.2 = (colX n).2.1 ∧ (colX n).2.1 < (colX n).1)) ↔ 256 ≤ n % 512 := by
  obtain ⟨m, hm, e⟩ := modN n
  have h := (Bool.and_eq_true _ _ ▸ far_tab m hm : _ ∧ _).1
  rw [colX_mod n, e]
  unfold farOK at h
  rw [beq_iff_eq, Bool.eq_iff_iff, Bool.or_eq_true, Bool.and_eq_true, decide_eq_true_eq, decide_eq_true_eq, decide_eq_true_eq, decide_eq_true_eq] at h
  exact h
theorem fall_col (n : Int) (_ : 0 ≤ n) : colX n = (fall (n % 512) 0, fall (n % 512) 512, fall (n % 512) 1024) := by
  obtain ⟨m, hm, e⟩ := modN n
  have h := (Bool.and_eq_true _ _ ▸ far_tab m hm : _ ∧ _).2
  rw [colX_mod n, e]
  unfold fallOK at h
  rw [Bool.and_eq_true, Bool.and_eq_true, decide_eq_true_eq, decide_eq_true_eq, decide_eq_true_eq] at h
  rw [← h.1.1, ← h.1.2, ← h.2]

/-- the parts' order as the whole numbers' -/
theorem part_lt {val share X Y : Int} (h1 : 1 ≤ share) (h2 : 1 ≤ val) : val * (1024 - share * X) * 2 ^ 7 < val * (1024 - share * Y) * 2 ^ 7 ↔ Y < X := by
  have e1 : val * (1024 - share * X) = val * 1024 - val * share * X := by grind
  have e2 : val * (1024 - share * Y) = val * 1024 - val * share * Y := by grind
  have hP : 0 < val * share := Int.mul_pos (by omega) (by omega)
  have h3 : val * share * Y < val * share * X ↔ Y < X := ⟨fun h => Int.lt_of_mul_lt_mul_left h (Int.le_of_lt hP), fun h => Int.mul_lt_mul_of_pos_left h hP⟩
  rw [e1, e2, ← h3]; omega
theorem part_eq {val share X Y : Int} (h1 : 1 ≤ share) (h2 : 1 ≤ val) : val * (1024 - share * X) * 2 ^ 7 = val * (1024 - share * Y) * 2 ^ 7 ↔ X = Y := by
  have a := part_lt (X := X) (Y := Y) h1 h2
  have b := part_lt (X := Y) (Y := X) h1 h2
  omega

section
variable {α : Type} {M : Model} {A : Around} {t : Sem α} {Q : α → Shared → Prop} {E : Value → Shared → Prop} {h : Heap} {g : Array GenState} {d : Drawn} {k n : Nat} {os : OsState}
theorem gen_toks1 (hq : ∀ tk : Nat, tk ≠ 0 → wpAny M A t Q E ⟨h, g, d, tk, os⟩) : wpAny M A t Q E ⟨h, g, d, k + 1, os⟩ := hq _ (Nat.succ_ne_zero _)
theorem gen_toks2 (hn : n ≠ 0) (hq : ∀ tk : Nat, tk ≠ 0 → wpAny M A t Q E ⟨h, g, d, tk, os⟩) : wpAny M A t Q E ⟨h, g, d, k + n, os⟩ := hq _ (by omega)
end
end Mine
end
section
open PySem PySem.W PyProof.Rows
namespace Mine
open PySem.SeqAt
section
variable {A : Around} {s : Shared}
theorem due_eq {x y z : UInt64} {n share value place : Int} {t1 t2 t3 u1 u2 u3 : Tok} (hx : FQ x (value * 2 * (1024 - share * (colX n).1) * 2 ^ 7)) (hy : FQ y (value * 2 * (1024 - share * (colX n).2.1) * 2 ^ 7)) (hz : FQ z (value * 2 * (1024 - share * (colX n).2.2) * 2 ^ 7))
    (hn : 0 ≤ n) (h1 : 1 ≤ share ∧ share ≤ 4) (h2 : 1 ≤ value ∧ value ≤ 4) (hp : place = n % 512) :
    EqAll A s [.float (Float64.mul x (Float64.ofInt 4096)) t1, .float (Float64.mul y (Float64.ofInt 4096)) t2, .float (Float64.mul z (Float64.ofInt 4096)) t3]
      [.int (value * (1024 - share * fall place 0)) u1, .int (value * (1024 - share * fall place 512)) u2, .int (value * (1024 - share * fall place 1024)) u3] := by
  have key : ∀ (r : UInt64) (X : Int) (t u : Tok), FQ r (value * 2 * (1024 - share * X) * 2 ^ 7) → 0 ≤ X ∧ X ≤ 256 → EqAt A s (.float (Float64.mul r (Float64.ofInt 4096)) t) (.int (value * (1024 - share * X)) u) true := by
    intro r X t u hr hX
    have b1 := mulb (x := share) (y := X) (a := 4) (b := 256) (by omega) hX
    have b2 := mulb (x := value) (y := 1024 - share * X) (a := 4) (b := 1024) (by omega) (by omega)
    refine eq_fq_int (fq_mul (value * (1024 - share * X) * 2 ^ 20) hr (fq_ofInt (i := 4096) (by decide)) (by grind) (by omega)) rfl
  obtain ⟨c1, c2, c3, _⟩ := colX_box n
  have hf := fall_col n hn
  rw [← hp] at hf
  have e1 : fall place 0 = (colX n).1 := by rw [hf]
  have e2 : fall place 512 = (colX n).2.1 := by rw [hf]
  have e3 : fall place 1024 = (colX n).2.2 := by rw [hf]
  rw [e1, e2, e3]
  exact .cons (key _ _ _ _ hx c1) (.cons (key _ _ _ _ hy c2) (.cons (key _ _ _ _ hz c3) .nil))
theorem told_eq {x y z : UInt64} {n share value place : Int} {t1 t2 t3 u1 u2 u3 : Tok} (hb : NoneBooked s.heap) (hx : FQ x (n % 512 * 2 ^ 11)) (hy : FQ y (share * 2 ^ 18)) (hz : FQ z (value * 2 * 2 ^ 17))
    (n1 : (t1 : Nat) ≠ 0) (n2 : (t2 : Nat) ≠ 0) (n3 : (t3 : Nat) ≠ 0) (m1 : (u1 : Nat) ≠ 0) (m2 : (u2 : Nat) ≠ 0) (m3 : (u3 : Nat) ≠ 0) (h1 : 1 ≤ share ∧ share ≤ 4) (h2 : 1 ≤ value ∧ value ≤ 4) (hp : place = n % 512) :
    EqAll A s [.float x t1, .float y t2, .float z t3]
      [.float (Float64.ofFrac (decide (place < 0) != decide ((512 : Int) < 0)) place.natAbs (512 : Int).natAbs) u1, .float (Float64.ofFrac (decide (share < 0) != decide ((4 : Int) < 0)) share.natAbs (4 : Int).natAbs) u2, .float (Float64.ofFrac (decide (value < 0) != decide ((4 : Int) < 0)) value.natAbs (4 : Int).natAbs) u3] :=
  .cons (eq_fq_fq hb n1 m1 hx (fq_d512 (by omega)) (by rw [hp])) (.cons (eq_fq_fq hb n2 m2 hy (fq_d4s (by omega)) rfl) (.cons (eq_fq_fq hb n3 m3 hz (fq_d4v (by omega)) rfl) .nil))
end
theorem fmod_n {spot cut : Int} : (spot - cut).fmod 512 = (spot - cut + 512) % 512 := by rw [Int.fmod_eq_emod_of_nonneg _ (by decide)]; omega
/-- the far half, as the colour tells it -/
theorem far_parts {x y z : UInt64} {n share value : Int} (hx : FQ x (value * 2 * (1024 - share * (colX n).1) * 2 ^ 7)) (hy : FQ y (value * 2 * (1024 - share * (colX n).2.1) * 2 ^ 7)) (hz : FQ z (value * 2 * (1024 - share * (colX n).2.2) * 2 ^ 7))
    (hn : 0 ≤ n) (h1 : 1 ≤ share ∧ share ≤ 4) (h2 : 1 ≤ value ∧ value ≤ 4) :
    (Float64.cmp z y == some .gt) = decide ((colX n).2.2 < (colX n).2.1) ∧ (Float64.cmp z y == some .eq) = decide ((colX n).2.2 = (colX n).2.1) ∧ (Float64.cmp x y == some .lt) = decide ((colX n).2.1 < (colX n).1) := by
  refine ⟨?_, ?_, ?_⟩
  · rw [fq_cmp hz hy, cmp_gtT]; exact decide_eq_decide.mpr (part_lt h1.1 (by omega))
  · rw [fq_cmp hz hy, cmp_eqT]; exact decide_eq_decide.mpr (part_eq h1.1 (by omega))
  · rw [fq_cmp hx hy, cmp_ltT]; exact decide_eq_decide.mpr (part_lt h1.1 (by omega))

theorem int_sym {prog : Program} {w : World} {A : Around} {E : Value → Shared → Prop} {s : Shared} {x : UInt64} {k : Int} {t : Tok} {Q : Value → Shared → Prop} (hA : A.handled = none) (hx : FQ x (k * 2 ^ 11)) (h0 : 0 ≤ k ∧ k < 100000) (h : Q (.int k s.toks) { s with toks := s.toks + 1 }) :
    wpAny (model prog w) A (call (.type "int") [.float (Float64.mul x (Float64.ofInt 512)) t]) Q E s :=
  int_fq hA (fq_mul (k * 2 ^ 20) hx (fq_ofInt (i := 512) (by decide)) (by omega) (by omega)) (by omega) (by omega) h
theorem far_b1 {x y z : UInt64} {n share value : Int} (hx : FQ x (value * 2 * (1024 - share * (colX n).1) * 2 ^ 7)) (hy : FQ y (value * 2 * (1024 - share * (colX n).2.1) * 2 ^ 7)) (hz : FQ z (value * 2 * (1024 - share * (colX n).2.2) * 2 ^ 7))
    (hn : 0 ≤ n) (h1 : 1 ≤ share ∧ share ≤ 4) (h2 : 1 ≤ value ∧ value ≤ 4) (g : (Float64.cmp z y == some .gt) = true) : (Float64.cmp z y == some .gt) = decide (256 ≤ n % 512) := by
  obtain ⟨a, b, c⟩ := far_parts hx hy hz hn h1 h2
  have f := far_iff n hn
  rw [a] at g ⊢
  exact decide_eq_decide.mpr ⟨fun h => f.mp (.inl h), fun _ => of_decide_eq_true g⟩
theorem far_b2 {x y z : UInt64} {n share value : Int} (hx : FQ x (value * 2 * (1024 - share * (colX n).1) * 2 ^ 7)) (hy : FQ y (value * 2 * (1024 - share * (colX n).2.1) * 2 ^ 7)) (hz : FQ z (value * 2 * (1024 - share * (colX n).2.2) * 2 ^ 7))
    (hn : 0 ≤ n) (h1 : 1 ≤ share ∧ share ≤ 4) (h2 : 1 ≤ value ∧ value ≤ 4) (g : (Float64.cmp z y == some .gt) = false) (e : (Float64.cmp z y == some .eq) = true) : (Float64.cmp x y == some .lt) = decide (256 ≤ n % 512) := by
  obtain ⟨a, b, c⟩ := far_parts hx hy hz hn h1 h2
  have f := far_iff n hn
  rw [a] at g
  rw [b] at e
  rw [c]
  have g' := of_decide_eq_false g
  have e' := of_decide_eq_true e
  exact decide_eq_decide.mpr ⟨fun h => f.mp (.inr ⟨e', h⟩), fun h => (f.mpr h).elim (fun q => absurd q g') (fun q => q.2)⟩
theorem far_b3 {x y z : UInt64} {n share value : Int} (hx : FQ x (value * 2 * (1024 - share * (colX n).1) * 2 ^ 7)) (hy : FQ y (value * 2 * (1024 - share * (colX n).2.1) * 2 ^ 7)) (hz : FQ z (value * 2 * (1024 - share * (colX n).2.2) * 2 ^ 7))
    (hn : 0 ≤ n) (h1 : 1 ≤ share ∧ share ≤ 4) (h2 : 1 ≤ value ∧ value ≤ 4) (g : (Float64.cmp z y == some .gt) = false) (e : (Float64.cmp z y == some .eq) = false) : (Float64.cmp z y == some .eq) = decide (256 ≤ n % 512) := by
  obtain ⟨a, b, c⟩ := far_parts hx hy hz hn h1 h2
  have f := far_iff n hn
  rw [a] at g
  rw [b] at e ⊢
  have g' := of_decide_eq_false g
  have e' := of_decide_eq_false e
  exact decide_eq_decide.mpr ⟨fun h => absurd h e', fun h => (f.mpr h).elim (fun q => absurd q g') (fun q => q.1)⟩
theorem far_bools {A : Around} {s : Shared} {n place : Int} {b : Bool} (hB : b = decide (256 ≤ n % 512)) (hp : place = n % 512) :
    EqAll A s [.bool (decide (n % 512 < 256)), .bool (decide (256 ≤ n % 512)), .bool (n % 512 == 0)] [.bool (!b), .bool b, .bool (place == 0)] := by
  subst hB hp
  refine .cons (eq_bools ?_) (.cons (eq_bools rfl) (.cons (eq_bools rfl) .nil))
  by_cases h : 256 ≤ n % 512
  · rw [decide_eq_true h, decide_eq_false (by omega)]; rfl
  · rw [decide_eq_false h, decide_eq_true (by omega)]; rfl
theorem half_1 {spot cut : Int} {b : Bool} (hB : b = decide (256 ≤ (spot - cut + 512) % 512)) (hb : b = true) : 1 = (spot - cut) / 256 % 2 := by
  rw [hB] at hb; have := of_decide_eq_true hb; omega
theorem half_0 {spot cut : Int} {b : Bool} (hB : b = decide (256 ≤ (spot - cut + 512) % 512)) (hb : b = false) : 0 = (spot - cut) / 256 % 2 := by
  rw [hB] at hb; have := of_decide_eq_false hb; omega
end Mine
end
section
open PySem PySem.W PyProof.Rows
namespace Mine

/-- a row of ints that rises -/
def Srt (ns : List Int) : Prop := ns.Pairwise (· ≤ ·)
theorem Srt.at {ns : List Int} (h : Srt ns) (i j : Nat) (hij : i ≤ j) (hj : j < ns.length) : ns.getD i 0 ≤ ns.getD j 0 := by
  rcases Nat.lt_or_eq_of_le hij with h1 | h1
  · have := List.pairwise_iff_getElem.mp h i j (by omega) hj h1
    simpa [List.getD_eq_getElem?_getD, List.getElem?_eq_getElem hj, List.getElem?_eq_getElem (show i < ns.length by omega)] using this
  · rw [h1]; exact Int.le_refl _
def cL (ns : List Int) (x : Int) : Nat := ns.countP (fun y => decide (y < x))
def cR (ns : List Int) (x : Int) : Nat := ns.countP (fun y => decide (y ≤ x))
/-- what lies below lo is less than x, what lies from hi on is not -/
def BL (x : Int) (ns : List Int) (lo hi : Int) : Prop := (∀ i : Nat, (i : Int) < lo → ns.getD i 0 < x) ∧ ∀ i : Nat, hi ≤ (i : Int) → i < ns.length → x ≤ ns.getD i 0
def BR (x : Int) (ns : List Int) (lo hi : Int) : Prop := (∀ i : Nat, (i : Int) < lo → ns.getD i 0 ≤ x) ∧ ∀ i : Nat, hi ≤ (i : Int) → i < ns.length → x < ns.getD i 0

theorem mid_eq (lo hi : Int) : (lo + hi).fdiv 2 = (lo + hi) / 2 := by rw [Int.fdiv_eq_ediv_of_nonneg _ (by decide)]

theorem bl_start (x : Int) (ns : List Int) : 0 ≤ (0 : Int) ∧ (0 : Int) ≤ (ns.length : Int) ∧ (ns.length : Int) ≤ ns.length ∧ BL x ns 0 ns.length :=
  ⟨by omega, by omega, by omega, fun i h => by omega, fun i h h' => by omega⟩
theorem bl_up {x : Int} {ns : List Int} {lo hi : Int} (hs : Srt ns) (h1 : 0 ≤ lo) (_h2 : lo ≤ hi) (h3 : hi ≤ (ns.length : Int)) (h : BL x ns lo hi) (hlt : lo < hi) (hx : ns.getD ((lo + hi).fdiv 2).toNat 0 < x) :
    0 ≤ (lo + hi).fdiv 2 + 1 ∧ (lo + hi).fdiv 2 + 1 ≤ hi ∧ hi ≤ (ns.length : Int) ∧ BL x ns ((lo + hi).fdiv 2 + 1) hi := by
  rw [mid_eq] at *
  refine ⟨by omega, by omega, h3, fun i hi' => ?_, h.2⟩
  exact Int.lt_of_le_of_lt (hs.at i _ (by omega) (by omega)) hx
theorem bl_dn {x : Int} {ns : List Int} {lo hi : Int} (hs : Srt ns) (h1 : 0 ≤ lo) (_h2 : lo ≤ hi) (h3 : hi ≤ (ns.length : Int)) (h : BL x ns lo hi) (hlt : lo < hi) (hx : ¬ ns.getD ((lo + hi).fdiv 2).toNat 0 < x) :
    0 ≤ lo ∧ lo ≤ (lo + hi).fdiv 2 ∧ (lo + hi).fdiv 2 ≤ (ns.length : Int) ∧ BL x ns lo ((lo + hi).fdiv 2) := by
  rw [mid_eq] at *
  refine ⟨h1, by omega, by omega, h.1, fun i hi' hl => ?_⟩
  have h5 := hs.at ((lo + hi) / 2).toNat i (by omega) hl
  omega
theorem br_start (x : Int) (ns : List Int) : 0 ≤ (0 : Int) ∧ (0 : Int) ≤ (ns.length : Int) ∧ (ns.length : Int) ≤ ns.length ∧ BR x ns 0 ns.length :=
  ⟨by omega, by omega, by omega, fun i h => by omega, fun i h h' => by omega⟩
theorem br_up {x : Int} {ns : List Int} {lo hi : Int} (hs : Srt ns) (h1 : 0 ≤ lo) (_h2 : lo ≤ hi) (h3 : hi ≤ (ns.length : Int)) (h : BR x ns lo hi) (hlt : lo < hi) (hx : ¬ x < ns.getD ((lo + hi).fdiv 2).toNat 0) :
    0 ≤ (lo + hi).fdiv 2 + 1 ∧ (lo + hi).fdiv 2 + 1 ≤ hi ∧ hi ≤ (ns.length : Int) ∧ BR x ns ((lo + hi).fdiv 2 + 1) hi := by
  rw [mid_eq] at *
  refine ⟨by omega, by omega, h3, fun i hi' => ?_, h.2⟩
  have := hs.at i ((lo + hi) / 2).toNat (by omega) (by omega)
  omega
theorem br_dn {x : Int} {ns : List Int} {lo hi : Int} (hs : Srt ns) (h1 : 0 ≤ lo) (_h2 : lo ≤ hi) (h3 : hi ≤ (ns.length : Int)) (h : BR x ns lo hi) (hlt : lo < hi) (hx : x < ns.getD ((lo + hi).fdiv 2).toNat 0) :
    0 ≤ lo ∧ lo ≤ (lo + hi).fdiv 2 ∧ (lo + hi).fdiv 2 ≤ (ns.length : Int) ∧ BR x ns lo ((lo + hi).fdiv 2) := by
  rw [mid_eq] at *
  refine ⟨h1, by omega, by omega, h.1, fun i hi' hl => ?_⟩
  have h5 := hs.at ((lo + hi) / 2).toNat i (by omega) hl
  omega
theorem mid_less1 {lo hi : Int} (hlt : lo < hi) : (hi - ((lo + hi).fdiv 2 + 1)).toNat < (hi - lo).toNat := by rw [mid_eq]; omega
theorem mid_less2 {lo hi : Int} (hlt : lo < hi) : ((lo + hi).fdiv 2 - lo).toNat < (hi - lo).toNat := by rw [mid_eq]; omega

theorem countP_at {q : Int → Bool} {ns : List Int} {p : Nat} (hp : p ≤ ns.length) (h1 : ∀ i, i < p → q (ns.getD i 0) = true) (h2 : ∀ i, p ≤ i → i < ns.length → q (ns.getD i 0) = false) : ns.countP q = p := by
  induction ns generalizing p with
  | nil => simp at hp; simp [hp]
  | cons y r ih =>
    cases p with
    | zero =>
      rw [List.countP_eq_zero]
      intro z hz
      obtain ⟨i, hi, he⟩ := List.getElem_of_mem hz
      have := h2 i (by omega) hi
      rw [List.getD_eq_getElem?_getD, List.getElem?_eq_getElem hi] at this
      simp only [Option.getD_some, he] at this
      simp [this]
    | succ p =>
      have h0 := h1 0 (by omega)
      simp only [List.getD_cons_zero] at h0
      rw [List.countP_cons_of_pos h0, ih (p := p) (by simpa using hp) (fun i hi => by simpa using h1 (i + 1) (by omega)) (fun i hi hl => by simpa using h2 (i + 1) (by omega) (by simpa using hl))]

theorem bl_end {x : Int} {ns : List Int} {lo hi : Int} (h1 : 0 ≤ lo) (h2 : lo ≤ hi) (h3 : hi ≤ (ns.length : Int)) (h : BL x ns lo hi) (hlt : ¬ lo < hi) : lo = (cL ns x : Int) := by
  have : lo = hi := by omega
  subst this
  have := countP_at (q := fun y => decide (y < x)) (ns := ns) (p := lo.toNat) (by omega) (fun i hi' => by simpa using h.1 i (by omega)) (fun i hi' hl => by simpa using h.2 i (by omega) hl)
  unfold cL
  rw [this]; omega
theorem br_end {x : Int} {ns : List Int} {lo hi : Int} (h1 : 0 ≤ lo) (h2 : lo ≤ hi) (h3 : hi ≤ (ns.length : Int)) (h : BR x ns lo hi) (hlt : ¬ lo < hi) : lo = (cR ns x : Int) := by
  have : lo = hi := by omega
  subst this
  have := countP_at (q := fun y => decide (y ≤ x)) (ns := ns) (p := lo.toNat) (by omega) (fun i hi' => by simpa using h.1 i (by omega)) (fun i hi' hl => by simpa using h.2 i (by omega) hl)
  unfold cR
  rw [this]; omega

/-- an int laid into a row at place k -/
def insI (ns : List Int) (k : Nat) (x : Int) : List Int := ns.take k ++ x :: ns.drop k
def insV (vs : List Value) (k : Nat) (v : Value) : List Value := vs.take k ++ v :: vs.drop k
theorem IntsAre.takeM {vs : List Value} {ns : List Int} (h : IntsAre vs ns) (k : Nat) : IntsAre (vs.take k) (ns.take k) := by
  induction h generalizing k with
  | nil => simp; exact .nil
  | cons n t _ ih => cases k with
    | zero => exact .nil
    | succ k => exact .cons n t (ih k)
theorem IntsAre.dropM {vs : List Value} {ns : List Int} (h : IntsAre vs ns) (k : Nat) : IntsAre (vs.drop k) (ns.drop k) := by
  induction h generalizing k with
  | nil => simp; exact .nil
  | cons n t h ih => cases k with
    | zero => exact .cons n t h
    | succ k => exact ih k
theorem ints_ins {vs : List Value} {ns : List Int} (h : IntsAre vs ns) (k : Nat) (x : Int) (t : Tok) : IntsAre (insV vs k (.int x t)) (insI ns k x) :=
  PyProof.Rows.IntsAre.append (IntsAre.takeM h k) (.cons x t (IntsAre.dropM h k))
theorem insI_length (ns : List Int) (k : Nat) (x : Int) : (insI ns k x).length = ns.length + 1 := by
  unfold insI; rw [List.length_append, List.length_cons, List.length_take, List.length_drop]; omega
theorem insI_perm (ns : List Int) (k : Nat) (x : Int) : (insI ns k x).Perm (x :: ns) := by
  unfold insI
  refine List.perm_middle.trans ?_
  rw [List.take_append_drop]
theorem cL_le (ns : List Int) (x : Int) : cL ns x ≤ ns.length := List.countP_le_length
theorem cR_le (ns : List Int) (x : Int) : cR ns x ≤ ns.length := List.countP_le_length
theorem insL_cons (y : Int) (r : List Int) (x : Int) (h : Srt (y :: r)) : insI (y :: r) (cL (y :: r) x) x = if y < x then y :: insI r (cL r x) x else x :: y :: r := by
  split
  · rename_i h1
    have e : cL (y :: r) x = cL r x + 1 := by unfold cL; rw [List.countP_cons_of_pos (by simpa using h1)]
    rw [e]; rfl
  · rename_i h1
    have e : cL (y :: r) x = 0 := by
      unfold cL; rw [List.countP_eq_zero]
      intro z hz
      rcases List.mem_cons.mp hz with rfl | hz
      · simpa using h1
      · have := (List.pairwise_cons.mp h).1 z hz
        simp; omega
    rw [e]; rfl
theorem insR_cons (y : Int) (r : List Int) (x : Int) (h : Srt (y :: r)) : insI (y :: r) (cR (y :: r) x) x = if y ≤ x then y :: insI r (cR r x) x else x :: y :: r := by
  split
  · rename_i h1
    have e : cR (y :: r) x = cR r x + 1 := by unfold cR; rw [List.countP_cons_of_pos (by simpa using h1)]
    rw [e]; rfl
  · rename_i h1
    have e : cR (y :: r) x = 0 := by
      unfold cR; rw [List.countP_eq_zero]
      intro z hz
      rcases List.mem_cons.mp hz with rfl | hz
      · simpa using h1
      · have := (List.pairwise_cons.mp h).1 z hz
        simp; omega
    rw [e]; rfl
theorem srt_insL {ns : List Int} (h : Srt ns) (x : Int) : Srt (insI ns (cL ns x) x) := by
  induction ns with
  | nil => unfold insI; simp [Srt]
  | cons y r ih =>
    rw [insL_cons y r x h]
    have h2 := List.pairwise_cons.mp h
    split
    · refine List.pairwise_cons.mpr ⟨fun z hz => ?_, ih h2.2⟩
      rcases List.mem_cons.mp ((insI_perm r _ x).mem_iff.mp hz) with rfl | hz
      · omega
      · exact h2.1 z hz
    · refine List.pairwise_cons.mpr ⟨fun z hz => ?_, h⟩
      rcases List.mem_cons.mp hz with rfl | hz
      · omega
      · have := h2.1 z hz; omega
theorem srt_insR {ns : List Int} (h : Srt ns) (x : Int) : Srt (insI ns (cR ns x) x) := by
  induction ns with
  | nil => unfold insI; simp [Srt]
  | cons y r ih =>
    rw [insR_cons y r x h]
    have h2 := List.pairwise_cons.mp h
    split
    · refine List.pairwise_cons.mpr ⟨fun z hz => ?_, ih h2.2⟩
      rcases List.mem_cons.mp ((insI_perm r _ x).mem_iff.mp hz) with rfl | hz
      · omega
      · exact h2.1 z hz
    · refine List.pairwise_cons.mpr ⟨fun z hz => ?_, h⟩
      rcases List.mem_cons.mp hz with rfl | hz
      · omega
      · have := h2.1 z hz; omega
theorem srt_uniq {a b : List Int} (ha : Srt a) (hb : Srt b) (h : a.Perm b) : a = b := by
  induction a generalizing b with
  | nil => exact (List.nil_perm.mp h).symm
  | cons x r ih =>
    cases b with
    | nil => exact absurd (List.perm_nil.mp h) (by simp)
    | cons y q =>
      have e : x = y := by
        have hx : x ∈ y :: q := h.mem_iff.mp (.head _)
        have hy : y ∈ x :: r := h.mem_iff.mpr (.head _)
        have h1 := List.pairwise_cons.mp ha
        have h2 := List.pairwise_cons.mp hb
        rcases List.mem_cons.mp hx with e | hx
        · exact e
        · rcases List.mem_cons.mp hy with e | hy
          · exact e.symm
          · have := h1.1 y hy; have := h2.1 x hx; omega
      subst e
      rw [ih (List.pairwise_cons.mp ha).2 (List.pairwise_cons.mp hb).2 (List.perm_cons x |>.mp h)]

section
open PySem.Calls PySem.Spec
theorem my_insert {prog : Program} {w : World} {A : Around} {E : Value → Shared → Prop} {s : Shared} {h₀ : Heap} {L D : Addr} {m : Str → Option Value} {news news' : List (Addr × Obj)} {n : Nat} {vs : List Value} {k : Nat} {u : Tok} {y : Value} {Q : Value → Shared → Prop}
    (F : Fr h₀ L s.heap m) (N : News h₀ L s.heap news) (hm : (D, listOf vs.toArray n) ∈ news) (hk : k ≤ vs.length) (hv : vs.length < 1000)
    (U : Upd D (listOf vs.toArray n) (listOf (insV vs k y).toArray (n + 1)) news news') (h : ∀ h', Fr h₀ L h' m → News h₀ L h' news' → Q .none { s with heap := h' }) :
    wpAny (model prog w) A (call (.builtin "list.insert") [.ref D, .int (k : Int) u, y]) Q E s := by
  have _ := hm
  refine kl_insert (its := vs.toArray) (n := n) (l := insV vs k y) (news' := news') F N ?_ ?_ U ?_ h
  · unfold Builtin.List.listFitsIndex
    simp only [Bool.and_eq_true, decide_eq_true_eq]
    omega
  · unfold kl_ins insV
    rw [if_neg (by omega)]
    have : min (k : Int).toNat vs.length = k := by omega
    simp only [this]
  · simp only []
    rw [sizeLine_eq]; omega
end
end Mine
end
section
open PySem PySem.W PySem.Spec PySem.Calls PyProof.Rows
namespace Mine
def goNames : List String := ["enumerate", "zip", "dict_itemiterator", "dict_reverseitemiterator", "odict_iterator", "itertools.zip_longest", "itertools.pairwise"]
/-- an iterator that is no pair-giving one is left alone by the loop's unpacking -/
theorem letGo_plain {prog : Program} {w : World} {A : Around} {E : Value → Shared → Prop} {s : Shared} {target : Expr} {I : Addr} {v : Value} {o : Obj} {n : String} {Q : Unit → Shared → Prop} (ho : s.heap.get? I = some o) (hc : o.cls = .type n) (hn : goNames.contains n = false) (hQ : Q () s) : wpAny (model prog w) A (letOwnedTupleGo target (.ref I) v) Q E s := by
  have key : ∀ a : Addr, wpAny (model prog w) A (do
      let o ← load I
      match o.cls, o.data with
      | .type n, .fields vs =>
        if goNames.contains n && vs[0]? == some (rawInt a) then
          rule "for.unpacks-the-owned-tuple"
          updateField I 0 .none
      | _, _ => pure ()) Q E s := by
    intro a
    refine wpAny_bind (wpAny_load ho ?_)
    rw [hc]
    cases o.data <;> first | exact wpAny_pure hQ | (simp only [hn, Bool.false_and, Bool.false_eq_true, if_false]; exact wpAny_pure hQ)
  cases target <;> first | exact wpAny_pure hQ | (cases v <;> first | exact wpAny_pure hQ | exact key _)

theorem my_compLoop {prog : Program} {w : World} {A : Around} {R : Result → Shared → Prop} {s : Shared} {elt target iter : Expr} {ifs : List Expr} {scope : Scope} {pos : Pos} {it acc : Value} {env : Env} (I : Nat → Shared → Prop)
    (turn : ∀ n s, I n s → wpAny (model prog w) A (pyNext it) (fun r s₁ => match r with
      | none => R (.ok .next) s₁
      | some v => wpAny (model prog w) A (letOwnedTupleGo target it v) (fun _ s₀ => wpAny (model prog w) A (assign target env v) (fun _ s₂ =>
          wpAny (model prog w) A (forIn ifs true fun c r => if r = true then do let ok ← isTrue c env (eval c env); pure (ForInStep.yield ok) else pure (ForInStep.yield r)) (fun ok s₃ =>
            if ok = true then wpAny (model prog w) A (eval elt env) (fun x s₄ =>
              wpAny (model prog w) A (call (.builtin "list.append") [acc, x]) (fun _ s₅ => ∃ m, m < n ∧ I m s₅) (notedBy (model prog w) A env fun e s' => R (.error e) s') s₄) (notedBy (model prog w) A env fun e s' => R (.error e) s') s₃
            else ∃ m, m < n ∧ I m s₃) (notedBy (model prog w) A env fun e s' => R (.error e) s') s₂) (notedBy (model prog w) A env fun e s' => R (.error e) s') s₀) (notedBy (model prog w) A env fun e s' => R (.error e) s') s₁) (notedBy (model prog w) A env fun e s' => R (.error e) s') s)
    (n : Nat) (h : I n s) :
    codeAny (model prog w) A (.compLoop (.ListComp elt [⟨target, iter, ifs, 0⟩] scope pos) 0 it acc env) R s := by
  refine codeAny_loop rfl I (fun n s hI => ?_) n h
  show wpAny _ A ((compTurn (.ListComp elt [⟨target, iter, ifs, 0⟩] scope pos) 0 it acc env).onRaise (fun x => do noteFrame x env; theTreesLotGoes x)) _ _ s
  refine wpAny_noted ?_
  rw [compTurn_list]
  refine wpAny_bind (wpAny_standAt (wpAny_bind (wpAny_mono (turn n s hI) (fun r s₁ h₁ => ?_) fun _ _ h' => h')))
  cases r with
  | none => exact wpAny_pure h₁
  | some v =>
    refine wpAny_bind (wpAny_mono h₁ (fun _ s₀ h₀' => ?_) fun _ _ h' => h')
    refine wpAny_bind (wpAny_mono h₀' (fun _ s₂ h₂ => wpAny_bind (wpAny_mono h₂ (fun ok s₃ h₃ => ?_) fun _ _ h' => h')) fun _ _ h' => h')
    cases ok with
    | false => exact wpAny_pure ⟨rfl, h₃⟩
    | true =>
      exact wpAny_bind (wpAny_bind (wpAny_mono h₃ (fun x s₄ h₄ => wpAny_bind (wpAny_mono h₄ (fun _ s₅ h₅ => wpAny_pure (wpAny_pure ⟨rfl, h₅⟩)) fun _ _ h' => h')) fun _ _ h' => h'))

/-- a comprehension's source: how its iterator goes, whatever else is turned meanwhile but what the ledger holds -/
structure SrcAt (prog : Program) (w : World) (A : Around) (h₀ : Heap) (L : Addr) (m : Str → Option Value) (news : List (Addr × Obj)) (n : Nat) (P : Nat → Value → Prop) (s₁ : Shared) (it : Value) (s₂ : Shared) : Prop where
  ex : ∃ (I : Addr) (fp : List Addr) (St : Nat → Heap → Prop), it = .ref I ∧ Walks prog w A I fp [I] n P St ∧ (∀ i h, St i h → ∃ o n, h.get? I = some o ∧ o.cls = .type n ∧ goNames.contains n = false) ∧
    (∀ i h h' o, St i h → h.get? I = some o → h'.get? I = some o → (∀ b o, h₀.get? b = some o → h'.get? b = some o) → News h₀ L h' news → St i h') ∧
    St 0 s₂.heap ∧ (∀ b ∈ fp, b < s₂.heap.objs.size) ∧ L ≠ I ∧ h₀.get? I = none ∧ (∀ p ∈ news, p.1 ≠ I) ∧ Fr h₀ L s₂.heap m ∧ News h₀ L s₂.heap news ∧ ∃ h, s₂ = { s₁ with heap := h }

section
variable {prog : Program} {w : World} {A : Around} {E : Value → Shared → Prop} {s : Shared} {h₀ : Heap} {L : Addr} {m : Str → Option Value} {news : List (Addr × Obj)}
theorem src_pushed {I : Addr} {oI : Obj} (F : Fr h₀ L s.heap m) (N : News h₀ L s.heap news) (hI : I = s.heap.objs.size) :
    L ≠ I ∧ h₀.get? I = none ∧ (∀ p ∈ news, p.1 ≠ I) ∧ Fr h₀ L (s.heap.push oI) m ∧ News h₀ L (s.heap.push oI) news := by
  subst hI
  exact ⟨Nat.ne_of_lt F.ns.lt, next_is_new F, fun p hp => Nat.ne_of_lt (Heap.lt_size (N p hp).1), F.push _, fun p hp => ⟨Heap.get?_push_of_some _ (N p hp).1, (N p hp).2⟩⟩

theorem src_list {ax : Addr} {its : Array Value} {k : Nat} {Q : Value → Shared → Prop} (hh : A.handled = none) (F : Fr h₀ L s.heap m) (N : News h₀ L s.heap news) (hm : (ax, ({ cls := .type "list", data := .seq its k } : Obj)) ∈ news)
    (h : ∀ it s₂, SrcAt prog w A h₀ L m news its.size (fun i v => its[i]? = some v) s it s₂ → Q it s₂) : wpAny (model prog w) A (pyIter (.ref ax)) Q E s := by
  have hg := (N _ hm).1
  have hl : s.heap.IsList ax its := ⟨_, hg, rfl, k, rfl⟩
  have hlt : ax < s.heap.objs.size := Heap.lt_size hg
  refine wpAny_pyIter_list hl (h _ _ ⟨s.heap.objs.size, _, _, rfl, Walks.list hh s.heap.objs.size ax (Nat.ne_of_lt hlt) its, fun i h st => ?_, fun i h h' o st e e' hk N' => ?_, ⟨⟨_, Heap.get?_push_size _ rfl, rfl, rfl⟩, hl.push _⟩, fun b hb => ?_, ?_⟩)
  · obtain ⟨o, e, hc, _⟩ := st.1; exact ⟨o, "list_iterator", e, hc, by decide⟩
  · refine ⟨?_, ⟨_, (N' _ hm).1, rfl, k, rfl⟩⟩
    obtain ⟨o', q, r⟩ := st.1; rw [e] at q; cases q; exact ⟨o, e', r⟩
  · show b < (s.heap.push _).objs.size
    rw [Heap.size_push]
    rcases List.mem_cons.mp hb with rfl | hb
    · exact Nat.lt_succ_self _
    · rw [List.mem_singleton.mp hb]; exact Nat.lt_succ_of_lt hlt
  · obtain ⟨a1, a2, a3, a4, a5⟩ := src_pushed (oI := { cls := .type "list_iterator", data := .fields #[.ref ax, .int 0 0] }) F N rfl
    exact ⟨a1, a2, a3, a4, a5, _, rfl⟩
theorem src_tuple {ax : Addr} {its : Array Value} {k : Nat} {Q : Value → Shared → Prop} (hh : A.handled = none) (F : Fr h₀ L s.heap m) (N : News h₀ L s.heap news) (hm : (ax, ({ cls := .type "tuple", data := .seq its k } : Obj)) ∈ news)
    (h : ∀ it s₂, SrcAt prog w A h₀ L m news its.size (fun i v => its[i]? = some v) s it s₂ → Q it s₂) : wpAny (model prog w) A (pyIter (.ref ax)) Q E s := by
  have hg := (N _ hm).1
  have hl : s.heap.IsTuple ax its := ⟨_, hg, rfl, k, rfl⟩
  have hlt : ax < s.heap.objs.size := Heap.lt_size hg
  refine wpAny_pyIter_tuple hl (h _ _ ⟨s.heap.objs.size, _, _, rfl, Walks.tuple hh s.heap.objs.size ax (Nat.ne_of_lt hlt) its, fun i h st => ?_, fun i h h' o st e e' hk N' => ?_, ⟨⟨_, Heap.get?_push_size _ rfl, rfl, rfl⟩, hl.push _⟩, fun b hb => ?_, ?_⟩)
  · obtain ⟨o, e, hc, _⟩ := st.1; exact ⟨o, "tuple_iterator", e, hc, by decide⟩
  · refine ⟨?_, ⟨_, (N' _ hm).1, rfl, k, rfl⟩⟩
    obtain ⟨o', q, r⟩ := st.1; rw [e] at q; cases q; exact ⟨o, e', r⟩
  · show b < (s.heap.push _).objs.size
    rw [Heap.size_push]
    rcases List.mem_cons.mp hb with rfl | hb
    · exact Nat.lt_succ_self _
    · rw [List.mem_singleton.mp hb]; exact Nat.lt_succ_of_lt hlt
  · obtain ⟨a1, a2, a3, a4, a5⟩ := src_pushed (oI := { cls := .type "tuple_iterator", data := .fields #[.ref ax, .int 0 0] }) F N rfl
    exact ⟨a1, a2, a3, a4, a5, _, rfl⟩
theorem src_range {r : Addr} {a b : Int} {t u v : Tok} {n : Nat} {Q : Value → Shared → Prop} (hh : A.handled = none) (F : Fr h₀ L s.heap m) (N : News h₀ L s.heap news) (hr : IsRange s.heap r a b 1 t u v) (hsm : Builtin.Range.small a b 1 = true) (hn : Builtin.Range.rangeSize a b 1 = ((n : Nat) : Int))
    (h : ∀ it s₂, SrcAt prog w A h₀ L m news n (fun i v => ∃ t, v = .int (a + (i : Int)) t) s it s₂ → Q it s₂) : wpAny (model prog w) A (pyIter (.ref r)) Q E s := by
  refine wpAny_pyIter_range hr hsm (h _ _ ⟨s.heap.objs.size, _, _, rfl, LCg.range_walks hh a n, fun i h st => ⟨_, "range_iterator", st, rfl, by decide⟩, fun i h h' o st e e' hk N' => ?_, by show IsRangeIter _ _ _ _ _; rw [hn]; simpa using Heap.get?_push_size _ rfl, fun b hb => ?_, ?_⟩)
  · have st' : h.get? s.heap.objs.size = some _ := st
    show h'.get? s.heap.objs.size = some _
    rw [e', ← e]; exact st'
  · show b < (s.heap.push _).objs.size
    rw [Heap.size_push, List.mem_singleton.mp hb]
    exact Nat.lt_succ_self _
  · obtain ⟨a1, a2, a3, a4, a5⟩ := src_pushed (oI := _) F N rfl
    exact ⟨a1, a2, a3, a4, a5, _, rfl⟩

/-- behind a turn of a comprehension: the same ledger, one more word of what was built -/
def TurnEnd (h₀ : Heap) (L : Addr) (m : Str → Option Value) (s₁ : Shared) (led : List (Addr × Obj)) (J : Prop) (s₂ : Shared) : Prop :=
  ∃ h' tk, s₂ = { s₁ with heap := h', toks := tk } ∧ Fr h₀ L h' m ∧ News h₀ L h' led ∧ J
theorem TurnEnd.intro {s₁ : Shared} {led all : List (Addr × Obj)} {J : Prop} {h' : Heap} {tk : Nat} (F : Fr h₀ L h' m) (N : News h₀ L h' all) (hs : ∀ p ∈ led, p ∈ all) (j : J) : TurnEnd h₀ L m s₁ led J { s₁ with heap := h', toks := tk } :=
  ⟨h', tk, rfl, F, fun p hp => N p (hs p hp), j⟩

abbrev testsOf (ifs : List Expr) (env : Env) : Sem Bool := forIn ifs true fun c r => if r = true then do let ok ← isTrue c env (eval c env); pure (ForInStep.yield ok) else pure (ForInStep.yield r)

theorem comp_block {elt target iter : Expr} {ifs : List Expr} {scope : Scope} {cl : List (Str × Addr)} {pos : Pos} {env : Env} {s₁ s₂ : Shared} {it : Value} {n : Nat} {P : Nat → Value → Prop} {RR : Value → Addr → Result → Shared → Prop}
    (S : SrcAt prog w A h₀ L m news n P s₁ it s₂) (J : Nat → List Value → Prop) (B : Nat → Value → (Str → Option Value) → Prop) (hsz : n ≤ sizeLine)
    (hcell : ∀ y ∈ scope.names, y.2 ≠ .cell) (hkind : scope.kind = .function)
    (hasg : ∀ i v C m' (s' : Shared) (Q : Unit → Shared → Prop) (E' : Value → Shared → Prop), P i v → s'.heap.Ns C m' → News h₀ L s'.heap news →
      (∀ h' tk m'', h'.Ns C m'' → B i v m'' → (∀ c o, c ≠ C → s'.heap.get? c = some o → h'.get? c = some o) → Q () { s' with heap := h', toks := tk }) → wpAny (model prog w) A (assign target (compEnvC scope cl C env) v) Q E' s')
    (j0 : J 0 [])
    (turn : ∀ i v ys I oI C oC D m₂ h tk (E' : Value → Shared → Prop), i < n → P i v → J i ys → LCg.NsObj oC m₂ → B i v m₂ → Fr h₀ L h m → News h₀ L h ((I, oI) :: (C, oC) :: (D, LCg.lst ys) :: news) →
      wpAny (model prog w) A (testsOf ifs (compEnvC scope cl C env)) (fun ok s' => if ok = true then wpAny (model prog w) A (eval elt (compEnvC scope cl C env)) (fun y => TurnEnd h₀ L m { s₂ with heap := h, toks := tk } ((I, oI) :: (C, oC) :: (D, LCg.lst ys) :: news) (J (i + 1) (ys ++ [y]))) E' s'
        else TurnEnd h₀ L m { s₂ with heap := h, toks := tk } ((I, oI) :: (C, oC) :: (D, LCg.lst ys) :: news) (J (i + 1) ys) s') E' { s₂ with heap := h, toks := tk })
    (hlen : ∀ i ys, J i ys → ys.length ≤ i)
    (hRR : ∀ D C h tk m' ys, Fr h₀ L h m → News h₀ L h ((D, LCg.lst ys) :: news) → (∀ p ∈ news, p.1 < D) → h.Ns C m' → h₀.get? C = none → h₀.get? D = none → C ≠ L → D ≠ L → C ≠ D → (∀ p ∈ news, p.1 ≠ C) → J n ys → RR (.ref D) C (.ok .next) { s₂ with heap := h, toks := tk }) :
    wpAny (model prog w) A (newList []) (fun acc s₃ => wpAny (model prog w) A (newFunctionEnv scope env.globals cl [] env.qual none .none (some env)) (fun cenv s₄ =>
      codeAny (model prog w) A (.compStart (.ListComp elt [⟨target, iter, ifs, 0⟩] scope pos) 0 it acc { cenv with scope := relabel scope env }) (RR acc cenv.locals) s₄) E s₃) E s₂ := by
  obtain ⟨I, fp, St, rfl, W, hIo, hSt, hst, hfp, hIL, hI₀, off, F, N, g, rfl⟩ := S.ex
  refine wpAny_newObj_type (wpAny_newFunctionEnv hcell (by intro y hy; simp at hy) (fun h₁ hns₁ hsb₁ => ?_) hkind)
  dsimp only at F N hst hfp hns₁ hsb₁ ⊢
  generalize hH2 : g.push { cls := .type "list", dict := none, data := .seq ([] : List Value).toArray } = H2 at hns₁ hsb₁ ⊢
  have hC : H2.objs.size = g.objs.size + 1 := by rw [← hH2, Heap.size_push]
  have hlt : ∀ b, b < g.objs.size → b ≠ H2.objs.size ∧ b ≠ g.objs.size := fun b hb => ⟨by rw [hC]; exact Nat.ne_of_lt (Nat.lt_succ_of_lt hb), Nat.ne_of_lt hb⟩
  have hDC : g.objs.size ≠ H2.objs.size := by rw [hC]; exact Nat.ne_of_lt (Nat.lt_succ_self _)
  have old : ∀ b o, g.get? b = some o → h₁.get? b = some o := fun b o e => hsb₁.extBut b o (hlt b (Heap.lt_size e)).1 (Heap.get?_push_of_some _ (hH2 ▸ Heap.get?_push_of_some _ e))
  have hacc : h₁.get? g.objs.size = some (LCg.lst []) := hsb₁.extBut _ _ hDC (Heap.get?_push_of_some _ (hH2 ▸ Heap.get?_push_size _ rfl))
  have none₀ : ∀ a, g.objs.size ≤ a → h₀.get? a = none := fun a ha => by
    cases e : h₀.get? a with
    | none => rfl
    | some o => exact absurd (Heap.lt_size (F.keep a o e)) (Nat.not_lt.mpr ha)
  have hD₀ := none₀ _ (Nat.le_refl g.objs.size)
  have hC₀ := none₀ H2.objs.size (by rw [hC]; exact Nat.le_succ _)
  have hLlt : L < g.objs.size := F.ns.lt
  have hDL : g.objs.size ≠ L := Ne.symm (hlt L hLlt).2
  have hCL : H2.objs.size ≠ L := Ne.symm (hlt L hLlt).1
  have hIlt : I < g.objs.size := hfp I (W.sub I (List.mem_singleton.mpr rfl))
  have nlt : ∀ p ∈ news, p.1 < g.objs.size := fun p hp => Heap.lt_size (N p hp).1
  have hCf : H2.objs.size ∉ fp := fun hm => by have := hfp _ hm; rw [hC] at this; exact Nat.lt_irrefl _ (Nat.lt_of_succ_lt this)
  have hDf : g.objs.size ∉ fp := fun hm => Nat.lt_irrefl _ (hfp _ hm)
  have loop : ∀ s₃ : Shared, s₃ = { s₁ with heap := h₁, toks := s₁.toks + ([] : List (Str × Value)).length } →
      codeAny (model prog w) A (.compLoop (.ListComp elt [⟨target, iter, ifs, 0⟩] scope pos) 0 (.ref I) (.ref g.objs.size) (compEnvC scope cl H2.objs.size env)) (RR (.ref g.objs.size) H2.objs.size) s₃ := by
    rintro s₃ rfl
    refine my_compLoop
      (fun k s' => ∃ h' tk i ys m', s' = { s₁ with heap := h', toks := tk } ∧ i ≤ n ∧ k = n + 1 - i ∧ J i ys ∧ St i h' ∧ Fr h₀ L h' m ∧ h'.Ns H2.objs.size m' ∧ News h₀ L h' ((g.objs.size, LCg.lst ys) :: news)) ?_ (n + 1)
      ⟨h₁, _, 0, [], _, rfl, Nat.zero_le _, rfl, j0, W.frame _ _ _ hst fun b _ o e => old b o e, F.keeps old, hns₁, ?_⟩
    · rintro k s' ⟨h', tk, i, ys, m', rfl, hi, rfl, hJ, hst', F', hn', N'⟩
      by_cases hin : i < n
      · refine W.item i _ _ _ hin hst' fun v h₂ tk₂ hP hst₂ hk₂ => ?_
        have hk₂' : ∀ b o, b ≠ I → h'.get? b = some o → h₂.get? b = some o := fun b o hb e => hk₂ b o (by simpa using hb) e
        have F₂ : Fr h₀ L h₂ m := ⟨F'.ns.at' fun o e => hk₂' L o hIL e, fun b o e => hk₂' b o (fun q => by rw [q, hI₀] at e; cases e) (F'.keep b o e), F'.above⟩
        have N₂ : News h₀ L h₂ ((g.objs.size, LCg.lst ys) :: news) := fun p hp => by
          refine ⟨hk₂' _ _ ?_ (N' p hp).1, (N' p hp).2⟩
          rcases List.mem_cons.mp hp with rfl | hp
          · exact Ne.symm (hlt I hIlt).2
          · exact off p hp
        have hn₂ : h₂.Ns H2.objs.size m' := hn'.at' fun o e => hk₂' _ o (Ne.symm (hlt I hIlt).1) e
        obtain ⟨oJ, nJ, heJ, hcJ, hnJ⟩ := hIo _ _ hst₂
        refine letGo_plain heJ hcJ hnJ ?_
        refine hasg i v _ m' { s₁ with heap := h₂, toks := tk₂ } _ _ hP hn₂ (fun p hp => N₂ p (List.mem_cons_of_mem _ hp)) fun h₃ tk₃ m₃ hn₃ hB hk₃ => ?_
        have hst₃ : St (i + 1) h₃ := W.frame _ _ _ hst₂ fun b hb o e => hk₃ b o (fun q => hCf (by have q' : b = H2.objs.size := q; rw [← q']; exact hb)) e
        have F₃ : Fr h₀ L h₃ m := ⟨F₂.ns.at' fun o e => hk₃ L o (Ne.symm hCL) e, fun b o e => hk₃ b o (fun q => by rw [q, hC₀] at e; cases e) (F₂.keep b o e), F₂.above⟩
        obtain ⟨oI, _, heI, _, _⟩ := hIo _ _ hst₃
        obtain ⟨oC, heC, hoC⟩ := LCg.ns_obj hn₃
        have N₃ : News h₀ L h₃ ((I, oI) :: (H2.objs.size, oC) :: (g.objs.size, LCg.lst ys) :: news) := fun p hp => by
          rcases List.mem_cons.mp hp with rfl | hp
          · exact ⟨heI, Ne.symm hIL, hI₀⟩
          · rcases List.mem_cons.mp hp with rfl | hp
            · exact ⟨heC, hCL, hC₀⟩
            · refine ⟨hk₃ _ _ ?_ (N₂ p hp).1, (N₂ p hp).2⟩
              rcases List.mem_cons.mp hp with rfl | hp
              · exact hDC
              · exact (hlt _ (nlt p hp)).1
        have back : ∀ h₄ tk₄ ys', Fr h₀ L h₄ m → News h₀ L h₄ ((I, oI) :: (H2.objs.size, oC) :: (g.objs.size, LCg.lst ys) :: news) → ys'.length ≤ i + 1 → ∀ h₅, Heap.SameBut g.objs.size h₄ h₅ → h₅.get? g.objs.size = some (LCg.lst ys') → J (i + 1) ys' →
            ∃ m', m' < n + 1 - i ∧ ∃ h' tk j ys m'', ({ s₁ with heap := h₅, toks := tk₄ } : Shared) = { s₁ with heap := h', toks := tk } ∧ j ≤ n ∧ m' = n + 1 - j ∧ J j ys ∧ St j h' ∧ Fr h₀ L h' m ∧ h'.Ns H2.objs.size m'' ∧ News h₀ L h' ((g.objs.size, LCg.lst ys) :: news) := by
          intro h₄ tk₄ ys' F₄ N₄ _ h₅ hs₅ hD₅ hJ'
          have zI := (N₄ (I, oI) List.mem_cons_self).1
          have zC := (N₄ (H2.objs.size, oC) (List.mem_cons_of_mem _ List.mem_cons_self)).1
          have N₄' : News h₀ L h₄ news := fun p hp => N₄ p (List.mem_cons_of_mem _ (List.mem_cons_of_mem _ (List.mem_cons_of_mem _ hp)))
          have hst₄ : St (i + 1) h₄ := hSt _ _ _ _ hst₃ heI zI F₄.keep N₄'
          refine ⟨n + 1 - (i + 1), by omega, h₅, tk₄, i + 1, ys', m₃, rfl, hin, rfl, hJ', W.frame _ _ _ hst₄ fun b hb o e => hs₅.extBut b o (fun q => hDf (by have q' : b = g.objs.size := q; rw [← q']; exact hb)) e, F₄.change hs₅ hDL hD₀,
            (hoC.ns zC).sameBut hs₅ (Ne.symm hDC), fun p hp => ?_⟩
          rcases List.mem_cons.mp hp with rfl | hp
          · exact ⟨hD₅, hDL, hD₀⟩
          · exact ⟨hs₅.extBut _ _ (hlt _ (nlt p hp)).2 (N₄' p hp).1, (N₄' p hp).2⟩
        refine wpAny_mono (turn i v ys I oI H2.objs.size oC g.objs.size m₃ h₃ tk₃ _ hin hP hJ hoC hB F₃ N₃) (fun ok s₄ h₄ => ?_) fun _ _ e => e
        cases ok with
        | false =>
          simp only [Bool.false_eq_true, if_false] at h₄ ⊢
          obtain ⟨h₄, tk₄, rfl, F₄, N₄, hJ'⟩ := h₄
          exact back h₄ tk₄ ys F₄ N₄ (hlen _ _ hJ') h₄ (Heap.SameBut.refl _ _) ((N₄ _ (List.mem_cons_of_mem _ (List.mem_cons_of_mem _ List.mem_cons_self))).1) hJ'
        | true =>
          simp only [if_true] at h₄ ⊢
          refine wpAny_mono h₄ (fun y s₅ h₅ => ?_) fun _ _ e => e
          obtain ⟨h₅, tk₅, rfl, F₅, N₅, hJ'⟩ := h₅
          have hl' := hlen _ _ hJ'
          refine append_at (hsz := by show ys.toArray.size ≤ sizeLine; rw [List.size_toArray]; have := hlen _ _ hJ; exact Nat.le_trans this (Nat.le_trans hi hsz)) ((N₅ _ (List.mem_cons_of_mem _ (List.mem_cons_of_mem _ List.mem_cons_self))).1) fun h₆ hs₆ hD₆ => ?_
          exact back h₅ tk₅ (ys ++ [y]) F₅ N₅ hl' h₆ hs₆ (hD₆.trans (congrArg some (LCg.lst_snoc ys y))) hJ'
      · obtain rfl : i = n := Nat.le_antisymm hi (Nat.not_lt.mp hin)
        refine W.done _ _ _ hst' fun h₂ tk₂ hk₂ => ?_
        have hk₂' : ∀ b o, b ≠ I → h'.get? b = some o → h₂.get? b = some o := fun b o hb e => hk₂ b o (by simpa using hb) e
        refine hRR _ _ h₂ tk₂ _ ys ⟨F'.ns.at' fun o e => hk₂' L o hIL e, fun b o e => hk₂' b o (fun q => by rw [q, hI₀] at e; cases e) (F'.keep b o e), F'.above⟩ (fun p hp => ?_) nlt (hn'.at' fun o e => hk₂' _ o (Ne.symm (hlt I hIlt).1) e) hC₀ hD₀ hCL hDL (Ne.symm hDC) (fun p hp => (hlt _ (nlt p hp)).1) hJ
        refine ⟨hk₂' _ _ ?_ (N' p hp).1, (N' p hp).2⟩
        rcases List.mem_cons.mp hp with rfl | hp
        · exact Ne.symm (hlt I hIlt).2
        · exact off p hp
    · intro p hp
      rcases List.mem_cons.mp hp with rfl | hp
      · exact ⟨hacc, hDL, hD₀⟩
      · exact ⟨old _ _ (N p hp).1, (N p hp).2⟩
  exact codeAny_compStart_list (loop _ rfl) (W.self 0 _ _ _ (W.frame _ _ _ hst fun b _ o e => old b o e) (loop _ rfl))

def CFinE (Q : Value → Shared → Prop) (h₀ : Heap) (L : Addr) (m : Str → Option Value) (led : List (Addr × Obj)) (D : Addr) (s₂ : Shared) : Prop :=
  ∀ h tk, Fr h₀ L h m → News h₀ L h led → Q (.ref D) { s₂ with heap := h, toks := tk }
def CFinA (y : Str) (Q : Flow → Shared → Prop) (h₀ : Heap) (L : Addr) (m : Str → Option Value) (led : List (Addr × Obj)) (D : Addr) (s₂ : Shared) : Prop :=
  ∀ h tk, Fr h₀ L h (fun z => if z = y then some (.ref D) else m z) → News h₀ L h led → Q .next { s₂ with heap := h, toks := tk }
/-- what a comprehension asks behind its iterator -/
def CompOK (prog : Program) (w : World) (A : Around) (L : Addr) (env : Env) (elt target : Expr) (ifs : List Expr) (scope : Scope) (cl : List (Str × Addr))
    (Fin : Heap → Addr → (Str → Option Value) → List (Addr × Obj) → Addr → Shared → Prop) (s₁ : Shared) (it : Value) (s₂ : Shared) : Prop :=
  ∃ (h₀ : Heap) (m : Str → Option Value) (news : List (Addr × Obj)) (n : Nat) (P : Nat → Value → Prop) (J : Nat → List Value → Prop) (B : Nat → Value → (Str → Option Value) → Prop),
    SrcAt prog w A h₀ L m news n P s₁ it s₂ ∧ n ≤ sizeLine ∧
    (∀ i v C m' (s' : Shared) (Q : Unit → Shared → Prop) (E' : Value → Shared → Prop), P i v → s'.heap.Ns C m' → News h₀ L s'.heap news →
      (∀ h' tk m'', h'.Ns C m'' → B i v m'' → (∀ c o, c ≠ C → s'.heap.get? c = some o → h'.get? c = some o) → Q () { s' with heap := h', toks := tk }) → wpAny (model prog w) A (assign target (compEnvC scope cl C env) v) Q E' s') ∧
    J 0 [] ∧
    (∀ i v ys I oI C oC D m₂ h tk (E' : Value → Shared → Prop), i < n → P i v → J i ys → LCg.NsObj oC m₂ → B i v m₂ → Fr h₀ L h m → News h₀ L h ((I, oI) :: (C, oC) :: (D, LCg.lst ys) :: news) →
      wpAny (model prog w) A (testsOf ifs (compEnvC scope cl C env)) (fun ok s' => if ok = true then wpAny (model prog w) A (eval elt (compEnvC scope cl C env)) (fun y => TurnEnd h₀ L m { s₂ with heap := h, toks := tk } ((I, oI) :: (C, oC) :: (D, LCg.lst ys) :: news) (J (i + 1) (ys ++ [y]))) E' s'
        else TurnEnd h₀ L m { s₂ with heap := h, toks := tk } ((I, oI) :: (C, oC) :: (D, LCg.lst ys) :: news) (J (i + 1) ys) s') E' { s₂ with heap := h, toks := tk }) ∧
    (∀ i ys, J i ys → ys.length ≤ i) ∧
    (∀ D ys, J n ys → (∀ p ∈ news, p.1 < D) → Fin h₀ L m ((D, listOf ys.toArray ys.length) :: news) D s₂)

theorem comp_e {elt target iter : Expr} {ifs : List Expr} {scope : Scope} {cl : List (Str × Addr)} {pos : Pos} {env : Env} {Q : Value → Shared → Prop}
    (hLe : env.locals = L) (hclos : closureFor scope env = pure cl) (hcell : ∀ y ∈ scope.names, y.2 ≠ .cell) (hkind : scope.kind = .function)
    (hnames : ∀ y ∈ scope.names, y.2 = .local → scope.names.lookup y.1 = some .local) (hs : ∀ x, foldedSetIterable iter env x = pure x)
    (h : wpAny (model prog w) A (eval iter env) (fun xv s₁ => wpAny (model prog w) A (pyIter xv) (CompOK prog w A L env elt target ifs scope cl (CFinE Q) s₁) E s₁) E s) :
    wpAny (model prog w) A (eval (.ListComp elt [⟨target, iter, ifs, 0⟩] scope pos) env) Q E s := by
  have _ := hLe
  rw [eval_ListComp]
  refine wpAny_comprehension_free (use := none) rfl hs hclos hkind hnames (wpAny_mono h (fun xv s₁ h₁ => wpAny_mono h₁ (fun it s₂ h₂ => ?_) fun _ _ e => e) fun _ _ e => e)
  obtain ⟨h₀, m, news, n, P, J, B, S, hsz, hasg, j0, turn, hlen, fin⟩ := h₂
  refine comp_block S J B hsz hcell hkind hasg j0 turn hlen ?_
  intro D C h tk m' ys F' N' hlt hn hC₀ hD₀ hCL hDL hCD offC hJ
  refine ⟨m', hn, fun h'' hs'' => fin D ys hJ hlt h'' tk (F'.change hs'' hCL hC₀) (fun p hp => ?_)⟩
  refine ⟨hs''.extBut _ _ ?_ (N' p hp).1, (N' p hp).2⟩
  rcases List.mem_cons.mp hp with rfl | hp
  · exact Ne.symm hCD
  · exact offC p hp

theorem comp_a {elt target iter : Expr} {ifs : List Expr} {y : Str} {py : Pos} {scope : Scope} {cl : List (Str × Addr)} {pos spos : Pos} {env : Env} {Q : Flow → Shared → Prop} (hLe : env.locals = L)
    (hsw : swapsWith (.ListComp elt [⟨target, iter, ifs, 0⟩] scope pos) (some (.Name y py)) spos.line env = pure true)
    (hclos : closureFor scope env = pure cl) (hcell : ∀ y ∈ scope.names, y.2 ≠ .cell) (hkind : scope.kind = .function)
    (hnames : ∀ y ∈ scope.names, y.2 = .local → scope.names.lookup y.1 = some .local) (hs : ∀ x, foldedSetIterable iter env x = pure x)
    (hy : env.kindOf y = some .local) (hp : (env.scope.kind == .class || (env.scope.kind == .module && env.locals != env.globals)) = false)
    (h : wpAny (model prog w) A (eval iter env) (fun xv s₁ => wpAny (model prog w) A (pyIter xv) (CompOK prog w A L env elt target ifs scope cl (CFinA y Q) s₁) E s₁) E s) :
    wpAny (model prog w) A (exec (.Assign [.Name y py] (.ListComp elt [⟨target, iter, ifs, 0⟩] scope pos) spos) env) Q E s := by
  subst hLe
  rw [exec_Assign_Name_used _ _ _ _ hsw]
  refine wpAny_bind (wpAny_standAt (wpAny_bind ?_))
  show wpAny _ A (do let _ ← comprehension (.ListComp elt [⟨target, iter, ifs, 0⟩] scope pos) scope env _ (newList []) false (eval iter env) (some (assign (.Name y py) env))) _ _ s
  refine wpAny_bind (wpAny_mono (wpAny_comprehension_free (use := some (assign (.Name y py) env)) (Q := fun _ s' => Q .next s') rfl hs hclos hkind hnames
    (wpAny_mono h (fun xv s₁ h₁ => wpAny_mono h₁ (fun it s₂ h₂ => ?_) fun _ _ e => e) fun _ _ e => e)) (fun _ s' hq => wpAny_pure (wpAny_pure hq)) fun _ _ e => e)
  obtain ⟨h₀, m, news, n, P, J, B, S, hsz, hasg, j0, turn, hlen, fin⟩ := h₂
  refine comp_block S J B hsz hcell hkind hasg j0 turn hlen ?_
  intro D C h' tk m' ys F' N' hlt hn hC₀ hD₀ hCL hDL hCD offC hJ
  show wpAny _ A (assign (.Name y py) env (.ref D)) _ _ _
  refine wpAny_assign_Name (wpAny_storeName_local hy F'.ns (fun h₂ hn₂ hs₂ => ?_) hp)
  refine ⟨m', hn.sameBut hs₂ hCL, fun h'' hs'' => fin D ys hJ hlt h'' _ ((F'.set hn₂ hs₂).change hs'' hCL hC₀) (fun p hp => ?_)⟩
  have z : h₂.get? p.1 = some p.2 := hs₂.extBut _ _ (N' p hp).2.1 (N' p hp).1
  refine ⟨hs''.extBut _ _ ?_ z, (N' p hp).2⟩
  rcases List.mem_cons.mp hp with rfl | hp
  · exact Ne.symm hCD
  · exact offC p hp

/-- a name as the target -/
theorem CompOK.name {elt : Expr} {x : Str} {px : Pos} {ifs : List Expr} {scope : Scope} {cl : List (Str × Addr)} {env : Env} {Fin : Heap → Addr → (Str → Option Value) → List (Addr × Obj) → Addr → Shared → Prop} {s₁ s₂ : Shared} {it : Value} {n : Nat} {P : Nat → Value → Prop}
    (J : Nat → List Value → Prop) (hx : scope.names.lookup x = some .local) (hkind : scope.kind = .function) (S : SrcAt prog w A h₀ L m news n P s₁ it s₂) (hsz : n ≤ sizeLine) (j0 : J 0 [])
    (turn : ∀ i v ys I oI C oC D m₂ h tk (E' : Value → Shared → Prop), i < n → P i v → J i ys → LCg.NsObj oC m₂ → m₂ x = some v → Fr h₀ L h m → News h₀ L h ((I, oI) :: (C, oC) :: (D, LCg.lst ys) :: news) →
      wpAny (model prog w) A (testsOf ifs (compEnvC scope cl C env)) (fun ok s' => if ok = true then wpAny (model prog w) A (eval elt (compEnvC scope cl C env)) (fun y => TurnEnd h₀ L m { s₂ with heap := h, toks := tk } ((I, oI) :: (C, oC) :: (D, LCg.lst ys) :: news) (J (i + 1) (ys ++ [y]))) E' s'
        else TurnEnd h₀ L m { s₂ with heap := h, toks := tk } ((I, oI) :: (C, oC) :: (D, LCg.lst ys) :: news) (J (i + 1) ys) s') E' { s₂ with heap := h, toks := tk })
    (hlen : ∀ i ys, J i ys → ys.length ≤ i)
    (fin : ∀ D ys, J n ys → (∀ p ∈ news, p.1 < D) → Fin h₀ L m ((D, listOf ys.toArray ys.length) :: news) D s₂) : CompOK prog w A L env elt (.Name x px) ifs scope cl Fin s₁ it s₂ := by
  refine ⟨h₀, m, news, n, P, J, fun _ v m₂ => m₂ x = some v, S, hsz, ?_, j0, turn, hlen, fin⟩
  intro i v C m' s' Q E' _ hn _ hq
  refine wpAny_assign_Name (wpAny_storeName_local (lookup_relabel_local hx) hn (fun h₃ hn₃ hs₃ => ?_) (by simp [compEnvC, relabel, hkind]))
  exact hq h₃ _ _ hn₃ (by simp) fun c o hc e => hs₃.extBut c o hc e

end
end Mine
end
section
open PySem PySem.W PySem.Spec PySem.Calls PyProof.Rows
namespace Mine

/-- a for loop's source: how its iterator goes as long as the ledger is S -/
structure SrcF (prog : Program) (w : World) (A : Around) (h₀ : Heap) (L : Addr) (m : Str → Option Value) (news : List (Addr × Obj)) (S : List (Addr × Obj) → Prop) (n : Nat) (P : Nat → Value → Prop) (s₁ : Shared) (it : Value) (s₂ : Shared) : Prop where
  ex : ∃ (I : Addr) (fp : List Addr) (St : Nat → Heap → Prop), it = .ref I ∧ Walks prog w A I fp [I] n P St ∧ (∀ i h, St i h → ∃ o n, h.get? I = some o ∧ o.cls = .type n ∧ goNames.contains n = false) ∧
    (∀ i h h' o nw, St i h → h.get? I = some o → h'.get? I = some o → (∀ b o, h₀.get? b = some o → h'.get? b = some o) → News h₀ L h' nw → S nw → St i h') ∧
    St 0 s₂.heap ∧ L ≠ I ∧ h₀.get? I = none ∧ (∀ p ∈ news, p.1 < I) ∧ Fr h₀ L s₂.heap m ∧ News h₀ L s₂.heap news ∧ ∃ h, s₂ = { s₁ with heap := h }

section
variable {prog : Program} {w : World} {A : Around} {E : Value → Shared → Prop} {s : Shared} {h₀ : Heap} {L : Addr} {m : Str → Option Value} {news : List (Addr × Obj)}
theorem srcF_list {ax : Addr} {its : Array Value} {k : Nat} {Q : Value → Shared → Prop} (hh : A.handled = none) (F : Fr h₀ L s.heap m) (N : News h₀ L s.heap news) (hm : (ax, ({ cls := .type "list", data := .seq its k } : Obj)) ∈ news)
    (h : ∀ it s₂, SrcF prog w A h₀ L m news (fun nw => (ax, ({ cls := .type "list", data := .seq its k } : Obj)) ∈ nw) its.size (fun i v => its[i]? = some v) s it s₂ → Q it s₂) : wpAny (model prog w) A (pyIter (.ref ax)) Q E s := by
  have hg := (N _ hm).1
  have hl : s.heap.IsList ax its := ⟨_, hg, rfl, k, rfl⟩
  have hlt : ax < s.heap.objs.size := Heap.lt_size hg
  refine wpAny_pyIter_list hl (h _ _ ⟨s.heap.objs.size, _, _, rfl, Walks.list hh s.heap.objs.size ax (Nat.ne_of_lt hlt) its, fun i h st => ?_, fun i h h' o nw st e e' hk N' hS => ?_, ⟨⟨_, Heap.get?_push_size _ rfl, rfl, rfl⟩, hl.push _⟩, ?_⟩)
  · obtain ⟨o, e, hc, _⟩ := st.1; exact ⟨o, "list_iterator", e, hc, by decide⟩
  · refine ⟨?_, ⟨_, (N' _ hS).1, rfl, k, rfl⟩⟩
    obtain ⟨o', q, r⟩ := st.1; rw [e] at q; cases q; exact ⟨o, e', r⟩
  · obtain ⟨a1, a2, a3, a4, a5⟩ := src_pushed (oI := { cls := .type "list_iterator", data := .fields #[.ref ax, .int 0 0] }) F N rfl
    exact ⟨a1, a2, fun p hp => Heap.lt_size (N p hp).1, a4, a5, _, rfl⟩
theorem srcF_range {r : Addr} {a b : Int} {t u v : Tok} {n : Nat} {Q : Value → Shared → Prop} (hh : A.handled = none) (F : Fr h₀ L s.heap m) (N : News h₀ L s.heap news) (hr : IsRange s.heap r a b 1 t u v) (hsm : Builtin.Range.small a b 1 = true) (hn : Builtin.Range.rangeSize a b 1 = ((n : Nat) : Int))
    (h : ∀ it s₂, SrcF prog w A h₀ L m news (fun _ => True) n (fun i v => ∃ t, v = .int (a + (i : Int)) t) s it s₂ → Q it s₂) : wpAny (model prog w) A (pyIter (.ref r)) Q E s := by
  refine wpAny_pyIter_range hr hsm (h _ _ ⟨s.heap.objs.size, _, _, rfl, LCg.range_walks hh a n, fun i h st => ⟨_, "range_iterator", st, rfl, by decide⟩, fun i h h' o nw st e e' hk N' _ => ?_, by show IsRangeIter _ _ _ _ _; rw [hn]; simpa using Heap.get?_push_size _ rfl, ?_⟩)
  · have st' : h.get? s.heap.objs.size = some _ := st
    show h'.get? s.heap.objs.size = some _
    rw [e', ← e]; exact st'
  · obtain ⟨a1, a2, a3, a4, a5⟩ := src_pushed (oI := _) F N rfl
    exact ⟨a1, a2, fun p hp => Heap.lt_size (N p hp).1, a4, a5, _, rfl⟩

/-- behind a turn of a loop -/
def ForEnd (h₀ : Heap) (L I : Addr) (oI : Obj) (s₁ : Shared) (J : (Str → Option Value) → List (Addr × Obj) → Prop) (s₂ : Shared) : Prop :=
  ∃ h' tk m' news', s₂ = { s₁ with heap := h', toks := tk } ∧ Fr h₀ L h' m' ∧ News h₀ L h' ((I, oI) :: news') ∧ (∀ p ∈ news', p.1 ≠ I) ∧ J m' news'
def ForPost (h₀ : Heap) (L I : Addr) (oI : Obj) (s₁ : Shared) (J : (Str → Option Value) → List (Addr × Obj) → Prop) (Q : Flow → Shared → Prop) (f : Flow) (s₂ : Shared) : Prop :=
  match f with
  | .ret v => Q (.ret v) s₂
  | .brk => Q .next s₂
  | _ => ForEnd h₀ L I oI s₁ J s₂
theorem ForEnd.intro {I : Addr} {oI : Obj} {s₁ : Shared} {J : (Str → Option Value) → List (Addr × Obj) → Prop} {h' : Heap} {tk : Nat} {m' : Str → Option Value} {all : List (Addr × Obj)} (news' : List (Addr × Obj)) (F : Fr h₀ L h' m') (N : News h₀ L h' all)
    (hs : ∀ p ∈ (I, oI) :: news', p ∈ all) (off : ∀ p ∈ news', p.1 ≠ I) (j : J m' news') : ForEnd h₀ L I oI s₁ J { s₁ with heap := h', toks := tk } :=
  ⟨h', tk, m', news', rfl, F, fun p hp => N p (hs p hp), off, j⟩

def LoopOK (prog : Program) (w : World) (A : Around) (L : Addr) (env : Env) (target : Expr) (body : List Stmt) (Q : Flow → Shared → Prop) (s₁ : Shared) (it : Value) (s₂ : Shared) : Prop :=
  ∃ (h₀ : Heap) (m : Str → Option Value) (news : List (Addr × Obj)) (S : List (Addr × Obj) → Prop) (n : Nat) (P : Nat → Value → Prop) (J : Nat → (Str → Option Value) → List (Addr × Obj) → Prop),
    SrcF prog w A h₀ L m news S n P s₁ it s₂ ∧ J 0 m news ∧ (∀ i m' news', J i m' news' → S news') ∧
    (∀ i v m₁ news₁ I oI h tk (E' : Value → Shared → Prop), i < n → P i v → J i m₁ news₁ → (∀ p ∈ news₁, p.1 ≠ I) → (∀ p ∈ news, p.1 < I) → Fr h₀ L h m₁ → News h₀ L h ((I, oI) :: news₁) →
      wpAny (model prog w) A (assign target env v) (fun _ s' => wpAny (model prog w) A (execs body env) (ForPost h₀ L I oI { s₂ with heap := h, toks := tk } (J (i + 1)) Q) E' s') E' { s₂ with heap := h, toks := tk }) ∧
    (∀ h tk m' news', J n m' news' → Fr h₀ L h m' → News h₀ L h news' → Q .next { s₂ with heap := h, toks := tk })

theorem for_rule {target iter : Expr} {body : List Stmt} {env : Env} {pos : Pos} {Q : Flow → Shared → Prop} (hs : ∀ x, foldedSetIterable iter env x = pure x)
    (h : wpAny (model prog w) A (eval iter env) (fun xv s₁ => wpAny (model prog w) A (pyIter xv) (LoopOK prog w A L env target body Q s₁) E s₁) E s) :
    wpAny (model prog w) A (exec (.For target iter body [] pos) env) Q E s := by
  refine wpAny_For (wpAny_mono h (fun xv s₁ h₁ => wpAny_mono h₁ (fun it s₂ h₂ => ?_) fun _ _ e => e) fun _ _ e => e) hs
  obtain ⟨h₀, m, news, S, n, P, J, src, j0, hJS, turn, done⟩ := h₂
  obtain ⟨I, fp, St, rfl, W, hIo, hSt, hst, hIL, hI₀, hltI, F, N, g, rfl⟩ := src.ex
  have off : ∀ p ∈ news, p.1 ≠ I := fun p hp => Nat.ne_of_lt (hltI p hp)
  refine codeAny_forLoop_any
    (fun k s' => ∃ h' tk m' news' i, s' = { s₁ with heap := h', toks := tk } ∧ St i h' ∧ Fr h₀ L h' m' ∧ News h₀ L h' news' ∧ (∀ p ∈ news', p.1 ≠ I) ∧ J i m' news' ∧ i ≤ n ∧ k = n + 1 - i) ?_ (n + 1)
    ⟨g, _, m, news, 0, rfl, hst, F, N, off, j0, Nat.zero_le _, rfl⟩
  rintro k s' ⟨h', tk, m', news', i, rfl, hst', F', N', off', hJ, hi, rfl⟩
  have next : ∀ h₁ : Heap, (∀ b o, b ∉ [I] → h'.get? b = some o → h₁.get? b = some o) → Fr h₀ L h₁ m' ∧ News h₀ L h₁ news' := fun h₁ hk₁ =>
    ⟨⟨F'.ns.at' fun o e => hk₁ _ o (by simpa using hIL) e, fun b o e => hk₁ b o (fun q => by rw [List.mem_singleton.mp q, hI₀] at e; cases e) (F'.keep b o e), F'.above⟩, fun p hp => ⟨hk₁ _ _ (by simpa using off' p hp) (N' p hp).1, (N' p hp).2⟩⟩
  by_cases hlt : i < n
  · refine W.item i _ _ _ hlt hst' fun v h₁ tk₁ hP hst₁ hk₁ => ?_
    obtain ⟨F₁, N₁⟩ := next h₁ hk₁
    obtain ⟨oI, nI, heI, hcI, hnI⟩ := hIo _ _ hst₁
    refine letGo_plain heI hcI hnI ?_
    refine wpAny_mono (turn i v m' news' I oI h₁ tk₁ _ hlt hP hJ off' hltI F₁ (fun p hp => ?_)) (fun _ s₃ h₃ => wpAny_mono h₃ (fun f s₄ h₄ => ?_) fun _ _ e => e) fun _ _ e => e
    · rcases List.mem_cons.mp hp with rfl | hp
      · exact ⟨heI, Ne.symm hIL, hI₀⟩
      · exact N₁ p hp
    · have fin : ForEnd h₀ L I oI { s₁ with heap := h₁, toks := tk₁ } (J (i + 1)) s₄ → ∃ m'', m'' < n + 1 - i ∧ ∃ h' tk m' news' j, s₄ = { s₁ with heap := h', toks := tk } ∧ St j h' ∧ Fr h₀ L h' m' ∧ News h₀ L h' news' ∧ (∀ p ∈ news', p.1 ≠ I) ∧ J j m' news' ∧ j ≤ n ∧ m'' = n + 1 - j := by
        rintro ⟨h₅, tk₄, m₄, news₄, rfl, F₄, N₄, off₄, hJ₄⟩
        have N₄' : News h₀ L h₅ news₄ := fun p hp => N₄ p (List.mem_cons_of_mem _ hp)
        exact ⟨n + 1 - (i + 1), by omega, h₅, tk₄, m₄, news₄, i + 1, rfl, hSt _ _ _ _ _ hst₁ heI (N₄ _ List.mem_cons_self).1 F₄.keep N₄' (hJS _ _ _ hJ₄), F₄, N₄', off₄, hJ₄, hlt, rfl⟩
      cases f with
      | ret v => exact h₄
      | brk => exact h₄
      | next => exact fin h₄
      | cont => exact fin h₄
  · have hin : i = n := by omega
    subst hin
    refine W.done _ _ _ hst' fun h₁ tk₁ hk₁ => wpAny_execs_nil ?_
    obtain ⟨F₁, N₁⟩ := next h₁ hk₁
    exact done h₁ tk₁ m' news' hJ F₁ N₁
end
end Mine
end
section
open PySem PySem.W PySem.Spec PySem.Calls PyProof.Rows
namespace Mine
section
variable {prog : Program} {w : World} {A : Around} {E : Value → Shared → Prop} {s : Shared} {h₀ : Heap} {L : Addr} {m : Str → Option Value} {news : List (Addr × Obj)}

/-- ints in, ints out, no test -/
theorem CompOK.ints {elt : Expr} {x : Str} {px : Pos} {scope : Scope} {cl : List (Str × Addr)} {env : Env} {Fin : Heap → Addr → (Str → Option Value) → List (Addr × Obj) → Addr → Shared → Prop} {s₁ s₂ : Shared} {it : Value} {n : Nat} {P : Nat → Value → Prop}
    (xs : List Int) (f : Int → Int) (hx : scope.names.lookup x = some .local) (hkind : scope.kind = .function) (S : SrcAt prog w A h₀ L m news n P s₁ it s₂) (hn : n = xs.length) (hsz : xs.length ≤ sizeLine)
    (hP : ∀ i v, P i v → i < n → ∃ y t, xs[i]? = some y ∧ v = .int y t)
    (turn : ∀ y t ys I oI C oC D m₂ h tk (E' : Value → Shared → Prop), y ∈ xs → LCg.NsObj oC m₂ → m₂ x = some (.int y t) → Fr h₀ L h m → News h₀ L h ((I, oI) :: (C, oC) :: (D, LCg.lst ys) :: news) →
      wpAny (model prog w) A (eval elt (compEnvC scope cl C env)) (fun z => TurnEnd h₀ L m { s₂ with heap := h, toks := tk } ((I, oI) :: (C, oC) :: (D, LCg.lst ys) :: news) (∃ t', z = .int (f y) t')) E' { s₂ with heap := h, toks := tk })
    (fin : ∀ D ys, IntsAre ys (xs.map f) → (∀ p ∈ news, p.1 < D) → Fin h₀ L m ((D, listOf ys.toArray ys.length) :: news) D s₂) : CompOK prog w A L env elt (.Name x px) [] scope cl Fin s₁ it s₂ := by
  subst hn
  refine CompOK.name (fun i ys => IntsAre ys ((xs.take i).map f)) hx hkind S hsz .nil ?_ ?_ ?_
  · intro i v ys I oI C oC D m₂ h tk E' hi hPv hJ hC hm F N
    obtain ⟨y, t, hy, rfl⟩ := hP i v hPv hi
    refine wpAny_tests_nil ?_
    simp only [if_true]
    refine wpAny_mono (turn y t ys I oI C oC D m₂ h tk E' (List.mem_of_getElem? hy) hC hm F N) (fun z s₃ h₃ => ?_) fun _ _ e => e
    obtain ⟨h', tk', rfl, F', N', t', rfl⟩ := h₃
    refine ⟨h', tk', rfl, F', N', ?_⟩
    rw [List.take_add_one, hy]
    simp only [Option.toList_some, List.map_append, List.map_cons, List.map_nil]
    exact PyProof.Rows.IntsAre.append hJ (.cons _ _ .nil)
  · intro i ys hJ
    have := hJ.length
    rw [this, List.length_map, List.length_take]; omega
  · intro D ys hJ hlt
    rw [List.take_length] at hJ
    exact fin D ys hJ hlt

/-- ints in, the same ints out where the test holds -/
theorem CompOK.filter {elt ct : Expr} {x : Str} {px : Pos} {scope : Scope} {cl : List (Str × Addr)} {env : Env} {Fin : Heap → Addr → (Str → Option Value) → List (Addr × Obj) → Addr → Shared → Prop} {s₁ s₂ : Shared} {it : Value} {n : Nat} {P : Nat → Value → Prop}
    (xs : List Int) (p : Int → Bool) (hx : scope.names.lookup x = some .local) (hkind : scope.kind = .function) (S : SrcAt prog w A h₀ L m news n P s₁ it s₂) (hn : n = xs.length) (hsz : xs.length ≤ sizeLine)
    (hP : ∀ i v, P i v → i < n → ∃ y t, xs[i]? = some y ∧ v = .int y t)
    (turn : ∀ y t ys I oI C oC D m₂ h tk (E' : Value → Shared → Prop), y ∈ xs → LCg.NsObj oC m₂ → m₂ x = some (.int y t) → Fr h₀ L h m → News h₀ L h ((I, oI) :: (C, oC) :: (D, LCg.lst ys) :: news) →
      wpAny (model prog w) A (isTrue ct (compEnvC scope cl C env) (eval ct (compEnvC scope cl C env))) (fun ok s' => if ok = true then wpAny (model prog w) A (eval elt (compEnvC scope cl C env)) (fun z => TurnEnd h₀ L m { s₂ with heap := h, toks := tk } ((I, oI) :: (C, oC) :: (D, LCg.lst ys) :: news) (p y = true ∧ ∃ t', z = .int y t')) E' s'
        else TurnEnd h₀ L m { s₂ with heap := h, toks := tk } ((I, oI) :: (C, oC) :: (D, LCg.lst ys) :: news) (p y = false) s') E' { s₂ with heap := h, toks := tk })
    (fin : ∀ D ys, IntsAre ys (xs.filter p) → (∀ p ∈ news, p.1 < D) → Fin h₀ L m ((D, listOf ys.toArray ys.length) :: news) D s₂) : CompOK prog w A L env elt (.Name x px) [ct] scope cl Fin s₁ it s₂ := by
  subst hn
  refine CompOK.name (fun i ys => IntsAre ys ((xs.take i).filter p)) hx hkind S hsz .nil ?_ ?_ ?_
  · intro i v ys I oI C oC D m₂ h tk E' hi hPv hJ hC hm F N
    obtain ⟨y, t, hy, rfl⟩ := hP i v hPv hi
    refine wpAny_tests_one (wpAny_mono (turn y t ys I oI C oC D m₂ h tk E' (List.mem_of_getElem? hy) hC hm F N) (fun ok s₃ h₃ => ?_) fun _ _ e => e)
    have e0 : xs.take (i + 1) = xs.take i ++ [y] := by rw [List.take_add_one, hy]; rfl
    cases ok with
    | true =>
      simp only [if_true] at h₃ ⊢
      refine wpAny_mono h₃ (fun z s₄ h₄ => ?_) fun _ _ e => e
      obtain ⟨h', tk', rfl, F', N', hp, t', rfl⟩ := h₄
      refine ⟨h', tk', rfl, F', N', ?_⟩
      rw [e0, List.filter_append]
      simp only [List.filter_cons, hp, if_true, List.filter_nil]
      exact PyProof.Rows.IntsAre.append hJ (.cons _ _ .nil)
    | false =>
      simp only [Bool.false_eq_true, if_false] at h₃ ⊢
      obtain ⟨h', tk', rfl, F', N', hp⟩ := h₃
      refine ⟨h', tk', rfl, F', N', ?_⟩
      rw [e0, List.filter_append]
      simp only [List.filter_cons, hp, Bool.false_eq_true, if_false, List.filter_nil, List.append_nil]
      exact hJ
  · intro i ys hJ
    have := hJ.length
    rw [this]
    exact Nat.le_trans (List.length_filter_le _ _) (by rw [List.length_take]; omega)
  · intro D ys hJ hlt
    rw [List.take_length] at hJ
    exact fin D ys hJ hlt
/-- nothing passes the test: an empty list -/
theorem CompOK.none {elt ct : Expr} {x : Str} {px : Pos} {scope : Scope} {cl : List (Str × Addr)} {env : Env} {Fin : Heap → Addr → (Str → Option Value) → List (Addr × Obj) → Addr → Shared → Prop} {s₁ s₂ : Shared} {it : Value} {n : Nat} {P : Nat → Value → Prop}
    (G : Value → Prop) (hx : scope.names.lookup x = some .local) (hkind : scope.kind = .function) (S : SrcAt prog w A h₀ L m news n P s₁ it s₂) (hsz : n ≤ sizeLine)
    (hP : ∀ i v, P i v → i < n → G v)
    (turn : ∀ v I oI C oC D m₂ h tk (E' : Value → Shared → Prop), G v → LCg.NsObj oC m₂ → m₂ x = some v → Fr h₀ L h m → News h₀ L h ((I, oI) :: (C, oC) :: (D, LCg.lst []) :: news) →
      wpAny (model prog w) A (isTrue ct (compEnvC scope cl C env) (eval ct (compEnvC scope cl C env))) (fun ok s' => if ok = true then False
        else TurnEnd h₀ L m { s₂ with heap := h, toks := tk } ((I, oI) :: (C, oC) :: (D, LCg.lst []) :: news) True s') E' { s₂ with heap := h, toks := tk })
    (fin : ∀ D, (∀ p ∈ news, p.1 < D) → Fin h₀ L m ((D, listOf ([] : List Value).toArray 0) :: news) D s₂) : CompOK prog w A L env elt (.Name x px) [ct] scope cl Fin s₁ it s₂ := by
  refine CompOK.name (fun i ys => ys = []) hx hkind S hsz rfl ?_ ?_ ?_
  · intro i v ys I oI C oC D m₂ h tk E' hi hPv hJ hC hm F N
    subst hJ
    refine wpAny_tests_one (wpAny_mono (turn v I oI C oC D m₂ h tk E' (hP i v hPv hi) hC hm F N) (fun ok s₃ h₃ => ?_) fun _ _ e => e)
    cases ok with
    | true => simp only [if_true] at h₃
    | false =>
      simp only [Bool.false_eq_true, if_false] at h₃ ⊢
      obtain ⟨h', tk', rfl, F', N', _⟩ := h₃
      exact ⟨h', tk', rfl, F', N', by trivial⟩
  · intro i ys hJ
    subst hJ; exact Nat.zero_le _
  · intro D ys hJ hlt
    subst hJ
    exact fin D hlt
theorem ints_at {its : Array Value} {xs : List Int} (hi : IntsAre its.toList xs) : its.size = xs.length ∧ ∀ i v, its[i]? = some v → i < its.size → ∃ y t, xs[i]? = some y ∧ v = .int y t := by
  have hl := hi.length
  refine ⟨by simpa using hl, fun i v hv hlt => ?_⟩
  have hx : i < xs.length := by rw [← hl]; simpa using hlt
  obtain ⟨t, ht⟩ := hi.get i xs[i] (by simp [hx])
  refine ⟨xs[i], t, by simp [hx], ?_⟩
  rw [← Array.getElem?_toList, ht] at hv
  exact (Option.some.inj hv).symm
end
end Mine
namespace Mine
theorem ints3 {ys : List Value} {a b c : Int} (h : IntsAre ys [a, b, c]) : ∃ t u v, ys = [.int a t, .int b u, .int c v] := by
  cases h with
  | cons _ t h => cases h with
    | cons _ u h => cases h with
      | cons _ v h => cases h with
        | nil => exact ⟨t, u, v, rfl⟩
def IsBool (v : Value) : Prop := ∃ b, v = .bool b
theorem bools3 {a b c : Bool} : ∀ (i : Nat) (v : Value), (#[.bool a, .bool b, .bool c] : Array Value)[i]? = some v → i < 3 → IsBool v := by
  intro i v hv hi
  match i, hi with
  | 0, _ => exact ⟨a, (Option.some.inj hv).symm⟩
  | 1, _ => exact ⟨b, (Option.some.inj hv).symm⟩
  | 2, _ => exact ⟨c, (Option.some.inj hv).symm⟩
end Mine
end
section
open PySem PySem.W PySem.Spec PySem.Calls PyProof.Rows
set_option maxRecDepth 100000
set_option maxHeartbeats 400000000
namespace Mine
def seen1 : Program := view PySem.Challenge.pw_ty0036_01 [1, 2, 3, 4, 5, 12, 13, 15, 16, 17, 18, 19, 21, 22, 23, 24, 25]
theorem left_two {p q : Program} {loose : List Str} {Xt : Shared → Bool} {α : Type} {Yf : Shared → α} {Ya : World → α} {N : Nat}
    (a : ∀ w, (openEnds treeTable p w N).map (openSeen q loose (importedModules p.main.body) Xt true) = some (openGood q loose))
    (b : ∀ w, (openEnds treeTable p w N).map Yf = some (Ya w)) : LeftO p q loose Xt Yf Ya N := fun w => by
  obtain ⟨s, e, a⟩ := Option.map_eq_some_iff.mp (a w)
  obtain ⟨s', e', b⟩ := Option.map_eq_some_iff.mp (b w)
  rw [e] at e' ⊢; cases e'
  rw [Option.map_some, a, b]
theorem look1 : looksOpen (OpenLaw.row PySem.Challenge.rw_ty0036_01).prog = true := by kernel_rfl
theorem said1 : OpenLaw.wellSaid PySem.Challenge.rw_ty0036_01 = true := by
  unfold OpenLaw.wellSaid OpenRow.wellSaid OpenRow.partSaid
  rw [look1]
  kernel_rfl
theorem left1 (w : World) : (openEnds treeTable (OpenLaw.row PySem.Challenge.rw_ty0036_01).prog w 1386).map (openSeen seen1 [Str.ofString "insort_right", Str.ofString "bisect_right", Str.ofString "insort_left", Str.ofString "bisect_left"] (importedModules (OpenLaw.row PySem.Challenge.rw_ty0036_01).prog.main.body) (fun s => xlAt seen1 [] s && recOk (RowW.records (OpenLaw.row PySem.Challenge.rw_ty0036_01).toRowW) s) true) = some (openGood seen1 [Str.ofString "insort_right", Str.ofString "bisect_right", Str.ofString "insort_left", Str.ofString "bisect_left"]) := by kernel_rfl
end Mine
section
local macro_rules | `(tactic| o_law) => `(tactic| (refine holds_law Mine.said1 fun said => ?_))
local macro_rules | `(tactic| o_head $H) => `(tactic| (
  refine holds_open (q := Mine.seen1) (loose := [Str.ofString "insort_right", Str.ofString "bisect_right", Str.ofString "insort_left", Str.ofString "bisect_left"]) (Xt := fun s => xlAt Mine.seen1 [] s && recOk (RowW.records (OpenRow.toRowW (OpenLaw.row PySem.Challenge.rw_ty0036_01))) s) (XP := XL Mine.seen1 []) (Yf := Hook.obs $H) (Ya := Hook.val $H) (YP := Hook.says $H) (N := 1386) (Mine.left_two Mine.left1 (fun w => by kernel_rfl)) (Hook.of $H) (Hook.keeps $H) (fun s e => xl_of s (Bool.and_eq_true_iff.mp e).1) XL.keeps (by rfl) (by rfl) (by rfl) (fun s e => recFacts_of (Bool.and_eq_true_iff.mp e).2) (by rfl) (by first | assumption | decide +kernel) (by decide +kernel) ⟨rfl, rfl, rfl, rfl, rfl, by decide +kernel⟩ ?hw ?hc))
namespace Mine
open_top hd1 for PySem.Challenge.rw_ty0036_01
end Mine
end
end
section
open PySem PySem.W PySem.Spec PySem.Calls PyProof.Rows
set_option maxRecDepth 100000
set_option maxHeartbeats 8000000
namespace Mine
abbrev P1 : Program := PySem.Challenge.rw_ty0036_01.row.toRowW.prog

/-- what a call of the def at f does, from any def's frame: r is the room that it wants -/
def Call1 (r : Nat) (w : World) (f : Addr) (news : List (Addr × Obj)) (vs : List Value) (R : (Value → List (Addr × Obj) → Prop)) : Prop :=
  ∀ (p : Program) (loose : List Str) (mean : ExcName → Option Value) (mg mb : Str → Option Value)
    (dp un : Nat) (gd : Option (List Code)) (cn : Str) (cs : Scope) (a : Addr) (ccd : Value) (cl : List (Str × Addr)) (outer : List Env) (A₀ : Around) (base h₀ : Heap) (L : Addr) (m : Str → Option Value) (s : Shared) (Q E : Value → Shared → Prop),
    Below A₀ base outer h₀ → Fr h₀ L s.heap m → (hd1.heap_1 w.params).In h₀ → News h₀ L s.heap news → Top p loose mean mg mb h₀ → cs.kind = .function →
    dp + r < recursionLimit → un + 8 * r < cLine →
    (∀ (v : Value) (news' : List (Addr × Obj)) (h' : Heap) (tk' : Nat), R v news' → Fr h₀ L h' m → News h₀ L h' news' → Q v { s with heap := h', toks := tk' }) →
    wpAny (model P1 w) (ktrTop dp un gd cn cs L a ccd cl outer) (call (.ref f) vs) Q E s
theorem Call1.weak {r : Nat} {w : World} {f : Addr} {need news : List (Addr × Obj)} {vs : List Value} {R R' : Value → List (Addr × Obj) → Prop} (h : Call1 r w f need vs R) (hs : ∀ p ∈ need, p ∈ news)
    (hR : ∀ v n', R v n' → ∃ n'', R' v n'' ∧ ∀ p ∈ n'', p ∈ n') : Call1 r w f news vs R' := by
  intro p loose mean mg mb dp un gd cn cs a ccd cl outer A₀ base h₀ L m s Q E B F X N T hk hdp hun hret
  refine h p loose mean mg mb dp un gd cn cs a ccd cl outer A₀ base h₀ L m s Q E B F X (fun q hq => N q (hs q hq)) T hk hdp hun ?_
  intro v n' h' tk' hr F' N'
  obtain ⟨n'', hr', hsub⟩ := hR v n' hr
  exact hret v n'' h' tk' hr' F' (fun q hq => N' q (hsub q hq))
theorem Call1.use {r : Nat} {w : World} {f : Addr} {news : List (Addr × Obj)} {vs : List Value} {R : Value → List (Addr × Obj) → Prop} (C : Call1 r w f news vs R)
    {p : Program} {loose : List Str} {mean : ExcName → Option Value} {mg mb : Str → Option Value}
    {dp un : Nat} {gd : Option (List Code)} {cn : Str} {cs : Scope} {a : Addr} {ccd : Value} {cl : List (Str × Addr)} {outer : List Env} {A₀ : Around} {base h₀ : Heap} {L : Addr} {m : Str → Option Value} {s : Shared} {Q E : Value → Shared → Prop}
    (B : Below A₀ base outer h₀) (F : Fr h₀ L s.heap m) (X : (hd1.heap_1 w.params).In h₀) (N : News h₀ L s.heap news) (T : Top p loose mean mg mb h₀) (hk : cs.kind = .function)
    (hd : dp + r < recursionLimit) (hu : un + 8 * r < cLine)
    (ret : ∀ (v : Value) (news' : List (Addr × Obj)) (h' : Heap) (tk' : Nat), R v news' → Fr h₀ L h' m → News h₀ L h' news' → Q v { s with heap := h', toks := tk' }) :
    wpAny (model P1 w) (ktrTop dp un gd cn cs L a ccd cl outer) (call (.ref f) vs) Q E s :=
  C _ _ _ _ _ _ _ _ _ _ _ _ _ _ _ _ _ _ _ _ _ _ B F X N T hk hd hu ret
theorem all_ne {news : List (Addr × Obj)} {d c : Nat} (h : ∀ p ∈ news, p.1 < d) (hc : d ≤ c) : ∀ p ∈ news, p.1 ≠ c := fun p hp => Nat.ne_of_lt (Nat.lt_of_lt_of_le (h p hp) hc)
end Mine
end
section
open Mine
local macro_rules | `(tactic| walk_at $s:str) => `(tactic| k_extra $s)
local macro_rules | `(tactic| k_all) => `(tactic| first | assumption | exact all_ne (by assumption) (by omega) | fail)
section
open PySem PySem.W PySem.Spec PySem.Calls PyProof.Rows
set_option maxRecDepth 100000
set_option maxHeartbeats 8000000
namespace Mine







/-- what it costs to put one letter in another's place -/
def scost (x y : Str) : Int := if x == y then 0 else if Txt.lower x == Txt.lower y then 1 else 2
theorem scost_0 {x y : Str} (h : (x == y) = true) : 0 = scost x y := by unfold scost; rw [h]; rfl
theorem scost_1 {x y : Str} (h : (x == y) = false) (h' : (Txt.lower x == Txt.lower y) = true) : 1 = scost x y := by unfold scost; rw [h, h']; rfl
theorem scost_2 {x y : Str} (h : (x == y) = false) (h' : (Txt.lower x == Txt.lower y) = false) : 2 = scost x y := by unfold scost; rw [h, h']; rfl
theorem sub_call (w : World) (news : List (Addr × Obj)) (t1 t2 : Tok) (x y : Str) (hx : x.length ≤ 1) (hy : y.length ≤ 1) :
    Call1 2 w 92 news [.str x t1, .str y t2] (fun v news' => (∃ t, v = .int (scost x y) t) ∧ news' = news) := by
  have hrow : PySem.Challenge.rw_ty0036_01.most = some 63 := rfl
  unfold Call1
  revert hrow
  k_with_none
  w_top off
  k_with "tb_start" => (k_dflt (first
  | (refine' code_def ?zqk1 ?zqk2 ?zqk3 ?zqk4 ?zqk5 ?zqkA ?zqkF ?zqkK ?zqk6 ?zqk7 ?zqk8 ?zqk9 ?zqkB ?_ ?zqc2 ?zqc3 ?zqc4 ?zqc5; (case zqkA => exact rfl); (case zqkF => exact rfl); (case zqkK => first | assumption | exact rfl); (case zqk1 => k_asm); (case zqk2 => k_asm); (case zqk3 => k_asm); (case zqk4 => k_asm); (case zqk5 => k_asm); (case zqk6 => k_is); (case zqk7 => k_is); (case zqk8 => ktr_room); (case zqk9 => first | exact BindsTo.of_eq rfl | (refine' kp_binds ?zqkx ?zqke; (case zqkx => k_in); (case zqke => exact fun _ => rfl))); (case zqc5 => decide); (case zqkB => exact locs rfl); (case zqc2 => exact rfl); (case zqc3 => exact rfl); (case zqc4 => exact rfl); k_whole; intro g' L' h' FG' F' N' B' X' T'; (try dsimp only); (try k_lift B'); (try k_fold))
  | (refine' code_defC ?zqk1 ?zqk2 ?zqk3 ?zqk4 ?zqk5 ?zqkA ?zqkF ?zqkK ?zqk6 ?zqk7 ?zqk8 ?zqk9 ?zqkB ?zqkD ?_ ?zqc2 ?zqc3 ?zqc4; (case zqkA => exact rfl); (case zqkF => exact rfl); (case zqkK => first | assumption | exact rfl); (case zqk1 => k_asm); (case zqk2 => k_asm); (case zqk3 => k_asm); (case zqk4 => k_asm); (case zqk5 => k_asm); (case zqk6 => k_is); (case zqk7 => k_is); (case zqk8 => ktr_room); (case zqk9 => first | exact BindsTo.of_eq rfl | (refine' kp_binds ?zqkx ?zqke; (case zqkx => k_in); (case zqke => exact fun _ => rfl))); (case zqkB => exact rfl); (case zqkD => decide +kernel); (case zqc2 => exact rfl); (case zqc3 => exact rfl); (case zqc4 => exact rfl); k_whole; intro g' L' h' tk' cells' FG' F' N' Y' B' X' T' l1; (try k_lt l1); k_cells Y'; (try simp only [List.cons_append, List.nil_append] at N'); (try dsimp only); (try k_lift B'); (try k_fold))))
  k_with "call ref" => ((k_here; refine wpAny_call ?_; k_extra "tb_start"))
  k_fill
  intro hrow
  clear hrow
  intro p loose mean mg mb dp un gd cn cs a ccd cl outer A₀ base h₀ L m s Q E B F X N T hk hdp hun hret
  refine wpAny_call ?_
  k_extra "tb_start"
  k_steps
  all_goals (refine hret _ _ _ _ ⟨ktn_int ?_, rfl⟩ (by k_asm) (by k_asm); first | exact scost_0 (by assumption) | exact scost_1 (by assumption) (by assumption) | exact scost_2 (by assumption) (by assumption))
end Mine
end
section
open PySem PySem.W PySem.Spec PySem.Calls PyProof.Rows
namespace Mine
/-- a text by its signs' numbers -/
def Tx (l : List Nat) : Str := ⟨l.toArray⟩
theorem Tx_len (l : List Nat) : (Tx l).length = l.length := by simp [Tx, Str.length]
theorem Tx_list (l : List Nat) : (Tx l).cps.toList = l := by simp [Tx]
theorem Tx_inj {a b : List Nat} : (Tx a == Tx b) = decide (a = b) := by
  by_cases h : a = b
  · subst h; simp
  · rw [decide_eq_false h]
    have hne : Tx a ≠ Tx b := fun q => h (by have := congrArg (fun x => x.cps.toList) q; simpa [Tx] using this)
    simpa using hne
theorem Tx_from {l : List Nat} {p : Nat} (h : p ≤ l.length) : Txt.slice (Tx l) (some (p : Int)) none = Tx (l.drop p) := by
  have := slice_closes_from (x := Tx l) (i := (p : Int)) (by rw [Tx_list]; omega)
  rw [eq_of_beq this, Tx_list]
  unfold Tx
  congr 2
  rw [Int.toNat_natCast, List.take_of_length_le (by rw [List.length_drop]; omega)]
theorem Tx_to {l : List Nat} {q : Nat} (h0 : 0 < q) (h : q ≤ l.length) : Txt.slice (Tx l) none (some (-(q : Int))) = Tx (l.take (l.length - q)) := by
  have := slice_closes_to_neg (x := Tx l) (j := -(q : Int)) (k := ((l.length - q : Nat) : Int)) (by omega) (by rw [Tx_len]; omega) (by rw [Tx_len]; omega)
  rw [eq_of_beq this, Tx_list]
  unfold Tx
  simp
theorem Tx_all (l : List Nat) : Txt.slice (Tx l) none none = Tx l := by
  show StrLaws.sliceText (Tx l) none none = _
  unfold StrLaws.sliceText
  have hi : (Builtin.Str.strSliceIndices none none 1 (Tx l).length) = List.range (Tx l).length := by
    simp only [Builtin.Str.strSliceIndices, sliceRange]
    simp
    congr 1
    split <;> omega
  rw [hi]
  simp
theorem Tx_item {l : List Nat} {i : Int} (h0 : 0 ≤ i) (h : i < l.length) : Txt.item (Tx l) i = Tx [l.getD i.toNat 0] := by
  have := item_closes (x := Tx l) (i := i) ⟨h0, by rw [Tx_len]; exact h⟩
  rw [eq_of_beq this]
  simp [Tx]
theorem Tx_itemN {l : List Nat} {i : Int} (h0 : i < 0) (h : -(l.length : Int) ≤ i) : Txt.item (Tx l) i = Tx [l.getD (i + l.length).toNat 0] := by
  have := item_closes_neg (x := Tx l) (i := i) (j := i + l.length) h0 (by rw [Tx_len]; exact h) (by rw [Tx_len])
  rw [eq_of_beq this]
  simp [Tx]
theorem ints_of_get : ∀ {vs : List Value} {ns : List Int}, vs.length = ns.length → (∀ (j : Nat) (v : Value), vs[j]? = some v → ∃ y t, ns[j]? = some y ∧ v = .int y t) → IntsAre vs ns
  | [], [], _, _ => .nil
  | [], _ :: _, h, _ => by simp at h
  | _ :: _, [], h, _ => by simp at h
  | v :: vs, n :: ns, h, hg => by
    obtain ⟨y, t, e, rfl⟩ := hg 0 v rfl
    have e' : n = y := by simpa using e
    subst e'
    exact .cons _ _ (ints_of_get (by simpa using h) fun j v hj => by simpa using hg (j + 1) v (by simpa using hj))
section
variable {prog : Program} {w : World} {A : Around} {E : Value → Shared → Prop} {s : Shared} {value slice : Expr} {l : List Nat} {t : Tok} {h₀ : Heap} {L : Addr} {m : Str → Option Value} {news : List (Addr × Obj)} {Q : Value → Shared → Prop}
theorem my_from {i : Int} {ui : Tok} (hF : Fr h₀ L s.heap m) (hN : News h₀ L s.heap news) (h0 : 0 ≤ i) (h1 : i ≤ l.length) (hz : l.length ≤ 1000)
    (h : ∀ x h' t' k, x = l.drop i.toNat → x.length = l.length - i.toNat → Fr h₀ L h' m → News h₀ L h' news → Q (.str (Tx x) t') { s with heap := h', toks := k })
    (hs : subscripted slice false (.str (Tx l) t) (.ref s.heap.objs.size) = operate [.ref s.heap.objs.size, .str (Tx l) t] (getItem (.str (Tx l) t) (.ref s.heap.objs.size)) := by with_unfolding_all rfl)
    (ht : ∀ r, letTemporaryGo value (.str (Tx l) t) r = pure () := by intro _; with_unfolding_all rfl) :
    wpAny (model prog w) A (subscriptTail value slice (.str (Tx l) t) (.ref s.heap.objs.size)) Q E { s with heap := s.heap.push { cls := .type "slice", data := .fields #[.int i ui, .none, .none] } } := by
  obtain ⟨p, rfl⟩ := Int.eq_ofNat_of_zero_le h0
  refine slice_strN_sn hF hN (fun h' t' k F N => ?_) hs ht (by rw [Tx_len, sizeLine_eq]; omega)
  rw [Tx_from (by omega)]
  have := h _ h' t' k rfl (by rw [List.length_drop]) F N
  rwa [Int.toNat_natCast] at this
theorem my_to {i : Int} {ui : Tok} (hF : Fr h₀ L s.heap m) (hN : News h₀ L s.heap news) (h0 : i < 0) (h1 : -i ≤ l.length) (hz : l.length ≤ 1000)
    (h : ∀ x h' t' k, x = l.take (l.length - (-i).toNat) → x.length = l.length - (-i).toNat → Fr h₀ L h' m → News h₀ L h' news → Q (.str (Tx x) t') { s with heap := h', toks := k })
    (hs : subscripted slice false (.str (Tx l) t) (.ref s.heap.objs.size) = operate [.ref s.heap.objs.size, .str (Tx l) t] (getItem (.str (Tx l) t) (.ref s.heap.objs.size)) := by with_unfolding_all rfl)
    (ht : ∀ r, letTemporaryGo value (.str (Tx l) t) r = pure () := by intro _; with_unfolding_all rfl) :
    wpAny (model prog w) A (subscriptTail value slice (.str (Tx l) t) (.ref s.heap.objs.size)) Q E { s with heap := s.heap.push { cls := .type "slice", data := .fields #[.none, .int i ui, .none] } } := by
  obtain ⟨p, hp⟩ := Int.eq_ofNat_of_zero_le (a := -i) (by omega)
  obtain rfl : i = -(p : Int) := by omega
  refine slice_strN_ns hF hN (fun h' t' k F N => ?_) hs ht (by rw [Tx_len, sizeLine_eq]; omega)
  rw [Tx_to (by omega) (by omega)]
  have := h _ h' t' k rfl (by rw [List.length_take]; omega) F N
  rwa [show (- -(p : Int)).toNat = p by omega] at this
theorem my_all (hF : Fr h₀ L s.heap m) (hN : News h₀ L s.heap news) (hz : l.length ≤ 1000)
    (h : ∀ x h' t' k, x = l → x.length = l.length → Fr h₀ L h' m → News h₀ L h' news → Q (.str (Tx x) t') { s with heap := h', toks := k })
    (hs : subscripted slice false (.str (Tx l) t) (.ref s.heap.objs.size) = operate [.ref s.heap.objs.size, .str (Tx l) t] (getItem (.str (Tx l) t) (.ref s.heap.objs.size)) := by with_unfolding_all rfl)
    (ht : ∀ r, letTemporaryGo value (.str (Tx l) t) r = pure () := by intro _; with_unfolding_all rfl) :
    wpAny (model prog w) A (subscriptTail value slice (.str (Tx l) t) (.ref s.heap.objs.size)) Q E { s with heap := s.heap.push { cls := .type "slice", data := .fields #[.none, .none, .none] } } := by
  refine slice_strN_nn hF hN (fun h' t' k F N => ?_) hs ht (by rw [Tx_len, sizeLine_eq]; omega)
  rw [Tx_all]
  exact h _ h' t' k rfl rfl F N
theorem my_sign {i : Int} {u : Tok} (h0 : 0 ≤ i) (h1 : i < l.length) (hz : l.length ≤ 1000) (h : Q (.str (Tx [l.getD i.toNat 0]) s.toks) { s with toks := s.toks + 1 })
    (hs : subscripted slice false (.str (Tx l) t) (.int i u) = operate [.str (Tx l) t, .int i u] (getItem (.str (Tx l) t) (.int i u)) := by with_unfolding_all rfl)
    (ht : ∀ r, letTemporaryGo value (.str (Tx l) t) r = pure () := by intro _; with_unfolding_all rfl) :
    wpAny (model prog w) A (subscriptTail value slice (.str (Tx l) t) (.int i u)) Q E s := by
  refine item_str (by unfold fitsSsize; simp; omega) (by rw [Tx_len]; omega) (by rw [Tx_len]; omega) (fun _ => ?_) hs ht
  rw [Tx_item h0 h1]
  exact h
theorem my_signN {i : Int} {u : Tok} (h0 : i < 0) (h1 : -(l.length : Int) ≤ i) (hz : l.length ≤ 1000) (h : Q (.str (Tx [l.getD (i + l.length).toNat 0]) s.toks) { s with toks := s.toks + 1 })
    (hs : subscripted slice false (.str (Tx l) t) (.int i u) = operate [.str (Tx l) t, .int i u] (getItem (.str (Tx l) t) (.int i u)) := by with_unfolding_all rfl)
    (ht : ∀ r, letTemporaryGo value (.str (Tx l) t) r = pure () := by intro _; with_unfolding_all rfl) :
    wpAny (model prog w) A (subscriptTail value slice (.str (Tx l) t) (.int i u)) Q E s := by
  refine item_str (by unfold fitsSsize; simp; omega) (by rw [Tx_len]; omega) (by rw [Tx_len]; omega) (fun _ => ?_) hs ht
  rw [Tx_itemN h0 h1]
  exact h
theorem truthy_tx {Q : Bool → Shared → Prop} (hz : l.length ≤ 1000) (h0 : l.length = 0 → ∀ k, Q false { s with toks := k }) (h1 : 0 < l.length → ∀ k, Q true { s with toks := k }) : wpAny (model prog w) A (truthy (.str (Tx l) t)) Q E s := by
  refine SBL.truthy (by rw [Tx_len]; omega) ?_
  rw [Tx_len]
  by_cases h : l.length = 0
  · rw [h]; exact h0 h _
  · have e : ((l.length : Int) != 0) = true := by simp; intro q; exact h (by rw [q]; rfl)
    rw [e]; exact h1 (by omega) _
theorem truthy_tx0 {Q : Bool → Shared → Prop} (hz : l.length ≤ 1000) (hl : l.length = 0) (h0 : ∀ k, Q false { s with toks := k }) : wpAny (model prog w) A (truthy (.str (Tx l) t)) Q E s :=
  truthy_tx hz (fun _ => h0) (fun h => absurd h (by omega))
theorem truthy_tx1 {Q : Bool → Shared → Prop} (hz : l.length ≤ 1000) (hl : 0 < l.length) (h1 : ∀ k, Q true { s with toks := k }) : wpAny (model prog w) A (truthy (.str (Tx l) t)) Q E s :=
  truthy_tx hz (fun h => absurd h (by omega)) (fun _ => h1)
theorem len_tx (hz : l.length ≤ 1000) (h : ∀ t' k, Q (.int (l.length : Int) t') { s with toks := k }) : wpAny (model prog w) A (call (.builtin "len") [.str (Tx l) t]) Q E s :=
  SBL.len (by rw [Tx_len]; omega) (by rw [Tx_len]; exact h _ _)
/-- the row that the price table begins with -/
def twos (n : Nat) : List Int := (List.range n).map fun (i : Nat) => 2 + 2 * (i : Int)
theorem list_twos {r : Addr} {b : Int} {t u v : Tok} {n : Nat} (hh : A.handled = none) (F : Fr h₀ L s.heap m) (N : News h₀ L s.heap news) (hr : IsRange s.heap r 2 b 2 t u v) (hb : b = 2 * ((n : Int) + 1)) (hz : n ≤ 1000)
    (h : ∀ D us c h' tk, Fr h₀ L h' m → News h₀ L h' ((D, listOf (List.toArray us) c) :: news) → (∀ p ∈ news, p.1 < D) → IntsAre us (twos n) → Q (.ref D) { s with heap := h', toks := tk }) :
    wpAny (model prog w) A (call (.type "list") [.ref r]) Q E s := by
  have hsz : Builtin.Range.rangeSize 2 b 2 = (n : Int) := by
    unfold Builtin.Range.rangeSize
    rw [if_pos (by decide)]
    split <;> omega
  have hsm : Builtin.Range.small 2 b 2 = true := by
    unfold Builtin.Range.small
    rw [hsz]
    simp only [Builtin.Range.rangeFitsLong, Bool.and_eq_true, Bool.or_eq_true, decide_eq_true_eq, beq_iff_eq, show (2 : Int) > 0 by decide, if_true]
    omega
  refine call_list_range hh hr hsm hsz (by omega) fun h' tk acc c hk hD hI => ?_
  have hD' : h'.get? s.heap.objs.size = some (listOf (List.toArray acc.toList) c) := by
    rw [Array.toArray_toList]
    exact hD
  refine h _ acc.toList c h' tk (F.keeps hk) (news_pushed F N hk hD' rfl) (fun p hp => Heap.lt_size (N p hp).1) ?_
  refine ints_of_get (by rw [Array.length_toList, hI.1]; simp [twos]) fun j v hj => ?_
  have hj' : j < n := by
    have := (List.getElem?_eq_some_iff.mp hj).1
    rw [Array.length_toList, hI.1] at this; exact this
  obtain ⟨t, e⟩ := hI.2 j v (by rw [← hj, Array.getElem?_toList])
  refine ⟨2 + 2 * (j : Int), t, ?_, by rw [e]; congr 1; omega⟩
  unfold twos
  rw [List.getElem?_map, List.getElem?_range hj']
  rfl
end
end Mine
end
section
open PySem PySem.W PySem.Spec PySem.Calls PyProof.Rows
namespace Mine
def WStep (h₀ : Heap) (L : Addr) (news : List (Addr × Obj)) (s : Shared) (J : Nat → (Str → Option Value) → Prop) (n : Nat) (f : Flow) (s₃ : Shared) : Prop :=
  f = .next ∧ ∃ h' tk m₂ n', s₃ = { s with heap := h', toks := tk } ∧ Fr h₀ L h' m₂ ∧ News h₀ L h' news ∧ n' < n ∧ J n' m₂
def WOut (h₀ : Heap) (L : Addr) (news : List (Addr × Obj)) (s : Shared) (J : Nat → (Str → Option Value) → Prop) (s₃ : Shared) : Prop :=
  ∃ h' tk m₂ n', s₃ = { s with heap := h', toks := tk } ∧ Fr h₀ L h' m₂ ∧ News h₀ L h' news ∧ J n' m₂
section
variable {prog : Program} {w : World} {A : Around} {E : Value → Shared → Prop} {s : Shared} {env : Env} {h₀ : Heap} {L : Addr} {m : Str → Option Value} {news : List (Addr × Obj)} {Q : Flow → Shared → Prop}
theorem WStep.intro {J : Nat → (Str → Option Value) → Prop} {h' : Heap} {n tk : Nat} {m₂ : Str → Option Value} (n' : Nat) (F : Fr h₀ L h' m₂) (N : News h₀ L h' news) (hn : n' < n) (hJ : J n' m₂) : WStep h₀ L news s J n .next { s with heap := h', toks := tk } :=
  ⟨rfl, h', tk, m₂, n', rfl, F, N, hn, hJ⟩
theorem WOut.intro {J : Nat → (Str → Option Value) → Prop} {h' : Heap} {tk : Nat} {m₂ : Str → Option Value} (n' : Nat) (F : Fr h₀ L h' m₂) (N : News h₀ L h' news) (hJ : J n' m₂) : WOut h₀ L news s J { s with heap := h', toks := tk } :=
  ⟨h', tk, m₂, n', rfl, F, N, hJ⟩
/-- a while whose ways out meet -/
theorem while_rule {test : Expr} {body : List Stmt} {pos : Pos} (J : Nat → (Str → Option Value) → Prop) {n₀ : Nat} (F : Fr h₀ L s.heap m) (N : News h₀ L s.heap news) (j : J n₀ m)
    (turn : ∀ n m₁ h₁ tk₁ (E' : Value → Shared → Prop), Fr h₀ L h₁ m₁ → News h₀ L h₁ news → J n m₁ →
      wpAny (model prog w) A (isTrue test env (eval test env)) (fun b s₂ => if b = true then wpAny (model prog w) A (execs body env) (WStep h₀ L news { s with heap := h₁, toks := tk₁ } J n) E' s₂ else WOut h₀ L news { s with heap := h₁, toks := tk₁ } J s₂) E' { s with heap := h₁, toks := tk₁ })
    (done : ∀ n m₁ h₁ tk₁, Fr h₀ L h₁ m₁ → News h₀ L h₁ news → J n m₁ → Q .next { s with heap := h₁, toks := tk₁ }) :
    wpAny (model prog w) A (exec (.While test body [] pos) env) Q E s := by
  refine wpAny_While (codeAny_whileLoop (fun n s' => ∃ h₁ tk₁ m₁, s' = { s with heap := h₁, toks := tk₁ } ∧ Fr h₀ L h₁ m₁ ∧ News h₀ L h₁ news ∧ J n m₁) ?_ n₀ ⟨s.heap, s.toks, m, rfl, F, N, j⟩)
  rintro n s' ⟨h₁, tk₁, m₁, rfl, F₁, N₁, J₁⟩
  refine wpAny_mono (turn n m₁ h₁ tk₁ _ F₁ N₁ J₁) (fun b s₂ h₂ => ?_) fun _ _ e => e
  cases b with
  | false =>
    simp only [Bool.false_eq_true, if_false] at h₂ ⊢
    obtain ⟨h', tk, m₂, n', rfl, F₂, N₂, J₂⟩ := h₂
    exact wpAny_execs_nil (done n' m₂ h' tk F₂ N₂ J₂)
  | true =>
    simp only [if_true] at h₂ ⊢
    refine wpAny_mono h₂ (fun f s₃ h₃ => ?_) fun _ _ e => e
    obtain ⟨rfl, h', tk, m₂, n', rfl, F₂, N₂, hn, J₂⟩ := h₃
    exact ⟨n', hn, h', tk, m₂, rfl, F₂, N₂, J₂⟩
end

/-- between the turns of the loop that takes the like beginnings off -/
def Lev1 (u v : List Nat) (t1 t2 : Tok) (mx : Int) (t3 : Tok) (n : Nat) (m : Str → Option Value) : Prop :=
  ∃ (p : Nat) (tp : Tok), p ≤ u.length ∧ n + p = u.length ∧ u.take p = v.take p ∧ m (Str.ofString "a") = some (.str (Tx u) t1) ∧ m (Str.ofString "b") = some (.str (Tx v) t2) ∧ m (Str.ofString "max_cost") = some (.int mx t3) ∧ m (Str.ofString "pre") = some (.int (p : Int) tp)
theorem Lev1.start {u v : List Nat} {t1 t2 : Tok} {mx : Int} {t3 tp : Tok} {m : Str → Option Value} (h1 : m (Str.ofString "a") = some (.str (Tx u) t1)) (h2 : m (Str.ofString "b") = some (.str (Tx v) t2)) (h3 : m (Str.ofString "max_cost") = some (.int mx t3)) (h4 : m (Str.ofString "pre") = some (.int 0 tp)) : Lev1 u v t1 t2 mx t3 u.length m :=
  ⟨0, tp, Nat.zero_le _, rfl, rfl, h1, h2, h3, h4⟩
theorem take_step {u v : List Nat} {p : Nat} (hl : u.length = v.length) (h : u.take p = v.take p) (hp : p < u.length) (he : (Tx [u.getD p 0] == Tx [v.getD p 0]) = true) : u.take (p + 1) = v.take (p + 1) := by
  rw [Tx_inj] at he
  have he' : u.getD p 0 = v.getD p 0 := by simpa using he
  rw [List.take_add_one, List.take_add_one, h]
  congr 2
  rw [List.getD_eq_getElem?_getD, List.getD_eq_getElem?_getD, List.getElem?_eq_getElem hp, List.getElem?_eq_getElem (by omega)] at he'
  rw [List.getElem?_eq_getElem hp, List.getElem?_eq_getElem (by omega)]
  simpa using he'
/-- between the turns of the loop that takes the like ends off -/
def Lev2 (u v : List Nat) (t1 t2 : Tok) (mx : Int) (t3 : Tok) (n : Nat) (m : Str → Option Value) : Prop :=
  ∃ (q : Nat) (tp : Tok), q ≤ u.length ∧ n + q = u.length ∧ u.drop (u.length - q) = v.drop (u.length - q) ∧ m (Str.ofString "a") = some (.str (Tx u) t1) ∧ m (Str.ofString "b") = some (.str (Tx v) t2) ∧ m (Str.ofString "max_cost") = some (.int mx t3) ∧ m (Str.ofString "post") = some (.int (-(q : Int)) tp)
theorem Lev2.start {u v : List Nat} {t1 t2 : Tok} {mx : Int} {t3 tp : Tok} {m : Str → Option Value} (hl : u.length = v.length) (h1 : m (Str.ofString "a") = some (.str (Tx u) t1)) (h2 : m (Str.ofString "b") = some (.str (Tx v) t2)) (h3 : m (Str.ofString "max_cost") = some (.int mx t3)) (h4 : m (Str.ofString "post") = some (.int 0 tp)) : Lev2 u v t1 t2 mx t3 u.length m :=
  ⟨0, tp, Nat.zero_le _, rfl, by rw [Nat.sub_zero, List.drop_length, hl, List.drop_length], h1, h2, h3, h4⟩
theorem drop_step {u v : List Nat} {q : Nat} (hl : u.length = v.length) (h : u.drop (u.length - q) = v.drop (u.length - q)) (hq : q < u.length) (he : (Tx [u.getD (u.length - (q + 1)) 0] == Tx [v.getD (u.length - (q + 1)) 0]) = true) : u.drop (u.length - (q + 1)) = v.drop (u.length - (q + 1)) := by
  rw [Tx_inj] at he
  have he' : u.getD (u.length - (q + 1)) 0 = v.getD (u.length - (q + 1)) 0 := by simpa using he
  have hk : u.length - (q + 1) < u.length := by omega
  have e1 : u.length - q = u.length - (q + 1) + 1 := by omega
  rw [e1] at h
  rw [List.getD_eq_getElem?_getD, List.getD_eq_getElem?_getD, List.getElem?_eq_getElem hk, List.getElem?_eq_getElem (by omega)] at he'
  rw [List.drop_eq_getElem_cons hk, List.drop_eq_getElem_cons (by omega : u.length - (q + 1) < v.length), h]
  congr 1
section
variable {s : Shared} {h₀ : Heap} {L : Addr} {m : Str → Option Value} {news : List (Addr × Obj)} {u v : List Nat} {t1 t2 t3 tp : Tok} {mx : Int} {n p q tk : Nat} {h' : Heap}
theorem Lev1.next (F : Fr h₀ L h' m) (N : News h₀ L h' news) (hl : u.length = v.length) (hp : p < u.length) (hn : n + p = u.length) (h : u.take p = v.take p) (he : (Tx [u.getD p 0] == Tx [v.getD p 0]) = true)
    (h1 : m (Str.ofString "a") = some (.str (Tx u) t1)) (h2 : m (Str.ofString "b") = some (.str (Tx v) t2)) (h3 : m (Str.ofString "max_cost") = some (.int mx t3)) (h4 : m (Str.ofString "pre") = some (.int ((p : Int) + 1) tp)) :
    WStep h₀ L news s (Lev1 u v t1 t2 mx t3) n .next { s with heap := h', toks := tk } :=
  .intro (n - 1) F N (by omega) ⟨p + 1, tp, hp, by omega, take_step hl h hp he, h1, h2, h3, h4⟩
theorem Lev1.out (F : Fr h₀ L h' m) (N : News h₀ L h' news) (hp : p ≤ u.length) (hn : n + p = u.length) (h : u.take p = v.take p)
    (h1 : m (Str.ofString "a") = some (.str (Tx u) t1)) (h2 : m (Str.ofString "b") = some (.str (Tx v) t2)) (h3 : m (Str.ofString "max_cost") = some (.int mx t3)) (h4 : m (Str.ofString "pre") = some (.int (p : Int) tp)) :
    WOut h₀ L news s (Lev1 u v t1 t2 mx t3) { s with heap := h', toks := tk } :=
  .intro n F N ⟨p, tp, hp, hn, h, h1, h2, h3, h4⟩
theorem place_of {q n : Nat} (h : q < n) : (-(q : Int) - 1 + (n : Int)).toNat = n - (q + 1) := by omega
theorem Lev2.next (F : Fr h₀ L h' m) (N : News h₀ L h' news) (hl : u.length = v.length) (hp : q < u.length) (hn : n + q = u.length) (h : u.drop (u.length - q) = v.drop (u.length - q)) (he : (Tx [u.getD (-(q : Int) - 1 + (u.length : Int)).toNat 0] == Tx [v.getD (-(q : Int) - 1 + (v.length : Int)).toNat 0]) = true)
    (h1 : m (Str.ofString "a") = some (.str (Tx u) t1)) (h2 : m (Str.ofString "b") = some (.str (Tx v) t2)) (h3 : m (Str.ofString "max_cost") = some (.int mx t3)) (h4 : m (Str.ofString "post") = some (.int (-(q : Int) - 1) tp)) :
    WStep h₀ L news s (Lev2 u v t1 t2 mx t3) n .next { s with heap := h', toks := tk } := by
  rw [← hl, place_of hp] at he
  exact .intro (n - 1) F N (by omega) ⟨q + 1, tp, hp, by omega, drop_step hl h hp he, h1, h2, h3, by rw [h4]; congr 2; omega⟩
theorem Lev2.out (F : Fr h₀ L h' m) (N : News h₀ L h' news) (hp : q ≤ u.length) (hn : n + q = u.length) (h : u.drop (u.length - q) = v.drop (u.length - q))
    (h1 : m (Str.ofString "a") = some (.str (Tx u) t1)) (h2 : m (Str.ofString "b") = some (.str (Tx v) t2)) (h3 : m (Str.ofString "max_cost") = some (.int mx t3)) (h4 : m (Str.ofString "post") = some (.int (-(q : Int)) tp)) :
    WOut h₀ L news s (Lev2 u v t1 t2 mx t3) { s with heap := h', toks := tk } :=
  .intro n F N ⟨q, tp, hp, hn, h, h1, h2, h3, h4⟩
end
end Mine
end
section
open PySem PySem.W PySem.Spec PySem.Calls PyProof.Rows
namespace Mine
theorem scost_bounds (x y : Str) : 0 ≤ scost x y ∧ scost x y ≤ 2 := by
  unfold scost; split
  · omega
  · split <;> omega
/-- the price of place k -/
def cc (x y : List Nat) (k : Nat) : Int := scost (Tx [y.getD k 0]) (Tx [x.getD k 0])
def cS (x y : List Nat) : Nat → Int
  | 0 => 0
  | k + 1 => cS x y k + cc x y k
theorem cc_bounds (x y : List Nat) (k : Nat) : 0 ≤ cc x y k ∧ cc x y k ≤ 2 := scost_bounds _ _
theorem cS_mono (x y : List Nat) {i j : Nat} (h : i ≤ j) : cS x y i ≤ cS x y j := by
  induction j with
  | zero => have e : i = 0 := Nat.le_zero.mp h; rw [e]; exact Int.le_refl _
  | succ j ih =>
    by_cases e : i = j + 1
    · rw [e]; exact Int.le_refl _
    · have := ih (by omega); have := cc_bounds x y j
      show cS x y i ≤ cS x y j + cc x y j; omega
/-- the price table -/
def DD (x y : List Nat) (i j : Nat) : Int := 2 * (((i : Int) - j).natAbs : Int) + cS x y (min i j)
/-- the row, j places of turn i done -/
def RowOK (x y : List Nat) (n i j : Nat) (ns : List Int) : Prop := ns.length = n ∧ ∀ t, t < n → ns[t]? = some (if t < j then DD x y (i + 1) (t + 1) else DD x y i (t + 1))
theorem RowOK.start (x y : List Nat) (n : Nat) : RowOK x y n 0 0 (twos n) := by
  refine ⟨by simp [twos], fun t ht => ?_⟩
  unfold twos DD
  rw [List.getElem?_map, List.getElem?_range ht, if_neg (by omega), Nat.zero_min]
  simp only [Option.map_some, cS]
  congr 1
  omega
theorem RowOK.turn {x y : List Nat} {n i : Nat} {ns : List Int} (h : RowOK x y n i n ns) : RowOK x y n (i + 1) 0 ns := by
  refine ⟨h.1, fun t ht => ?_⟩
  rw [h.2 t ht, if_pos ht, if_neg (by omega)]
theorem RowOK.set {x y : List Nat} {n i j : Nat} {ns : List Int} (h : RowOK x y n i j ns) (hj : j < n) {v : Int} (hv : v = DD x y (i + 1) (j + 1)) : RowOK x y n i (j + 1) (ns.set j v) := by
  refine ⟨by rw [List.length_set]; exact h.1, fun t ht => ?_⟩
  rw [List.getElem?_set]
  by_cases e : j = t
  · subst e
    rw [if_pos rfl, if_pos (by rw [h.1]; exact ht), if_pos (by omega), hv]
  · rw [if_neg e, h.2 t ht]
    by_cases e' : t < j
    · rw [if_pos e', if_pos (by omega)]
    · rw [if_neg e', if_neg (by omega)]
theorem RowOK.get {x y : List Nat} {n i j : Nat} {ns : List Int} (h : RowOK x y n i j ns) (hj : j < n) : ns.getD j 0 = DD x y i (j + 1) := by
  rw [List.getD_eq_getElem?_getD, h.2 j hj, if_neg (by omega)]; rfl
/-- what stands to the left of place j in turn i -/
def RR (x y : List Nat) (i j : Nat) : Int := if j = 0 then 2 * (i : Int) else DD x y (i + 1) j
theorem DD_le {x y : List Nat} {i j : Nat} (h : i ≤ j) : DD x y i j = 2 * ((j : Int) - (i : Int)) + cS x y i := by
  unfold DD; rw [Nat.min_eq_left h]; congr 2; omega
theorem DD_ge {x y : List Nat} {i j : Nat} (h : j ≤ i) : DD x y i j = 2 * ((i : Int) - (j : Int)) + cS x y j := by
  unfold DD; rw [Nat.min_eq_right h]; congr 2; omega
theorem num1 {i j a c : Int} (h : 0 ≤ c ∧ c ≤ 2) : min (min (2 * (j - (i + 1)) + (a + c)) (2 * (j + 1 - i) + a) + 2) (2 * (j - i) + a + 2) = 2 * (j + 1 - (i + 1)) + (a + c) := by omega
theorem num2 {i a c r : Int} (h : 0 ≤ c ∧ c ≤ 2) (hr : 0 ≤ r ∧ a ≤ r) : min (min r (2 * (i + 1 - i) + a) + 2) (2 * (i - i) + a + c) = 2 * (i + 1 - (i + 1)) + (a + c) := by omega
theorem num3 {i j b d r : Int} (h : 0 ≤ d ∧ d ≤ 2) (hr : 2 * (i - j) + b ≤ r) : min (min r (2 * (i - (j + 1)) + (b + d)) + 2) (2 * (i - j) + b + 2) = 2 * (i + 1 - (j + 1)) + (b + d) := by omega
theorem RR_ge {x y : List Nat} {i j : Nat} (h : j ≤ i) : 2 * ((i : Int) - (j : Int)) + cS x y j ≤ RR x y i j := by
  unfold RR
  by_cases h0 : j = 0
  · subst h0
    rw [if_pos rfl]
    show 2 * ((i : Int) - 0) + 0 ≤ _
    omega
  · rw [if_neg h0, DD_ge (Nat.le_succ_of_le h)]
    simp only [Int.natCast_succ, Int.natCast_add, Int.natCast_one]
    exact Int.add_le_add_right (Int.mul_le_mul_of_nonneg_left (Int.sub_le_sub_right (Int.le_add_of_nonneg_right (by decide)) _) (by decide)) _
/-- one step of the table -/
theorem dd_step {x y : List Nat} {i j : Nat} {s : Int} (hs : s = scost (Tx [y.getD i 0]) (Tx [x.getD j 0])) (hd : i ≠ j → s = 2) :
    min (min (RR x y i j) (DD x y i (j + 1)) + 2) (DD x y i j + s) = DD x y (i + 1) (j + 1) := by
  rcases Nat.lt_trichotomy i j with h | h | h
  · rw [hd (Nat.ne_of_lt h), DD_le (Nat.succ_le_succ (Nat.le_of_lt h)), DD_le (Nat.le_of_lt h), DD_le (Nat.le_succ_of_le (Nat.le_of_lt h))]
    unfold RR
    rw [if_neg (Nat.ne_of_gt (Nat.lt_of_le_of_lt (Nat.zero_le _) h)), DD_le (Nat.succ_le_of_lt h)]
    simp only [Int.natCast_succ, Int.natCast_add, Int.natCast_one]
    exact num1 (cc_bounds x y i)
  · subst h
    have hr := RR_ge (x := x) (y := y) (Nat.le_refl i)
    have h0 : 0 ≤ cS x y i := cS_mono x y (Nat.zero_le i)
    rw [Int.sub_self, Int.mul_zero, Int.zero_add] at hr
    have hs' : s = cc x y i := hs
    rw [hs', DD_le (Nat.le_refl (i + 1)), DD_le (Nat.le_refl i), DD_le (Nat.le_succ i)]
    simp only [Int.natCast_succ, Int.natCast_add, Int.natCast_one]
    exact num2 (cc_bounds x y i) ⟨Int.le_trans h0 hr, hr⟩
  · rw [hd (Nat.ne_of_gt h), DD_ge (Nat.succ_le_succ (Nat.le_of_lt h)), DD_ge (Nat.le_of_lt h), DD_ge (Nat.succ_le_of_lt h)]
    simp only [Int.natCast_succ, Int.natCast_add, Int.natCast_one]
    exact num3 (cc_bounds x y j) (RR_ge (Nat.le_of_lt h))
theorem dd_diag (x y : List Nat) (i : Nat) : DD x y i i = cS x y i := by unfold DD; rw [Nat.min_self]; omega
theorem dd_zero (x y : List Nat) (i : Nat) : DD x y i 0 = 2 * (i : Int) := by
  unfold DD; rw [Nat.min_zero]; show _ + (0 : Int) = _; omega

theorem off1 {D I : Addr} {o o' : Obj} {news : List (Addr × Obj)} (h : ∀ p ∈ (D, o') :: news, p.1 ≠ I) : ∀ p ∈ (D, o) :: news, p.1 ≠ I := by
  intro p hp
  rcases List.mem_cons.mp hp with rfl | hp
  · exact h (D, o') (.head _)
  · exact h p (.tail _ hp)
theorem off2 {hd : Addr × Obj} {D I : Addr} {o o' : Obj} {news : List (Addr × Obj)} (h : ∀ p ∈ hd :: (D, o') :: news, p.1 ≠ I) : ∀ p ∈ hd :: (D, o) :: news, p.1 ≠ I := by
  intro p hp
  rcases List.mem_cons.mp hp with rfl | hp
  · exact h p (.head _)
  · exact off1 (fun p hp => h p (.tail _ hp)) p hp
theorem min_ite (a b : Int) : (if b < a then b else a) = min a b := by split <;> omega
/-- signs at different places have the full price -/
def Apart (u v : List Nat) : Prop := ∀ i j, i < u.length → j < u.length → i ≠ j → scost (Tx [v.getD i 0]) (Tx [u.getD j 0]) = 2
theorem dd_turn {x y : List Nat} {i j : Nat} (h : Apart x y) (hi : i < x.length) (hj : j < x.length) :
    (if DD x y i j + scost (Tx [y.getD i 0]) (Tx [x.getD j 0]) < (if DD x y i (j + 1) < RR x y i j then DD x y i (j + 1) else RR x y i j) + 2 then DD x y i j + scost (Tx [y.getD i 0]) (Tx [x.getD j 0]) else (if DD x y i (j + 1) < RR x y i j then DD x y i (j + 1) else RR x y i j) + 2) = DD x y (i + 1) (j + 1) := by
  rw [min_ite, min_ite]
  exact dd_step rfl (fun e => h i j hi hj e)

abbrev S' := Str.ofString
/-- between the turns of the outer loop -/
def OutJ (news : List (Addr × Obj)) (D : Addr) (x y : List Nat) (t1 t2 : Tok) (mx : Int) (t3 : Tok) (i : Nat) (m : Str → Option Value) (nw : List (Addr × Obj)) : Prop :=
  ∃ us ns c tr, nw = (D, listOf (List.toArray us) c) :: news ∧ IntsAre us ns ∧ RowOK x y x.length i 0 ns ∧ m (S' "a") = some (.str (Tx x) t1) ∧ m (S' "b") = some (.str (Tx y) t2) ∧ m (S' "max_cost") = some (.int mx t3) ∧ m (S' "row") = some (.ref D) ∧
    m (S' "result") = some (.int (if i = 0 then 0 else DD x y i x.length) tr)
/-- between the turns of the inner loop -/
def InnJ (hd : Addr × Obj) (news : List (Addr × Obj)) (D : Addr) (x y : List Nat) (t1 t2 : Tok) (mx : Int) (t3 : Tok) (i : Nat) (ti tb : Tok) (j : Nat) (m : Str → Option Value) (nw : List (Addr × Obj)) : Prop :=
  ∃ us ns c tr td tm mi, nw = hd :: (D, listOf (List.toArray us) c) :: news ∧ IntsAre us ns ∧ RowOK x y x.length i j ns ∧ (i < j → mi ≤ cS x y (i + 1)) ∧ m (S' "a") = some (.str (Tx x) t1) ∧ m (S' "b") = some (.str (Tx y) t2) ∧ m (S' "max_cost") = some (.int mx t3) ∧ m (S' "row") = some (.ref D) ∧
    m (S' "bindex") = some (.int (i : Int) ti) ∧ m (S' "bchar") = some (.str (Tx [y.getD i 0]) tb) ∧ m (S' "distance") = some (.int (DD x y i j) td) ∧ m (S' "result") = some (.int (RR x y i j) tr) ∧ m (S' "minimum") = some (.int mi tm)
section
variable {prog : Program} {w : World} {A : Around} {E : Value → Shared → Prop} {s s₁ s₂ : Shared} {h₀ : Heap} {L D : Addr} {m : Str → Option Value} {news : List (Addr × Obj)} {x y : List Nat} {t1 t2 t3 : Tok} {mx : Int} {env : Env} {body : List Stmt} {px : Pos} {it : Value} {Q : Flow → Shared → Prop}
theorem lev_outer {us : List Value} {c : Nat} {tr : Tok} {n : Nat} {W : Int} (S : SrcF prog w A h₀ L m ((D, listOf (List.toArray us) c) :: news) (fun _ => True) n (fun i v => ∃ t, v = .int (0 + (i : Int)) t) s₁ it s₂) (hn : n = y.length) (hl : x.length = y.length) (hu : IntsAre us (twos x.length)) (hf : W = cS x y x.length ∧ Apart x y) (hW : W ≤ mx)
    (h1 : m (S' "a") = some (.str (Tx x) t1)) (h2 : m (S' "b") = some (.str (Tx y) t2)) (h3 : m (S' "max_cost") = some (.int mx t3)) (h4 : m (S' "row") = some (.ref D)) (h5 : m (S' "result") = some (.int 0 tr))
    (turn : ∀ (i : Nat) t us ns c tr m₁ I oI h tk (E' : Value → Shared → Prop), i < x.length → Apart x y → cS x y (i + 1) ≤ mx → IntsAre us ns → RowOK x y x.length i 0 ns → m₁ (S' "a") = some (.str (Tx x) t1) → m₁ (S' "b") = some (.str (Tx y) t2) → m₁ (S' "max_cost") = some (.int mx t3) → m₁ (S' "row") = some (.ref D) →
      m₁ (S' "result") = some (.int (if i = 0 then 0 else DD x y i x.length) tr) → (∀ p ∈ (D, listOf (List.toArray us) c) :: news, p.1 ≠ I) → Fr h₀ L h m₁ → News h₀ L h ((I, oI) :: (D, listOf (List.toArray us) c) :: news) →
      wpAny (model prog w) A (assign (.Name (S' "bindex") px) env (.int (i : Int) t)) (fun _ s' => wpAny (model prog w) A (execs body env) (ForPost h₀ L I oI { s₂ with heap := h, toks := tk } (OutJ news D x y t1 t2 mx t3 (i + 1)) Q) E' s') E' { s₂ with heap := h, toks := tk })
    (done : ∀ us c tr h tk m', m' (S' "result") = some (.int W tr) → Fr h₀ L h m' → News h₀ L h ((D, listOf (List.toArray us) c) :: news) → Q .next { s₂ with heap := h, toks := tk }) :
    LoopOK prog w A L env (.Name (S' "bindex") px) body Q s₁ it s₂ := by
  subst hn
  refine ⟨h₀, m, _, _, _, _, OutJ news D x y t1 t2 mx t3, S, ⟨us, _, c, tr, rfl, hu, RowOK.start x y _, h1, h2, h3, h4, h5⟩, fun _ _ _ _ => trivial, ?_, ?_⟩
  · rintro i v m₁ nw I oI h tk E' hi ⟨t, rfl⟩ ⟨us, ns, c, tr, rfl, a1, a2, a3, a4, a5, a6, a7⟩ off _ F N
    rw [Int.zero_add]
    exact turn i t us ns c tr m₁ I oI h tk E' (by omega) hf.2 (by have := cS_mono x y (show i + 1 ≤ x.length by omega); omega) a1 a2 a3 a4 a5 a6 a7 off F N
  · rintro h tk m' nw ⟨us, ns, c, tr, rfl, a1, a2, a3, a4, a5, a6, a7⟩ F N
    rw [← hl] at a7
    refine done us c tr h tk m' ?_ F N
    rw [a7, hf.1]
    by_cases e : x.length = 0
    · rw [if_pos e, e]; rfl
    · rw [if_neg e, dd_diag]
theorem lev_inner {hd : Addr × Obj} {us : List Value} {ns : List Int} {c i : Nat} {ti tb tr td tm : Tok} {n : Nat} (S : SrcF prog w A h₀ L m (hd :: (D, listOf (List.toArray us) c) :: news) (fun _ => True) n (fun i v => ∃ t, v = .int (0 + (i : Int)) t) s₁ it s₂) (hn : n = x.length) (hu : IntsAre us ns) (hr : RowOK x y x.length i 0 ns) (hi : i < x.length) (hle : cS x y (i + 1) ≤ mx)
    (h1 : m (S' "a") = some (.str (Tx x) t1)) (h2 : m (S' "b") = some (.str (Tx y) t2)) (h3 : m (S' "max_cost") = some (.int mx t3)) (h4 : m (S' "row") = some (.ref D)) (h5 : m (S' "bindex") = some (.int (i : Int) ti)) (h6 : m (S' "bchar") = some (.str (Tx [y.getD (i : Int).toNat 0]) tb)) (h7 : m (S' "distance") = some (.int ((i : Int) * 2) td)) (h8 : m (S' "result") = some (.int ((i : Int) * 2) tr)) {mi : Int} (h9 : m (S' "minimum") = some (.int mi tm))
    (turn : ∀ (j : Nat) t us ns c tr td tm mi m₁ I oI h tk (E' : Value → Shared → Prop), j < x.length → IntsAre us ns → RowOK x y x.length i j ns → (i < j → mi ≤ cS x y (i + 1)) → m₁ (S' "a") = some (.str (Tx x) t1) → m₁ (S' "b") = some (.str (Tx y) t2) → m₁ (S' "max_cost") = some (.int mx t3) → m₁ (S' "row") = some (.ref D) →
      m₁ (S' "bindex") = some (.int (i : Int) ti) → m₁ (S' "bchar") = some (.str (Tx [y.getD i 0]) tb) → m₁ (S' "distance") = some (.int (DD x y i j) td) → m₁ (S' "result") = some (.int (RR x y i j) tr) → m₁ (S' "minimum") = some (.int mi tm) →
      (∀ p ∈ hd :: (D, listOf (List.toArray us) c) :: news, p.1 ≠ I) → Fr h₀ L h m₁ → News h₀ L h ((I, oI) :: hd :: (D, listOf (List.toArray us) c) :: news) →
      wpAny (model prog w) A (assign (.Name (S' "index") px) env (.int (j : Int) t)) (fun _ s' => wpAny (model prog w) A (execs body env) (ForPost h₀ L I oI { s₂ with heap := h, toks := tk } (InnJ hd news D x y t1 t2 mx t3 i ti tb (j + 1)) Q) E' s') E' { s₂ with heap := h, toks := tk })
    (done : ∀ us ns c tr td tm mi h tk m', IntsAre us ns → RowOK x y x.length i x.length ns → mi ≤ mx → m' (S' "a") = some (.str (Tx x) t1) → m' (S' "b") = some (.str (Tx y) t2) → m' (S' "max_cost") = some (.int mx t3) → m' (S' "row") = some (.ref D) →
      m' (S' "bindex") = some (.int (i : Int) ti) → m' (S' "bchar") = some (.str (Tx [y.getD i 0]) tb) → m' (S' "distance") = some (.int (DD x y i x.length) td) → m' (S' "result") = some (.int (RR x y i x.length) tr) → m' (S' "minimum") = some (.int mi tm) →
      Fr h₀ L h m' → News h₀ L h (hd :: (D, listOf (List.toArray us) c) :: news) → Q .next { s₂ with heap := h, toks := tk }) :
    LoopOK prog w A L env (.Name (S' "index") px) body Q s₁ it s₂ := by
  subst hn
  rw [Int.toNat_natCast] at h6
  refine ⟨h₀, m, _, _, _, _, InnJ hd news D x y t1 t2 mx t3 i ti tb, S, ⟨us, ns, c, tr, td, tm, mi, rfl, hu, hr, fun q => absurd q (by omega), h1, h2, h3, h4, h5, h6, by rw [h7, dd_zero]; congr 2; omega, by rw [h8]; show _ = some (Value.int (2 * (i : Int)) tr); congr 2; omega, h9⟩, fun _ _ _ _ => trivial, ?_, ?_⟩
  · rintro j v m₁ nw I oI h tk E' hi ⟨t, rfl⟩ ⟨us, ns, c, tr, td, tm, mi, rfl, a1, a2, a3, a4, a5, a6, a7, a8, a9, a10, a11, a12⟩ off _ F N
    rw [Int.zero_add]
    exact turn j t us ns c tr td tm mi m₁ I oI h tk E' hi a1 a2 a3 a4 a5 a6 a7 a8 a9 a10 a11 a12 off F N
  · rintro h tk m' nw ⟨us, ns, c, tr, td, tm, mi, rfl, a1, a2, a3, a4, a5, a6, a7, a8, a9, a10, a11, a12⟩ F N
    exact done us ns c tr td tm mi h tk m' a1 a2 (Int.le_trans (a3 hi) hle) a4 a5 a6 a7 a8 a9 a10 a11 a12 F N
theorem OutJ.end_ {I : Addr} {oI : Obj} {us : List Value} {ns : List Int} {c i : Nat} {tr : Tok} {h' : Heap} {tk : Nat} {m' : Str → Option Value} {all : List (Addr × Obj)} {r : Int} (F : Fr h₀ L h' m') (N : News h₀ L h' all) (hs : ∀ p ∈ (I, oI) :: (D, listOf (List.toArray us) c) :: news, p ∈ all) {o' : Obj} (off : ∀ p ∈ (D, o') :: news, p.1 ≠ I)
    (a1 : IntsAre us ns) (a2 : RowOK x y x.length i x.length ns) (a3 : m' (S' "a") = some (.str (Tx x) t1)) (a4 : m' (S' "b") = some (.str (Tx y) t2)) (a5 : m' (S' "max_cost") = some (.int mx t3)) (a6 : m' (S' "row") = some (.ref D)) (a7 : m' (S' "result") = some (.int r tr)) (hi : i < x.length) (hr : r = RR x y i x.length) :
    ForPost h₀ L I oI s₁ (OutJ news D x y t1 t2 mx t3 (i + 1)) Q .next { s₁ with heap := h', toks := tk } :=
  ForEnd.intro _ F N hs (off1 off) ⟨us, ns, c, tr, rfl, a1, a2.turn, a3, a4, a5, a6, by rw [a7, hr, if_neg (by omega)]; unfold RR; rw [if_neg (by omega)]⟩
theorem InnJ.end_ {hd : Addr × Obj} {I : Addr} {oI : Obj} {us : List Value} {ns : List Int} {c i j : Nat} {ti tb tr td tm : Tok} {mi r d v : Int} {h' : Heap} {tk : Nat} {m' : Str → Option Value} {all : List (Addr × Obj)} (F : Fr h₀ L h' m') (N : News h₀ L h' all) (hs : ∀ p ∈ (I, oI) :: hd :: (D, listOf (List.toArray us) c) :: news, p ∈ all) {o' : Obj} (off : ∀ p ∈ hd :: (D, o') :: news, p.1 ≠ I)
    (a1 : IntsAre us (ns.set j v)) (a2 : RowOK x y x.length i j ns) (hj : j < x.length) (a3 : m' (S' "a") = some (.str (Tx x) t1)) (a4 : m' (S' "b") = some (.str (Tx y) t2)) (a5 : m' (S' "max_cost") = some (.int mx t3)) (a6 : m' (S' "row") = some (.ref D))
    (a7 : m' (S' "bindex") = some (.int (i : Int) ti)) (a8 : m' (S' "bchar") = some (.str (Tx [y.getD i 0]) tb)) (a9 : m' (S' "distance") = some (.int d td)) (a10 : m' (S' "result") = some (.int r tr)) (a11 : m' (S' "minimum") = some (.int mi tm)) (hdd : d = DD x y i (j + 1)) (hr : r = DD x y (i + 1) (j + 1)) (hv : v = r) {mi₀ : Int} (h0 : i < j → mi₀ ≤ cS x y (i + 1)) (hm : mi ≤ mi₀ ∧ mi ≤ r) :
    ForPost h₀ L I oI s₁ (InnJ hd news D x y t1 t2 mx t3 i ti tb (j + 1)) Q .next { s₁ with heap := h', toks := tk } := by
  refine ForEnd.intro _ F N hs (off2 off) ⟨us, _, c, tr, td, tm, mi, rfl, a1, a2.set hj (hv.trans hr), fun q => ?_, a3, a4, a5, a6, a7, a8, by rw [a9, hdd], by rw [a10, hr]; unfold RR; rw [if_neg (by omega)], a11⟩
  by_cases e : i < j
  · have := h0 e; omega
  · obtain rfl : i = j := by omega
    rw [dd_diag] at hr; omega
end
end Mine
end
section
open PySem PySem.W PySem.Spec PySem.Calls PyProof.Rows
namespace Mine
def CutEnd (h₀ : Heap) (L : Addr) (news : List (Addr × Obj)) (s : Shared) (J : (Str → Option Value) → Prop) (f : Flow) (s' : Shared) : Prop :=
  f = .next ∧ ∃ h' tk' m', s' = { s with heap := h', toks := tk' } ∧ Fr h₀ L h' m' ∧ News h₀ L h' news ∧ J m'
def CutA (x y : List Nat) (q : Nat) (t2 : Tok) (mx : Int) (t3 tq : Tok) (m : Str → Option Value) : Prop :=
  ∃ t, m (S' "a") = some (.str (Tx (x.take (x.length - q))) t) ∧ m (S' "b") = some (.str (Tx y) t2) ∧ m (S' "max_cost") = some (.int mx t3) ∧ m (S' "post") = some (.int (-(q : Int)) tq)
def CutB (x y : List Nat) (q : Nat) (t1 : Tok) (mx : Int) (t3 tq : Tok) (m : Str → Option Value) : Prop :=
  ∃ t, m (S' "a") = some (.str (Tx x) t1) ∧ m (S' "b") = some (.str (Tx (y.take (y.length - q))) t) ∧ m (S' "max_cost") = some (.int mx t3) ∧ m (S' "post") = some (.int (-(q : Int)) tq)
theorem take_zero_ok {x z : List Nat} {q : Nat} (h : z = x) (hq : q = 0) : z = x.take (x.length - q) := by subst hq; rw [h, Nat.sub_zero, List.take_length]
theorem take_neg_ok {x z : List Nat} {q : Nat} (h : z = x.take (x.length - (- -(q : Int)).toNat)) : z = x.take (x.length - q) := by rw [h]; congr 1; omega
section
variable {prog : Program} {w : World} {A : Around} {E : Value → Shared → Prop} {s : Shared} {env : Env} {h₀ : Heap} {L : Addr} {m : Str → Option Value} {news : List (Addr × Obj)} {Q : Flow → Shared → Prop} {x y : List Nat} {t1 t2 t3 tq : Tok} {mx : Int} {q : Nat}
theorem cut_a {st : Stmt} (F : Fr h₀ L s.heap m) (N : News h₀ L s.heap news) (h1 : m (S' "a") = some (.str (Tx x) t1)) (h2 : m (S' "b") = some (.str (Tx y) t2)) (h3 : m (S' "max_cost") = some (.int mx t3)) (h4 : m (S' "post") = some (.int (-(q : Int)) tq)) (hq : q ≤ x.length)
    (h : wpAny (model prog w) A (exec st env) (CutEnd h₀ L news s (CutA x y q t2 mx t3 tq)) E s)
    (k : ∀ z t h' tk' m', z = x.take (x.length - q) → z.length = x.length - q → m' (S' "a") = some (.str (Tx z) t) → m' (S' "b") = some (.str (Tx y) t2) → m' (S' "max_cost") = some (.int mx t3) → m' (S' "post") = some (.int (-(q : Int)) tq) → Fr h₀ L h' m' → News h₀ L h' news → Q .next { s with heap := h', toks := tk' }) :
    wpAny (model prog w) A (exec st env) Q E s := by
  refine wpAny_mono h (fun f s' hq' => ?_) fun _ _ e => e
  obtain ⟨rfl, h', tk', m', rfl, F', N', t, a1, a2, a3, a4⟩ := hq'
  exact k _ t h' tk' m' rfl (by rw [List.length_take]; omega) a1 a2 a3 a4 F' N'
theorem cut_b {st : Stmt} (F : Fr h₀ L s.heap m) (N : News h₀ L s.heap news) (h1 : m (S' "a") = some (.str (Tx x) t1)) (h2 : m (S' "b") = some (.str (Tx y) t2)) (h3 : m (S' "max_cost") = some (.int mx t3)) (h4 : m (S' "post") = some (.int (-(q : Int)) tq)) (hq : q ≤ y.length)
    (h : wpAny (model prog w) A (exec st env) (CutEnd h₀ L news s (CutB x y q t1 mx t3 tq)) E s)
    (k : ∀ z t h' tk' m', z = y.take (y.length - q) → z.length = y.length - q → m' (S' "a") = some (.str (Tx x) t1) → m' (S' "b") = some (.str (Tx z) t) → m' (S' "max_cost") = some (.int mx t3) → m' (S' "post") = some (.int (-(q : Int)) tq) → Fr h₀ L h' m' → News h₀ L h' news → Q .next { s with heap := h', toks := tk' }) :
    wpAny (model prog w) A (exec st env) Q E s := by
  refine wpAny_mono h (fun f s' hq' => ?_) fun _ _ e => e
  obtain ⟨rfl, h', tk', m', rfl, F', N', t, a1, a2, a3, a4⟩ := hq'
  exact k _ t h' tk' m' rfl (by rw [List.length_take]; omega) a1 a2 a3 a4 F' N'
theorem CutA.end_ {h' : Heap} {tk : Nat} {z : List Nat} {t : Tok} (F : Fr h₀ L h' m) (N : News h₀ L h' news) (h1 : m (S' "a") = some (.str (Tx z) t)) (hz : z = x.take (x.length - q)) (h2 : m (S' "b") = some (.str (Tx y) t2)) (h3 : m (S' "max_cost") = some (.int mx t3)) (h4 : m (S' "post") = some (.int (-(q : Int)) tq)) :
    CutEnd h₀ L news s (CutA x y q t2 mx t3 tq) .next { s with heap := h', toks := tk } := ⟨rfl, h', tk, m, rfl, F, N, t, hz ▸ h1, h2, h3, h4⟩
theorem CutB.end_ {h' : Heap} {tk : Nat} {z : List Nat} {t : Tok} (F : Fr h₀ L h' m) (N : News h₀ L h' news) (h2 : m (S' "b") = some (.str (Tx z) t)) (hz : z = y.take (y.length - q)) (h1 : m (S' "a") = some (.str (Tx x) t1)) (h3 : m (S' "max_cost") = some (.int mx t3)) (h4 : m (S' "post") = some (.int (-(q : Int)) tq)) :
    CutEnd h₀ L news s (CutB x y q t1 mx t3 tq) .next { s with heap := h', toks := tk } := ⟨rfl, h', tk, m, rfl, F, N, t, h1, hz ▸ h2, h3, h4⟩
end
theorem cc_eq0 {x y : List Nat} {k : Nat} (h : y.getD k 0 = x.getD k 0) : cc x y k = 0 := by
  unfold cc scost; rw [h]; simp
theorem cS_pre {u v : List Nat} {p : Nat} (h : u.take p = v.take p) : cS u v p = 0 := by
  have key : ∀ k, k ≤ p → cS u v k = 0 := by
    intro k
    induction k with
    | zero => intro _; rfl
    | succ k ih =>
      intro hk
      show cS u v k + cc u v k = 0
      rw [ih (by omega), cc_eq0]
      · rfl
      · have := congrArg (fun l => l.getD k 0) h
        simp only [List.getD_eq_getElem?_getD, List.getElem?_take, if_pos (show k < p by omega)] at this
        rw [List.getD_eq_getElem?_getD, List.getD_eq_getElem?_getD, this]
  exact key p (Nat.le_refl _)
theorem getD_drop' (u : List Nat) (p k : Nat) : (u.drop p).getD k 0 = u.getD (p + k) 0 := by
  rw [List.getD_eq_getElem?_getD, List.getD_eq_getElem?_getD, List.getElem?_drop]
theorem cS_drop (u v : List Nat) (p k : Nat) : cS u v (p + k) = cS u v p + cS (u.drop p) (v.drop p) k := by
  induction k with
  | zero => show cS u v p = cS u v p + 0; omega
  | succ k ih =>
    show cS u v (p + k) + cc u v (p + k) = cS u v p + (cS (u.drop p) (v.drop p) k + cc (u.drop p) (v.drop p) k)
    have : cc (u.drop p) (v.drop p) k = cc u v (p + k) := by unfold cc; rw [getD_drop', getD_drop']
    omega
theorem getD_take' {u : List Nat} {n k : Nat} (h : k < n) : (u.take n).getD k 0 = u.getD k 0 := by
  rw [List.getD_eq_getElem?_getD, List.getD_eq_getElem?_getD, List.getElem?_take, if_pos h]
theorem cS_take (u v : List Nat) (n : Nat) : ∀ k, k ≤ n → cS (u.take n) (v.take n) k = cS u v k := by
  intro k
  induction k with
  | zero => intro _; rfl
  | succ k ih =>
    intro hk
    show cS (u.take n) (v.take n) k + cc (u.take n) (v.take n) k = cS u v k + cc u v k
    rw [ih (by omega)]
    congr 1
    unfold cc; rw [getD_take' (by omega), getD_take' (by omega)]
/-- what two words of one length are apart -/
def wcost (u v : List Nat) : Int := cS u v u.length
theorem wcost_drop {u v x y : List Nat} {p : Nat} (hp : p ≤ u.length) (h : u.take p = v.take p) (hx : x = u.drop p) (hy : y = v.drop p) : wcost u v = wcost x y := by
  subst hx hy
  unfold wcost
  have := cS_drop u v p (u.length - p)
  rw [cS_pre h, List.length_drop] at *
  rw [show p + (u.length - p) = u.length by omega] at this
  rw [this]; omega
theorem wcost_take {u v x y : List Nat} {q : Nat} (hl : u.length = v.length) (hq : q ≤ u.length) (h : u.drop (u.length - q) = v.drop (u.length - q)) (hx : x = u.take (u.length - q)) (hy : y = v.take (v.length - q)) : wcost u v = wcost x y := by
  subst hx hy
  rw [← hl]
  unfold wcost
  have e := cS_drop u v (u.length - q) q
  rw [show u.length - q + q = u.length by omega, h] at e
  have e2 : cS (v.drop (u.length - q)) (v.drop (u.length - q)) q = 0 := cS_pre rfl
  rw [List.length_take, Nat.min_eq_left (by omega), cS_take _ _ _ _ (Nat.le_refl _), e, e2]; omega
theorem Apart.drop {u v x y : List Nat} {p : Nat} (h : Apart u v) (hx : x = u.drop p) (hy : y = v.drop p) : Apart x y := by
  subst hx hy
  intro i j hi hj hne
  rw [List.length_drop] at hi hj
  rw [getD_drop', getD_drop']
  exact h _ _ (by omega) (by omega) (by omega)
theorem Apart.take {u v x y : List Nat} {n n' : Nat} (h : Apart u v) (hx : x = u.take n) (hy : y = v.take n') (hn : n = n') : Apart x y := by
  subst hx hy hn
  intro i j hi hj hne
  rw [List.length_take] at hi hj
  rw [getD_take' (by omega), getD_take' (by omega)]
  exact h _ _ (by omega) (by omega) hne
theorem wcost_nonneg (u v : List Nat) : 0 ≤ wcost u v := by have := cS_mono u v (Nat.zero_le u.length); exact this
theorem wcost_self (u : List Nat) : wcost u u = 0 := cS_pre rfl
theorem SrcF.same {prog : Program} {w : World} {A : Around} {h₀ : Heap} {L : Addr} {m : Str → Option Value} {news : List (Addr × Obj)} {S : List (Addr × Obj) → Prop} {n : Nat} {P : Nat → Value → Prop} {s₁ s₂ : Shared} {it : Value} (H : SrcF prog w A h₀ L m news S n P s₁ it s₂) : ∃ h, s₂ = { s₁ with heap := h } := by
  obtain ⟨I, fp, St, _, _, _, _, _, _, _, _, _, _, e⟩ := H.ex
  exact e
theorem range0 (k : Nat) : Builtin.Range.rangeSize 0 (k : Int) 1 = ((k : Nat) : Int) := by rw [rangeSize_nat]; omega
theorem my_cell {prog : Program} {w : World} {A : Around} {E : Value → Shared → Prop} {s : Shared} {h₀ : Heap} {L D : Addr} {news : List (Addr × Obj)} {vs : List Value} {ns : List Int} {c : Nat} {u : Tok} {value slice : PySem.Expr} {Q : Value → Shared → Prop} {x y : List Nat} {n i j : Nat} (N : News h₀ L s.heap news) (hm : (D, listOf vs.toArray c) ∈ news) (hi : IntsAre vs ns) (hr : RowOK x y n i j ns) (h1 : j < n) (hz : n ≤ 1000) (h : ∀ t, Q (.int (DD x y i (j + 1)) t) s)
    (hs : subscripted slice false (.ref D) (.int (j : Int) u) = operate [.ref D, .int (j : Int) u] (getItem (.ref D) (.int (j : Int) u)) := by with_unfolding_all rfl) :
    wpAny (model prog w) A (subscriptTail value slice (.ref D) (.int (j : Int) u)) Q E s := by
  refine ksa_sub N hm hi (by omega) (by rw [hr.1]; omega) (by omega) (fun t => ?_) hs
  rw [Int.toNat_natCast, hr.get h1]
  exact h t
theorem for_ruleL {prog : Program} {w : World} {A : Around} {E : Value → Shared → Prop} {s : Shared} {h₀ : Heap} {L : Addr} {m : Str → Option Value} {target iter : Expr} {body : List Stmt} {env : Env} {pos : Pos} {Q : Flow → Shared → Prop} (hF : Fr h₀ L s.heap m) (hs : ∀ x, foldedSetIterable iter env x = pure x)
    (h : wpAny (model prog w) A (eval iter env) (fun xv s₁ => wpAny (model prog w) A (pyIter xv) (LoopOK prog w A L env target body Q s₁) E s₁) E s) :
    wpAny (model prog w) A (exec (.For target iter body [] pos) env) Q E s := have _ := hF; for_rule hs h
theorem my_store {prog : Program} {w : World} {A : Around} {E : Value → Shared → Prop} {s : Shared} {h₀ : Heap} {L D : Addr} {m : Str → Option Value} {news news' : List (Addr × Obj)} {vs : List Value} {ns : List Int} {c : Nat} {u t : Tok} {Q : Unit → Shared → Prop} {x y : List Nat} {n i j : Nat} {v : Int} (F : Fr h₀ L s.heap m) (N : News h₀ L s.heap news) (U : Upd D (listOf vs.toArray c) (listOf (vs.set j (.int v t)).toArray c) news news') (hi : IntsAre vs ns) (hr : RowOK x y n i j ns) (h1 : j < n) (hz : n ≤ 1000)
    (h : ∀ h', Fr h₀ L h' m → News h₀ L h' news' → IntsAre (vs.set j (.int v t)) (ns.set j v) → Q () { s with heap := h' }) : wpAny (model prog w) A (setItem (.ref D) (.int (j : Int) u) (.int v t)) Q E s := by
  refine ksa_set F N (by rw [Int.toNat_natCast]; exact U) hi (by omega) (by rw [hr.1]; omega) (by omega) (fun h' F' N' hi' _ _ => ?_)
  rw [Int.toNat_natCast] at hi'
  exact h h' F' N' hi'
theorem lev_facts {u v x y z z' : List Nat} {p q : Nat} (hl : u.length = v.length) (hp : p ≤ u.length) (ht : u.take p = v.take p) (ex : x = u.drop (p : Int).toNat) (ey : y = v.drop (p : Int).toNat) (hq : q ≤ x.length) (hd : x.drop (x.length - q) = y.drop (x.length - q)) (ez : z = x.take (x.length - q)) (ez' : z' = y.take (y.length - q)) (hap : Apart u v) : wcost u v = cS z z' z.length ∧ Apart z z' := by
  rw [Int.toNat_natCast] at ex ey
  have hxy : x.length = y.length := by rw [ex, ey, List.length_drop, List.length_drop, hl]
  refine ⟨(wcost_drop hp ht ex ey).trans (wcost_take hxy hq hd ez ez'), (hap.drop ex ey).take ez ez' (by rw [hxy])⟩
theorem wcost_eq0 {u v : List Nat} (h : (Tx u == Tx v) = true) : 0 = wcost u v := by
  rw [Tx_inj] at h; rw [of_decide_eq_true h, wcost_self]
theorem wcost_none {u v z z' : List Nat} (h : wcost u v = cS z z' z.length ∧ Apart z z') (h0 : z.length = 0) (h1 : z'.length = 0) : 2 * ((z.length : Int) + (z'.length : Int)) = wcost u v := by
  rw [h.1, h0, h1]; rfl
theorem upd2 {I D J : Addr} {oI oJ o o' o1 : Obj} {news : List (Addr × Obj)} (h1 : ∀ p ∈ (J, oJ) :: (D, o) :: news, p.1 ≠ I) (h2 : ∀ p ∈ (D, o1) :: news, p.1 ≠ J) (h3 : ∀ p ∈ news, p.1 < D) :
    Upd D o o' ((I, oI) :: (J, oJ) :: (D, o) :: news) ((I, oI) :: (J, oJ) :: (D, o') :: news) :=
  .tail (fun e => h1 (D, o) (.tail _ (.head _)) e.symm) (.tail (fun e => h2 (D, o1) (.head _) e.symm) (.head fun p hp => Nat.ne_of_lt (h3 p hp)))
end Mine
end
section
open PySem PySem.W PySem.Spec PySem.Calls PyProof.Rows
set_option maxRecDepth 100000
set_option maxHeartbeats 8000000
namespace Mine



theorem bisL_call0 (w : World) (news : List (Addr × Obj)) (x : Int) (t1 : Tok) (l : Addr) (vs : List Value) (ns : List Int) (n : Nat) (hi : IntsAre vs ns) (hn : ns.length < 1000) (hs : Srt ns) :
    Call1 1 w 71 ((l, listOf vs.toArray n) :: news) [.ref l, .int x t1] (fun v news' => (∃ t, v = .int (cL ns x) t) ∧ news' = (l, listOf vs.toArray n) :: news) := by
  have hrow : PySem.Challenge.rw_ty0036_01.most = some 63 := rfl
  unfold Call1
  revert hrow
  k_with_none
  w_top off
  k_with "tb_start" => (k_dflt (first
  | (refine' code_def ?zqk1 ?zqk2 ?zqk3 ?zqk4 ?zqk5 ?zqkA ?zqkF ?zqkK ?zqk6 ?zqk7 ?zqk8 ?zqk9 ?zqkB ?_ ?zqc2 ?zqc3 ?zqc4 ?zqc5; (case zqkA => exact rfl); (case zqkF => exact rfl); (case zqkK => assumption); (case zqk1 => k_asm); (case zqk2 => k_asm); (case zqk3 => k_asm); (case zqk4 => k_asm); (case zqk5 => k_asm); (case zqk6 => k_is); (case zqk7 => k_is); (case zqk8 => ktr_room); (case zqk9 => first | exact BindsTo.of_eq rfl | (refine' kp_binds ?zqkx ?zqke; (case zqkx => k_in); (case zqke => exact fun _ => rfl))); (case zqc5 => decide); (case zqkB => exact locs rfl); (case zqc2 => exact rfl); (case zqc3 => exact rfl); (case zqc4 => exact rfl); k_whole; intro g' L' h' FG' F' N' B' X' T'; (try dsimp only); (try k_lift B'); (try k_fold))
  | (refine' code_defC ?zqk1 ?zqk2 ?zqk3 ?zqk4 ?zqk5 ?zqkA ?zqkF ?zqkK ?zqk6 ?zqk7 ?zqk8 ?zqk9 ?zqkB ?zqkD ?_ ?zqc2 ?zqc3 ?zqc4; (case zqkA => exact rfl); (case zqkF => exact rfl); (case zqkK => assumption); (case zqk1 => k_asm); (case zqk2 => k_asm); (case zqk3 => k_asm); (case zqk4 => k_asm); (case zqk5 => k_asm); (case zqk6 => k_is); (case zqk7 => k_is); (case zqk8 => ktr_room); (case zqk9 => first | exact BindsTo.of_eq rfl | (refine' kp_binds ?zqkx ?zqke; (case zqkx => k_in); (case zqke => exact fun _ => rfl))); (case zqkB => exact rfl); (case zqkD => decide +kernel); (case zqc2 => exact rfl); (case zqc3 => exact rfl); (case zqc4 => exact rfl); k_whole; intro g' L' h' tk' cells' FG' F' N' Y' B' X' T' l1; (try k_lt l1); k_cells Y'; (try simp only [List.cons_append, List.nil_append] at N'); (try dsimp only); (try k_lift B'); (try k_fold))))
  k_fill
  intro hrow
  clear hrow
  intro p loose mean mg mb dp un gd cn cs a ccd cl outer A₀ base h₀ L m s Q E B F X N T hk hdp hun hret
  refine wpAny_call ?_
  k_extra "tb_start"
  (k_with "exec While Compare cons nil" => k_while (fun ns lo hi => 0 ≤ lo ∧ lo ≤ hi ∧ hi ≤ (ns.length : Int) ∧ BL x ns lo hi) (fun _ lo hi => (hi - lo).toNat) "lo" "hi")
  (k_with "state" => first | exact bl_start _ _ | exact bl_up (by assumption) (by assumption) (by assumption) (by assumption) (by assumption) (by assumption) (by assumption) | exact bl_dn (by assumption) (by assumption) (by assumption) (by assumption) (by assumption) (by assumption) (by assumption))
  (k_with "measure" => first | exact mid_less1 (by assumption) | exact mid_less2 (by assumption))
  k_steps
  all_goals exact hret _ _ _ _ ⟨ktn_int (bl_end (by assumption) (by assumption) (by assumption) (by assumption) (by assumption)), rfl⟩ (by k_asm) (by k_asm)
theorem bisL_call (w : World) (news : List (Addr × Obj)) (x : Int) (t1 : Tok) (l : Addr) (vs : List Value) (ns : List Int) (n : Nat) (hl : (l, listOf vs.toArray n) ∈ news) (hi : IntsAre vs ns) (hn : ns.length < 1000) (hs : Srt ns) :
    Call1 1 w 71 news [.ref l, .int x t1] (fun v news' => (∃ t, v = .int (cL ns x) t) ∧ news' = news) :=
  (bisL_call0 w news x t1 l vs ns n hi hn hs).weak (List.forall_mem_cons.mpr ⟨hl, fun _ h => h⟩) (fun _ _ hr => ⟨news, ⟨hr.1, rfl⟩, fun _ hp => hr.2 ▸ .tail _ hp⟩)

theorem bisR_call0 (w : World) (news : List (Addr × Obj)) (x : Int) (t1 : Tok) (l : Addr) (vs : List Value) (ns : List Int) (n : Nat) (hi : IntsAre vs ns) (hn : ns.length < 1000) (hs : Srt ns) :
    Call1 1 w 53 ((l, listOf vs.toArray n) :: news) [.ref l, .int x t1] (fun v news' => (∃ t, v = .int (cR ns x) t) ∧ news' = (l, listOf vs.toArray n) :: news) := by
  have hrow : PySem.Challenge.rw_ty0036_01.most = some 63 := rfl
  unfold Call1
  revert hrow
  k_with_none
  w_top off
  k_with "tb_start" => (k_dflt (first
  | (refine' code_def ?zqk1 ?zqk2 ?zqk3 ?zqk4 ?zqk5 ?zqkA ?zqkF ?zqkK ?zqk6 ?zqk7 ?zqk8 ?zqk9 ?zqkB ?_ ?zqc2 ?zqc3 ?zqc4 ?zqc5; (case zqkA => exact rfl); (case zqkF => exact rfl); (case zqkK => assumption); (case zqk1 => k_asm); (case zqk2 => k_asm); (case zqk3 => k_asm); (case zqk4 => k_asm); (case zqk5 => k_asm); (case zqk6 => k_is); (case zqk7 => k_is); (case zqk8 => ktr_room); (case zqk9 => first | exact BindsTo.of_eq rfl | (refine' kp_binds ?zqkx ?zqke; (case zqkx => k_in); (case zqke => exact fun _ => rfl))); (case zqc5 => decide); (case zqkB => exact locs rfl); (case zqc2 => exact rfl); (case zqc3 => exact rfl); (case zqc4 => exact rfl); k_whole; intro g' L' h' FG' F' N' B' X' T'; (try dsimp only); (try k_lift B'); (try k_fold))
  | (refine' code_defC ?zqk1 ?zqk2 ?zqk3 ?zqk4 ?zqk5 ?zqkA ?zqkF ?zqkK ?zqk6 ?zqk7 ?zqk8 ?zqk9 ?zqkB ?zqkD ?_ ?zqc2 ?zqc3 ?zqc4; (case zqkA => exact rfl); (case zqkF => exact rfl); (case zqkK => assumption); (case zqk1 => k_asm); (case zqk2 => k_asm); (case zqk3 => k_asm); (case zqk4 => k_asm); (case zqk5 => k_asm); (case zqk6 => k_is); (case zqk7 => k_is); (case zqk8 => ktr_room); (case zqk9 => first | exact BindsTo.of_eq rfl | (refine' kp_binds ?zqkx ?zqke; (case zqkx => k_in); (case zqke => exact fun _ => rfl))); (case zqkB => exact rfl); (case zqkD => decide +kernel); (case zqc2 => exact rfl); (case zqc3 => exact rfl); (case zqc4 => exact rfl); k_whole; intro g' L' h' tk' cells' FG' F' N' Y' B' X' T' l1; (try k_lt l1); k_cells Y'; (try simp only [List.cons_append, List.nil_append] at N'); (try dsimp only); (try k_lift B'); (try k_fold))))
  k_fill
  intro hrow
  clear hrow
  intro p loose mean mg mb dp un gd cn cs a ccd cl outer A₀ base h₀ L m s Q E B F X N T hk hdp hun hret
  refine wpAny_call ?_
  k_extra "tb_start"
  (k_with "exec While Compare cons nil" => k_while (fun ns lo hi => 0 ≤ lo ∧ lo ≤ hi ∧ hi ≤ (ns.length : Int) ∧ BR x ns lo hi) (fun _ lo hi => (hi - lo).toNat) "lo" "hi")
  (k_with "state" => first | exact br_start _ _ | exact br_up (by assumption) (by assumption) (by assumption) (by assumption) (by assumption) (by assumption) (by assumption) | exact br_dn (by assumption) (by assumption) (by assumption) (by assumption) (by assumption) (by assumption) (by assumption))
  (k_with "measure" => first | exact mid_less1 (by assumption) | exact mid_less2 (by assumption))
  k_steps
  all_goals exact hret _ _ _ _ ⟨ktn_int (br_end (by assumption) (by assumption) (by assumption) (by assumption) (by assumption)), rfl⟩ (by k_asm) (by k_asm)
theorem bisR_call (w : World) (news : List (Addr × Obj)) (x : Int) (t1 : Tok) (l : Addr) (vs : List Value) (ns : List Int) (n : Nat) (hl : (l, listOf vs.toArray n) ∈ news) (hi : IntsAre vs ns) (hn : ns.length < 1000) (hs : Srt ns) :
    Call1 1 w 53 news [.ref l, .int x t1] (fun v news' => (∃ t, v = .int (cR ns x) t) ∧ news' = news) :=
  (bisR_call0 w news x t1 l vs ns n hi hn hs).weak (List.forall_mem_cons.mpr ⟨hl, fun _ h => h⟩) (fun _ _ hr => ⟨news, ⟨hr.1, rfl⟩, fun _ hp => hr.2 ▸ .tail _ hp⟩)

theorem bisL4_call0 (w : World) (news : List (Addr × Obj)) (x : Int) (t1 t2 : Tok) (l : Addr) (vs : List Value) (ns : List Int) (n : Nat) (hi : IntsAre vs ns) (hn : ns.length < 1000) (hs : Srt ns) :
    Call1 1 w 71 ((l, listOf vs.toArray n) :: news) [.ref l, .int x t1, .int 0 t2, .none] (fun v news' => (∃ t, v = .int (cL ns x) t) ∧ news' = (l, listOf vs.toArray n) :: news) := by
  have hrow : PySem.Challenge.rw_ty0036_01.most = some 63 := rfl
  unfold Call1
  revert hrow
  k_with_none
  w_top off
  k_with "tb_start" => (k_dflt (first
  | (refine' code_def ?zqk1 ?zqk2 ?zqk3 ?zqk4 ?zqk5 ?zqkA ?zqkF ?zqkK ?zqk6 ?zqk7 ?zqk8 ?zqk9 ?zqkB ?_ ?zqc2 ?zqc3 ?zqc4 ?zqc5; (case zqkA => exact rfl); (case zqkF => exact rfl); (case zqkK => assumption); (case zqk1 => k_asm); (case zqk2 => k_asm); (case zqk3 => k_asm); (case zqk4 => k_asm); (case zqk5 => k_asm); (case zqk6 => k_is); (case zqk7 => k_is); (case zqk8 => ktr_room); (case zqk9 => first | exact BindsTo.of_eq rfl | (refine' kp_binds ?zqkx ?zqke; (case zqkx => k_in); (case zqke => exact fun _ => rfl))); (case zqc5 => decide); (case zqkB => exact locs rfl); (case zqc2 => exact rfl); (case zqc3 => exact rfl); (case zqc4 => exact rfl); k_whole; intro g' L' h' FG' F' N' B' X' T'; (try dsimp only); (try k_lift B'); (try k_fold))
  | (refine' code_defC ?zqk1 ?zqk2 ?zqk3 ?zqk4 ?zqk5 ?zqkA ?zqkF ?zqkK ?zqk6 ?zqk7 ?zqk8 ?zqk9 ?zqkB ?zqkD ?_ ?zqc2 ?zqc3 ?zqc4; (case zqkA => exact rfl); (case zqkF => exact rfl); (case zqkK => assumption); (case zqk1 => k_asm); (case zqk2 => k_asm); (case zqk3 => k_asm); (case zqk4 => k_asm); (case zqk5 => k_asm); (case zqk6 => k_is); (case zqk7 => k_is); (case zqk8 => ktr_room); (case zqk9 => first | exact BindsTo.of_eq rfl | (refine' kp_binds ?zqkx ?zqke; (case zqkx => k_in); (case zqke => exact fun _ => rfl))); (case zqkB => exact rfl); (case zqkD => decide +kernel); (case zqc2 => exact rfl); (case zqc3 => exact rfl); (case zqc4 => exact rfl); k_whole; intro g' L' h' tk' cells' FG' F' N' Y' B' X' T' l1; (try k_lt l1); k_cells Y'; (try simp only [List.cons_append, List.nil_append] at N'); (try dsimp only); (try k_lift B'); (try k_fold))))
  k_fill
  intro hrow
  clear hrow
  intro p loose mean mg mb dp un gd cn cs a ccd cl outer A₀ base h₀ L m s Q E B F X N T hk hdp hun hret
  refine wpAny_call ?_
  k_extra "tb_start"
  (k_with "exec While Compare cons nil" => k_while (fun ns lo hi => 0 ≤ lo ∧ lo ≤ hi ∧ hi ≤ (ns.length : Int) ∧ BL x ns lo hi) (fun _ lo hi => (hi - lo).toNat) "lo" "hi")
  (k_with "state" => first | exact bl_start _ _ | exact bl_up (by assumption) (by assumption) (by assumption) (by assumption) (by assumption) (by assumption) (by assumption) | exact bl_dn (by assumption) (by assumption) (by assumption) (by assumption) (by assumption) (by assumption) (by assumption))
  (k_with "measure" => first | exact mid_less1 (by assumption) | exact mid_less2 (by assumption))
  k_steps
  all_goals exact hret _ _ _ _ ⟨ktn_int (bl_end (by assumption) (by assumption) (by assumption) (by assumption) (by assumption)), rfl⟩ (by k_asm) (by k_asm)
theorem bisL4_call (w : World) (news : List (Addr × Obj)) (x : Int) (t1 t2 : Tok) (l : Addr) (vs : List Value) (ns : List Int) (n : Nat) (hl : (l, listOf vs.toArray n) ∈ news) (hi : IntsAre vs ns) (hn : ns.length < 1000) (hs : Srt ns) :
    Call1 1 w 71 news [.ref l, .int x t1, .int 0 t2, .none] (fun v news' => (∃ t, v = .int (cL ns x) t) ∧ news' = news) :=
  (bisL4_call0 w news x t1 t2 l vs ns n hi hn hs).weak (List.forall_mem_cons.mpr ⟨hl, fun _ h => h⟩) (fun _ _ hr => ⟨news, ⟨hr.1, rfl⟩, fun _ hp => hr.2 ▸ .tail _ hp⟩)

theorem bisR4_call0 (w : World) (news : List (Addr × Obj)) (x : Int) (t1 t2 : Tok) (l : Addr) (vs : List Value) (ns : List Int) (n : Nat) (hi : IntsAre vs ns) (hn : ns.length < 1000) (hs : Srt ns) :
    Call1 1 w 53 ((l, listOf vs.toArray n) :: news) [.ref l, .int x t1, .int 0 t2, .none] (fun v news' => (∃ t, v = .int (cR ns x) t) ∧ news' = (l, listOf vs.toArray n) :: news) := by
  have hrow : PySem.Challenge.rw_ty0036_01.most = some 63 := rfl
  unfold Call1
  revert hrow
  k_with_none
  w_top off
  k_with "tb_start" => (k_dflt (first
  | (refine' code_def ?zqk1 ?zqk2 ?zqk3 ?zqk4 ?zqk5 ?zqkA ?zqkF ?zqkK ?zqk6 ?zqk7 ?zqk8 ?zqk9 ?zqkB ?_ ?zqc2 ?zqc3 ?zqc4 ?zqc5; (case zqkA => exact rfl); (case zqkF => exact rfl); (case zqkK => assumption); (case zqk1 => k_asm); (case zqk2 => k_asm); (case zqk3 => k_asm); (case zqk4 => k_asm); (case zqk5 => k_asm); (case zqk6 => k_is); (case zqk7 => k_is); (case zqk8 => ktr_room); (case zqk9 => first | exact BindsTo.of_eq rfl | (refine' kp_binds ?zqkx ?zqke; (case zqkx => k_in); (case zqke => exact fun _ => rfl))); (case zqc5 => decide); (case zqkB => exact locs rfl); (case zqc2 => exact rfl); (case zqc3 => exact rfl); (case zqc4 => exact rfl); k_whole; intro g' L' h' FG' F' N' B' X' T'; (try dsimp only); (try k_lift B'); (try k_fold))
  | (refine' code_defC ?zqk1 ?zqk2 ?zqk3 ?zqk4 ?zqk5 ?zqkA ?zqkF ?zqkK ?zqk6 ?zqk7 ?zqk8 ?zqk9 ?zqkB ?zqkD ?_ ?zqc2 ?zqc3 ?zqc4; (case zqkA => exact rfl); (case zqkF => exact rfl); (case zqkK => assumption); (case zqk1 => k_asm); (case zqk2 => k_asm); (case zqk3 => k_asm); (case zqk4 => k_asm); (case zqk5 => k_asm); (case zqk6 => k_is); (case zqk7 => k_is); (case zqk8 => ktr_room); (case zqk9 => first | exact BindsTo.of_eq rfl | (refine' kp_binds ?zqkx ?zqke; (case zqkx => k_in); (case zqke => exact fun _ => rfl))); (case zqkB => exact rfl); (case zqkD => decide +kernel); (case zqc2 => exact rfl); (case zqc3 => exact rfl); (case zqc4 => exact rfl); k_whole; intro g' L' h' tk' cells' FG' F' N' Y' B' X' T' l1; (try k_lt l1); k_cells Y'; (try simp only [List.cons_append, List.nil_append] at N'); (try dsimp only); (try k_lift B'); (try k_fold))))
  k_fill
  intro hrow
  clear hrow
  intro p loose mean mg mb dp un gd cn cs a ccd cl outer A₀ base h₀ L m s Q E B F X N T hk hdp hun hret
  refine wpAny_call ?_
  k_extra "tb_start"
  (k_with "exec While Compare cons nil" => k_while (fun ns lo hi => 0 ≤ lo ∧ lo ≤ hi ∧ hi ≤ (ns.length : Int) ∧ BR x ns lo hi) (fun _ lo hi => (hi - lo).toNat) "lo" "hi")
  (k_with "state" => first | exact br_start _ _ | exact br_up (by assumption) (by assumption) (by assumption) (by assumption) (by assumption) (by assumption) (by assumption) | exact br_dn (by assumption) (by assumption) (by assumption) (by assumption) (by assumption) (by assumption) (by assumption))
  (k_with "measure" => first | exact mid_less1 (by assumption) | exact mid_less2 (by assumption))
  k_steps
  all_goals exact hret _ _ _ _ ⟨ktn_int (br_end (by assumption) (by assumption) (by assumption) (by assumption) (by assumption)), rfl⟩ (by k_asm) (by k_asm)
theorem bisR4_call (w : World) (news : List (Addr × Obj)) (x : Int) (t1 t2 : Tok) (l : Addr) (vs : List Value) (ns : List Int) (n : Nat) (hl : (l, listOf vs.toArray n) ∈ news) (hi : IntsAre vs ns) (hn : ns.length < 1000) (hs : Srt ns) :
    Call1 1 w 53 news [.ref l, .int x t1, .int 0 t2, .none] (fun v news' => (∃ t, v = .int (cR ns x) t) ∧ news' = news) :=
  (bisR4_call0 w news x t1 t2 l vs ns n hi hn hs).weak (List.forall_mem_cons.mpr ⟨hl, fun _ h => h⟩) (fun _ _ hr => ⟨news, ⟨hr.1, rfl⟩, fun _ hp => hr.2 ▸ .tail _ hp⟩)

end Mine
end
section
open PySem PySem.W PySem.Spec PySem.Calls PyProof.Rows
set_option maxRecDepth 100000
set_option maxHeartbeats 8000000
namespace Mine










theorem insL_call (w : World) (news : List (Addr × Obj)) (x : Int) (t1 : Tok) (l : Addr) (vs : List Value) (ns : List Int) (n : Nat) (hi : IntsAre vs ns) (hn : ns.length < 900) (hs : Srt ns) (hne : ∀ p ∈ news, p.1 ≠ l) :
    Call1 3 w 62 ((l, listOf vs.toArray n) :: news) [.ref l, .int x t1] (fun v news' => v = .none ∧ news' = (l, listOf (insV vs (cL ns x) (.int x t1)).toArray (n + 1)) :: news) := by
  have hvl : vs.length = ns.length := hi.length
  have hcl := cL_le ns x
  have hrow : PySem.Challenge.rw_ty0036_01.most = some 63 := rfl
  unfold Call1
  revert hrow
  k_with_none
  w_top off
  k_with "tb_start" => (k_dflt (first
  | (refine' code_def ?zqk1 ?zqk2 ?zqk3 ?zqk4 ?zqk5 ?zqkA ?zqkF ?zqkK ?zqk6 ?zqk7 ?zqk8 ?zqk9 ?zqkB ?_ ?zqc2 ?zqc3 ?zqc4 ?zqc5; (case zqkA => exact rfl); (case zqkF => exact rfl); (case zqkK => assumption); (case zqk1 => k_asm); (case zqk2 => k_asm); (case zqk3 => k_asm); (case zqk4 => k_asm); (case zqk5 => k_asm); (case zqk6 => k_is); (case zqk7 => k_is); (case zqk8 => ktr_room); (case zqk9 => first | exact BindsTo.of_eq rfl | (refine' kp_binds ?zqkx ?zqke; (case zqkx => k_in); (case zqke => exact fun _ => rfl))); (case zqc5 => decide); (case zqkB => exact locs rfl); (case zqc2 => exact rfl); (case zqc3 => exact rfl); (case zqc4 => exact rfl); k_whole; intro g' L' h' FG' F' N' B' X' T'; (try dsimp only); (try k_lift B'); (try k_fold))
  | (refine' code_defC ?zqk1 ?zqk2 ?zqk3 ?zqk4 ?zqk5 ?zqkA ?zqkF ?zqkK ?zqk6 ?zqk7 ?zqk8 ?zqk9 ?zqkB ?zqkD ?_ ?zqc2 ?zqc3 ?zqc4; (case zqkA => exact rfl); (case zqkF => exact rfl); (case zqkK => assumption); (case zqk1 => k_asm); (case zqk2 => k_asm); (case zqk3 => k_asm); (case zqk4 => k_asm); (case zqk5 => k_asm); (case zqk6 => k_is); (case zqk7 => k_is); (case zqk8 => ktr_room); (case zqk9 => first | exact BindsTo.of_eq rfl | (refine' kp_binds ?zqkx ?zqke; (case zqkx => k_in); (case zqke => exact fun _ => rfl))); (case zqkB => exact rfl); (case zqkD => decide +kernel); (case zqc2 => exact rfl); (case zqc3 => exact rfl); (case zqc4 => exact rfl); k_whole; intro g' L' h' tk' cells' FG' F' N' Y' B' X' T' l1; (try k_lt l1); k_cells Y'; (try simp only [List.cons_append, List.nil_append] at N'); (try dsimp only); (try k_lift B'); (try k_fold))))
  k_with "call ref" => ((k_here; (with_reducible show wpAny _ _ (call (Value.ref 71) [Value.ref _, Value.int _ _, Value.int 0 _, Value.none]) _ _ _); k_dflt (refine' Call1.use (bisL4_call _ _ _ _ _ _ _ _ _ ?zqhl ?zqhi ?zqhn ?zqhs) ?zqk1 ?zqk2 ?zqk3 ?zqk4 ?zqk5 ?zqkK ?zqkd ?zqku ?_; (case zqk1 => k_asm); (case zqk2 => k_asm); (case zqk3 => k_asm); (case zqk4 => k_asm); (case zqk5 => k_asm); (case zqkK => first | exact rfl | assumption); (case zqhl => k_mem); (case zqhi => l_ints); (case zqhn => omega); (case zqhs => assumption); (case zqkd => ktr_room); (case zqku => ktr_units); intro v9 news9 h9 tk9 hR9 F9 N9; obtain ⟨⟨t9, e9⟩, e9'⟩ := hR9; subst e9; subst e9'; (try dsimp only); (try k_fold))))
  k_with "call ref" => ((k_here; (with_reducible show wpAny _ _ (call (Value.ref 53) [Value.ref _, Value.int _ _, Value.int 0 _, Value.none]) _ _ _); k_dflt (refine' Call1.use (bisR4_call _ _ _ _ _ _ _ _ _ ?zqhl ?zqhi ?zqhn ?zqhs) ?zqk1 ?zqk2 ?zqk3 ?zqk4 ?zqk5 ?zqkK ?zqkd ?zqku ?_; (case zqk1 => k_asm); (case zqk2 => k_asm); (case zqk3 => k_asm); (case zqk4 => k_asm); (case zqk5 => k_asm); (case zqkK => first | exact rfl | assumption); (case zqhl => k_mem); (case zqhi => l_ints); (case zqhn => omega); (case zqhs => assumption); (case zqkd => ktr_room); (case zqku => ktr_units); intro v9 news9 h9 tk9 hR9 F9 N9; obtain ⟨⟨t9, e9⟩, e9'⟩ := hR9; subst e9; subst e9'; (try dsimp only); (try k_fold))))
  k_fill
  intro hrow
  clear hrow
  intro p loose mean mg mb dp un gd cn cs a ccd cl outer A₀ base h₀ L m s Q E B F X N T hk hdp hun hret
  refine wpAny_call ?_
  k_extra "tb_start"
  (k_with "call builtin:list.insert" => (refine' my_insert ?F ?N ?m ?k ?v ?U ?_; (case F => k_asm); (case N => k_asm); (case m => k_mem); (case U => k_upd); (case k => omega); (case v => omega); intro h' F' N'; (try dsimp only [List.nil_append, List.cons_append] at N')))
  k_steps
  all_goals exact hret _ _ _ _ ⟨rfl, rfl⟩ (by k_asm) (by k_asm)

theorem insR_call (w : World) (news : List (Addr × Obj)) (x : Int) (t1 : Tok) (l : Addr) (vs : List Value) (ns : List Int) (n : Nat) (hi : IntsAre vs ns) (hn : ns.length < 900) (hs : Srt ns) (hne : ∀ p ∈ news, p.1 ≠ l) :
    Call1 3 w 44 ((l, listOf vs.toArray n) :: news) [.ref l, .int x t1] (fun v news' => v = .none ∧ news' = (l, listOf (insV vs (cR ns x) (.int x t1)).toArray (n + 1)) :: news) := by
  have hvl : vs.length = ns.length := hi.length
  have hcl := cR_le ns x
  have hrow : PySem.Challenge.rw_ty0036_01.most = some 63 := rfl
  unfold Call1
  revert hrow
  k_with_none
  w_top off
  k_with "tb_start" => (k_dflt (first
  | (refine' code_def ?zqk1 ?zqk2 ?zqk3 ?zqk4 ?zqk5 ?zqkA ?zqkF ?zqkK ?zqk6 ?zqk7 ?zqk8 ?zqk9 ?zqkB ?_ ?zqc2 ?zqc3 ?zqc4 ?zqc5; (case zqkA => exact rfl); (case zqkF => exact rfl); (case zqkK => assumption); (case zqk1 => k_asm); (case zqk2 => k_asm); (case zqk3 => k_asm); (case zqk4 => k_asm); (case zqk5 => k_asm); (case zqk6 => k_is); (case zqk7 => k_is); (case zqk8 => ktr_room); (case zqk9 => first | exact BindsTo.of_eq rfl | (refine' kp_binds ?zqkx ?zqke; (case zqkx => k_in); (case zqke => exact fun _ => rfl))); (case zqc5 => decide); (case zqkB => exact locs rfl); (case zqc2 => exact rfl); (case zqc3 => exact rfl); (case zqc4 => exact rfl); k_whole; intro g' L' h' FG' F' N' B' X' T'; (try dsimp only); (try k_lift B'); (try k_fold))
  | (refine' code_defC ?zqk1 ?zqk2 ?zqk3 ?zqk4 ?zqk5 ?zqkA ?zqkF ?zqkK ?zqk6 ?zqk7 ?zqk8 ?zqk9 ?zqkB ?zqkD ?_ ?zqc2 ?zqc3 ?zqc4; (case zqkA => exact rfl); (case zqkF => exact rfl); (case zqkK => assumption); (case zqk1 => k_asm); (case zqk2 => k_asm); (case zqk3 => k_asm); (case zqk4 => k_asm); (case zqk5 => k_asm); (case zqk6 => k_is); (case zqk7 => k_is); (case zqk8 => ktr_room); (case zqk9 => first | exact BindsTo.of_eq rfl | (refine' kp_binds ?zqkx ?zqke; (case zqkx => k_in); (case zqke => exact fun _ => rfl))); (case zqkB => exact rfl); (case zqkD => decide +kernel); (case zqc2 => exact rfl); (case zqc3 => exact rfl); (case zqc4 => exact rfl); k_whole; intro g' L' h' tk' cells' FG' F' N' Y' B' X' T' l1; (try k_lt l1); k_cells Y'; (try simp only [List.cons_append, List.nil_append] at N'); (try dsimp only); (try k_lift B'); (try k_fold))))
  k_with "call ref" => ((k_here; (with_reducible show wpAny _ _ (call (Value.ref 71) [Value.ref _, Value.int _ _, Value.int 0 _, Value.none]) _ _ _); k_dflt (refine' Call1.use (bisL4_call _ _ _ _ _ _ _ _ _ ?zqhl ?zqhi ?zqhn ?zqhs) ?zqk1 ?zqk2 ?zqk3 ?zqk4 ?zqk5 ?zqkK ?zqkd ?zqku ?_; (case zqk1 => k_asm); (case zqk2 => k_asm); (case zqk3 => k_asm); (case zqk4 => k_asm); (case zqk5 => k_asm); (case zqkK => first | exact rfl | assumption); (case zqhl => k_mem); (case zqhi => l_ints); (case zqhn => omega); (case zqhs => assumption); (case zqkd => ktr_room); (case zqku => ktr_units); intro v9 news9 h9 tk9 hR9 F9 N9; obtain ⟨⟨t9, e9⟩, e9'⟩ := hR9; subst e9; subst e9'; (try dsimp only); (try k_fold))))
  k_with "call ref" => ((k_here; (with_reducible show wpAny _ _ (call (Value.ref 53) [Value.ref _, Value.int _ _, Value.int 0 _, Value.none]) _ _ _); k_dflt (refine' Call1.use (bisR4_call _ _ _ _ _ _ _ _ _ ?zqhl ?zqhi ?zqhn ?zqhs) ?zqk1 ?zqk2 ?zqk3 ?zqk4 ?zqk5 ?zqkK ?zqkd ?zqku ?_; (case zqk1 => k_asm); (case zqk2 => k_asm); (case zqk3 => k_asm); (case zqk4 => k_asm); (case zqk5 => k_asm); (case zqkK => first | exact rfl | assumption); (case zqhl => k_mem); (case zqhi => l_ints); (case zqhn => omega); (case zqhs => assumption); (case zqkd => ktr_room); (case zqku => ktr_units); intro v9 news9 h9 tk9 hR9 F9 N9; obtain ⟨⟨t9, e9⟩, e9'⟩ := hR9; subst e9; subst e9'; (try dsimp only); (try k_fold))))
  k_fill
  intro hrow
  clear hrow
  intro p loose mean mg mb dp un gd cn cs a ccd cl outer A₀ base h₀ L m s Q E B F X N T hk hdp hun hret
  refine wpAny_call ?_
  k_extra "tb_start"
  (k_with "call builtin:list.insert" => (refine' my_insert ?F ?N ?m ?k ?v ?U ?_; (case F => k_asm); (case N => k_asm); (case m => k_mem); (case U => k_upd); (case k => omega); (case v => omega); intro h' F' N'; (try dsimp only [List.nil_append, List.cons_append] at N')))
  k_steps
  all_goals exact hret _ _ _ _ ⟨rfl, rfl⟩ (by k_asm) (by k_asm)
end Mine
end
section
open PySem PySem.W PySem.Spec PySem.Calls PyProof.Rows
set_option maxRecDepth 100000
set_option maxHeartbeats 8000000
namespace Mine









abbrev tup3 (x y z : Value) : Obj := { cls := .type "tuple", data := .seq #[x, y, z] }
theorem tok3 {r t u v : Tok} (h : r = t ∨ r = u ∨ r = v) (h1 : (t : Nat) ≠ 0) (h2 : (u : Nat) ≠ 0) (h3 : (v : Nat) ≠ 0) : (r : Nat) ≠ 0 := by
  rcases h with rfl | rfl | rfl <;> assumption
theorem six {i : Int} (h0 : i.fmod 6 ≠ 0) (h1 : i.fmod 6 ≠ 1) (h2 : i.fmod 6 ≠ 2) (h3 : i.fmod 6 ≠ 3) (h4 : i.fmod 6 ≠ 4) (h5 : i.fmod 6 ≠ 5) : False := by
  rw [Int.fmod_eq_emod_of_nonneg _ (by decide)] at *; omega
theorem tup_ret {news : List (Addr × Obj)} {D' : Addr} {a b c : UInt64} {t1 t2 t3 : Tok} {F : UInt64 × UInt64 × UInt64} (h : ∀ p ∈ news, p.1 < D') (e : (a, b, c) = F) (n1 : (t1 : Nat) ≠ 0) (n2 : (t2 : Nat) ≠ 0) (n3 : (t3 : Nat) ≠ 0) :
    ∃ D r1 r2 r3, Value.ref D' = .ref D ∧ (∀ p ∈ news, p.1 < D) ∧ ((D', tup3 (.float a t1) (.float b t2) (.float c t3)) :: news) = (D, tup3 (.float F.1 r1) (.float F.2.1 r2) (.float F.2.2 r3)) :: news ∧ (r1 : Nat) ≠ 0 ∧ (r2 : Nat) ≠ 0 ∧ (r3 : Nat) ≠ 0 := by
  subst e; exact ⟨D', t1, t2, t3, rfl, h, rfl, n1, n2, n3⟩
theorem hsv_call (w : World) (news : List (Addr × Obj)) (fh fs fv : UInt64) (t1 t2 t3 : Tok) (z3 : (t3 : Nat) ≠ 0) (hs0 : (Float64.cmp fs 0 == some .eq) = false) (hnan : Float64.isNaN (Float64.mul fh 4618441417868443648) = false) (hinf : Float64.isInf (Float64.mul fh 4618441417868443648) = false)
    (hbig : (Flt.toInt Float64.truncOf (Float64.mul fh 4618441417868443648)).natAbs < 2 ^ 40) :
    Call1 1 w 85 news [.float fh t1, .float fs t2, .float fv t3] (fun v news' => ∃ D r1 r2 r3, v = .ref D ∧ (∀ p ∈ news, p.1 < D) ∧ news' = (D, tup3 (.float (hsvF fh fs fv).1 r1) (.float (hsvF fh fs fv).2.1 r2) (.float (hsvF fh fs fv).2.2 r3)) :: news ∧ (r1 : Nat) ≠ 0 ∧ (r2 : Nat) ≠ 0 ∧ (r3 : Nat) ≠ 0) := by
  have hrow : PySem.Challenge.rw_ty0036_01.most = some 63 := rfl
  unfold Call1
  revert hrow
  k_with_none
  w_top off
  k_with "tb_start" => (k_dflt (first
  | (refine' code_def ?zqk1 ?zqk2 ?zqk3 ?zqk4 ?zqk5 ?zqkA ?zqkF ?zqkK ?zqk6 ?zqk7 ?zqk8 ?zqk9 ?zqkB ?_ ?zqc2 ?zqc3 ?zqc4 ?zqc5; (case zqkA => exact rfl); (case zqkF => exact rfl); (case zqkK => assumption); (case zqk1 => k_asm); (case zqk2 => k_asm); (case zqk3 => k_asm); (case zqk4 => k_asm); (case zqk5 => k_asm); (case zqk6 => k_is); (case zqk7 => k_is); (case zqk8 => ktr_room); (case zqk9 => first | exact BindsTo.of_eq rfl | (refine' kp_binds ?zqkx ?zqke; (case zqkx => k_in); (case zqke => exact fun _ => rfl))); (case zqc5 => decide); (case zqkB => exact locs rfl); (case zqc2 => exact rfl); (case zqc3 => exact rfl); (case zqc4 => exact rfl); k_whole; intro g' L' h' FG' F' N' B' X' T'; (try dsimp only); (try k_lift B'); (try k_fold))
  | (refine' code_defC ?zqk1 ?zqk2 ?zqk3 ?zqk4 ?zqk5 ?zqkA ?zqkF ?zqkK ?zqk6 ?zqk7 ?zqk8 ?zqk9 ?zqkB ?zqkD ?_ ?zqc2 ?zqc3 ?zqc4; (case zqkA => exact rfl); (case zqkF => exact rfl); (case zqkK => assumption); (case zqk1 => k_asm); (case zqk2 => k_asm); (case zqk3 => k_asm); (case zqk4 => k_asm); (case zqk5 => k_asm); (case zqk6 => k_is); (case zqk7 => k_is); (case zqk8 => ktr_room); (case zqk9 => first | exact BindsTo.of_eq rfl | (refine' kp_binds ?zqkx ?zqke; (case zqkx => k_in); (case zqke => exact fun _ => rfl))); (case zqkB => exact rfl); (case zqkD => decide +kernel); (case zqc2 => exact rfl); (case zqc3 => exact rfl); (case zqc4 => exact rfl); k_whole; intro g' L' h' tk' cells' FG' F' N' Y' B' X' T' l1; (try k_lt l1); k_cells Y'; (try simp only [List.cons_append, List.nil_append] at N'); (try dsimp only); (try k_lift B'); (try k_fold))))
  k_with "execs cons" => ((k_here; first | (with_reducible refine gen_toks1 ?_; intro tk' ht') | (with_reducible refine gen_toks2 ?zqhn ?_; (case zqhn => exact Nat.succ_ne_zero _); intro tk' ht')))
  k_with "call builtin:max" => (((with_reducible show wpAny _ _ (call _ [Value.float _ _, Value.float _ _, Value.float _ _]) _ _ _); (rename News _ _ _ _ => N'); (rename Fr _ _ _ _ => F'); refine max_three_ff rfl F' N' ?_; clear N'; intro _ _ _ _ _ _))
  k_with "call builtin:min" => (((with_reducible show wpAny _ _ (call _ [Value.float _ _, Value.float _ _, Value.float _ _]) _ _ _); (rename News _ _ _ _ => N'); (rename Fr _ _ _ _ => F'); refine min_three_ff rfl F' N' ?_; clear N'; intro _ _ _ _ _ _))
  k_fill
  intro hrow
  clear hrow
  intro p loose mean mg mb dp un gd cn cs a ccd cl outer A₀ base h₀ L m s Q E B F X N T hk hdp hun hret
  refine wpAny_call ?_
  k_extra "tb_start"
  k_steps
  all_goals first
    | (exfalso; (have h8 := hs0); (have h9 := ‹(Float64.cmp fs 0 == some .eq) = true›); rw [h8] at h9; cases h9; done)
    | (exfalso; (have h9 := ‹Float64.isNaN (Float64.mul fh 4618441417868443648) = true›); rw [hnan] at h9; cases h9; done)
    | (exfalso; (have h9 := ‹Float64.isInf (Float64.mul fh 4618441417868443648) = true›); rw [hinf] at h9; cases h9; done)
    | exact (six (by assumption) (by assumption) (by assumption) (by assumption) (by assumption) (by assumption)).elim
    | (exfalso; (have h9 := ‹2 ^ 1024 - 2 ^ 970 ≤ (Flt.toInt Float64.truncOf (Float64.mul fh 4618441417868443648)).natAbs›); exact absurd (Nat.lt_of_le_of_lt h9 hbig) (by decide +kernel))
    | (refine hret _ _ _ _ (tup_ret (by assumption) ?_ ?_ ?_ ?_) (by k_asm) (by k_asm); (next => simp only [hsvF, *, if_true, if_false, Int.reduceEq]); all_goals (first | assumption | exact Nat.succ_ne_zero _))
  all_goals trace_state
theorem rgb_call (w : World) (news : List (Addr × Obj)) (fr fg fb : UInt64) (t1 t2 t3 : Tok) (z1 : (t1 : Nat) ≠ 0) (z2 : (t2 : Nat) ≠ 0) (z3 : (t3 : Nat) ≠ 0) (hne : (Float64.cmp (fmin3 fr fg fb) (fmax3 fr fg fb) == some .eq) = false) (hz : Float64.isZero (fmax3 fr fg fb) = false)
    (hz2 : Float64.isZero (Float64.sub (fmax3 fr fg fb) (fmin3 fr fg fb)) = false) :
    Call1 1 w 78 news [.float fr t1, .float fg t2, .float fb t3] (fun v news' => ∃ D r1 r2 r3, v = .ref D ∧ (∀ p ∈ news, p.1 < D) ∧ news' = (D, tup3 (.float (rgbF fr fg fb).1 r1) (.float (rgbF fr fg fb).2.1 r2) (.float (rgbF fr fg fb).2.2 r3)) :: news ∧ (r1 : Nat) ≠ 0 ∧ (r2 : Nat) ≠ 0 ∧ (r3 : Nat) ≠ 0) := by
  have hrow : PySem.Challenge.rw_ty0036_01.most = some 63 := rfl
  unfold Call1
  revert hrow
  k_with_none
  w_top off
  k_with "tb_start" => (k_dflt (first
  | (refine' code_def ?zqk1 ?zqk2 ?zqk3 ?zqk4 ?zqk5 ?zqkA ?zqkF ?zqkK ?zqk6 ?zqk7 ?zqk8 ?zqk9 ?zqkB ?_ ?zqc2 ?zqc3 ?zqc4 ?zqc5; (case zqkA => exact rfl); (case zqkF => exact rfl); (case zqkK => assumption); (case zqk1 => k_asm); (case zqk2 => k_asm); (case zqk3 => k_asm); (case zqk4 => k_asm); (case zqk5 => k_asm); (case zqk6 => k_is); (case zqk7 => k_is); (case zqk8 => ktr_room); (case zqk9 => first | exact BindsTo.of_eq rfl | (refine' kp_binds ?zqkx ?zqke; (case zqkx => k_in); (case zqke => exact fun _ => rfl))); (case zqc5 => decide); (case zqkB => exact locs rfl); (case zqc2 => exact rfl); (case zqc3 => exact rfl); (case zqc4 => exact rfl); k_whole; intro g' L' h' FG' F' N' B' X' T'; (try dsimp only); (try k_lift B'); (try k_fold))
  | (refine' code_defC ?zqk1 ?zqk2 ?zqk3 ?zqk4 ?zqk5 ?zqkA ?zqkF ?zqkK ?zqk6 ?zqk7 ?zqk8 ?zqk9 ?zqkB ?zqkD ?_ ?zqc2 ?zqc3 ?zqc4; (case zqkA => exact rfl); (case zqkF => exact rfl); (case zqkK => assumption); (case zqk1 => k_asm); (case zqk2 => k_asm); (case zqk3 => k_asm); (case zqk4 => k_asm); (case zqk5 => k_asm); (case zqk6 => k_is); (case zqk7 => k_is); (case zqk8 => ktr_room); (case zqk9 => first | exact BindsTo.of_eq rfl | (refine' kp_binds ?zqkx ?zqke; (case zqkx => k_in); (case zqke => exact fun _ => rfl))); (case zqkB => exact rfl); (case zqkD => decide +kernel); (case zqc2 => exact rfl); (case zqc3 => exact rfl); (case zqc4 => exact rfl); k_whole; intro g' L' h' tk' cells' FG' F' N' Y' B' X' T' l1; (try k_lt l1); k_cells Y'; (try simp only [List.cons_append, List.nil_append] at N'); (try dsimp only); (try k_lift B'); (try k_fold))))
  k_with "execs cons" => ((k_here; first | (with_reducible refine gen_toks1 ?_; intro tk' ht') | (with_reducible refine gen_toks2 ?zqhn ?_; (case zqhn => exact Nat.succ_ne_zero _); intro tk' ht')))
  k_with "call builtin:max" => (((with_reducible show wpAny _ _ (call _ [Value.float _ _, Value.float _ _, Value.float _ _]) _ _ _); (rename News _ _ _ _ => N'); (rename Fr _ _ _ _ => F'); refine max_three_ff rfl F' N' ?_; clear N'; intro _ _ _ _ _ _))
  k_with "call builtin:min" => (((with_reducible show wpAny _ _ (call _ [Value.float _ _, Value.float _ _, Value.float _ _]) _ _ _); (rename News _ _ _ _ => N'); (rename Fr _ _ _ _ => F'); refine min_three_ff rfl F' N' ?_; clear N'; intro _ _ _ _ _ _))
  k_fill
  intro hrow
  clear hrow
  intro p loose mean mg mb dp un gd cn cs a ccd cl outer A₀ base h₀ L m s Q E B F X N T hk hdp hun hret
  refine wpAny_call ?_
  k_extra "tb_start"
  k_steps
  all_goals first
    | (exfalso; (have h9 := ‹(Float64.cmp (fmin3 fr fg fb) (fmax3 fr fg fb) == some .eq) = true›); rw [hne] at h9; cases h9; done)
    | (exfalso; (have h9 := ‹Float64.isZero (fmax3 fr fg fb) = true›); rw [hz] at h9; cases h9; done)
    | (exfalso; (have h9 := ‹Float64.isZero (Float64.sub (fmax3 fr fg fb) (fmin3 fr fg fb)) = true›); rw [hz2] at h9; cases h9; done)
    | (refine hret _ _ _ _ (tup_ret (by assumption) ?_ ?_ ?_ ?_) (by k_asm) (by k_asm); (next => simp only [rgbF, *, if_true, if_false, Bool.false_eq_true]); all_goals (first | assumption | exact Nat.succ_ne_zero _ | exact tok3 (by assumption) z1 z2 z3))
  all_goals trace_state
end Mine
end
section
open PySem PySem.W PySem.Spec PySem.Calls PyProof.Rows
set_option maxRecDepth 100000
set_option maxHeartbeats 8000000
namespace Mine







theorem hsvQ_call (w : World) (news : List (Addr × Obj)) (fh fs fv : UInt64) (t1 t2 t3 : Tok) (n share val : Int) (z3 : (t3 : Nat) ≠ 0) (hh : FQ fh (n * 2 ^ 11)) (hs : FQ fs (share * 2 ^ 18)) (hv : FQ fv (val * 2 ^ 17))
    (hn : 0 ≤ n ∧ n < 1024) (h1 : 1 ≤ share ∧ share ≤ 4) (h2 : 1 ≤ val ∧ val ≤ 8) :
    Call1 1 w 85 news [.float fh t1, .float fs t2, .float fv t3] (fun v news' => ∃ D x y z r1 r2 r3, v = .ref D ∧ (∀ p ∈ news, p.1 < D) ∧ news' = (D, tup3 (.float x r1) (.float y r2) (.float z r3)) :: news ∧
      FQ x (val * (1024 - share * (colX n).1) * 2 ^ 7) ∧ FQ y (val * (1024 - share * (colX n).2.1) * 2 ^ 7) ∧ FQ z (val * (1024 - share * (colX n).2.2) * 2 ^ 7) ∧ (r1 : Nat) ≠ 0 ∧ (r2 : Nat) ≠ 0 ∧ (r3 : Nat) ≠ 0) := by
  obtain ⟨q1, e1⟩ := hsv_six hh hn
  obtain ⟨_, q2, q3⟩ := fq_finite q1
  obtain ⟨a1, a2, a3⟩ := hsv_fq hh hs hv hn h1 h2
  refine (hsv_call w news fh fs fv t1 t2 t3 z3 (by rw [fq_cmp hs fq_lit0, cmp_eqT, decide_eq_false (by omega)]) q2 q3 (by rw [e1]; omega)).weak (fun _ h => h) fun v n' hr => ?_
  obtain ⟨D, r1, r2, r3, e, l, rfl, n1, n2, n3⟩ := hr
  exact ⟨_, ⟨D, _, _, _, r1, r2, r3, e, l, rfl, a1, a2, a3, n1, n2, n3⟩, fun _ h => h⟩
theorem rgbQ_call (w : World) (news : List (Addr × Obj)) (fr fg fb : UInt64) (t1 t2 t3 : Tok) (n share val : Int) (z1 : (t1 : Nat) ≠ 0) (z2 : (t2 : Nat) ≠ 0) (z3 : (t3 : Nat) ≠ 0) (hr : FQ fr (val * (1024 - share * (colX n).1) * 2 ^ 7)) (hg : FQ fg (val * (1024 - share * (colX n).2.1) * 2 ^ 7)) (hb : FQ fb (val * (1024 - share * (colX n).2.2) * 2 ^ 7))
    (hn : 0 ≤ n ∧ n < 1024) (h1 : 1 ≤ share ∧ share ≤ 4) (h2 : 1 ≤ val ∧ val ≤ 8) :
    Call1 1 w 78 news [.float fr t1, .float fg t2, .float fb t3] (fun v news' => ∃ D x y z r1 r2 r3, v = .ref D ∧ (∀ p ∈ news, p.1 < D) ∧ news' = (D, tup3 (.float x r1) (.float y r2) (.float z r3)) :: news ∧
      FQ x (n % 512 * 2 ^ 11) ∧ FQ y (share * 2 ^ 18) ∧ FQ z (val * 2 ^ 17) ∧ (r1 : Nat) ≠ 0 ∧ (r2 : Nat) ≠ 0 ∧ (r3 : Nat) ≠ 0) := by
  obtain ⟨a1, a2, a3, a4, a5, a6⟩ := rgb_fq hr hg hb hn.1 h1 h2
  refine (rgb_call w news fr fg fb t1 t2 t3 z1 z2 z3 a4 a5 a6).weak (fun _ h => h) fun v n' hr => ?_
  obtain ⟨D, r1, r2, r3, e, l, rfl, n1, n2, n3⟩ := hr
  exact ⟨_, ⟨D, _, _, _, r1, r2, r3, e, l, rfl, a1, a2, a3, n1, n2, n3⟩, fun _ h => h⟩
theorem fall_call (w : World) (news : List (Addr × Obj)) (place corner : Int) (t1 t2 : Tok) :
    Call1 1 w 120 news [.int place t1, .int corner t2] (fun v news' => (∃ t, v = .int (fall place corner) t) ∧ news' = news) := by
  have hrow : PySem.Challenge.rw_ty0036_01.most = some 63 := rfl
  unfold Call1
  revert hrow
  k_with_none
  w_top off
  k_with "tb_start" => (k_dflt (first
  | (refine' code_def ?zqk1 ?zqk2 ?zqk3 ?zqk4 ?zqk5 ?zqkA ?zqkF ?zqkK ?zqk6 ?zqk7 ?zqk8 ?zqk9 ?zqkB ?_ ?zqc2 ?zqc3 ?zqc4 ?zqc5; (case zqkA => exact rfl); (case zqkF => exact rfl); (case zqkK => first | assumption | exact rfl); (case zqk1 => k_asm); (case zqk2 => k_asm); (case zqk3 => k_asm); (case zqk4 => k_asm); (case zqk5 => k_asm); (case zqk6 => k_is); (case zqk7 => k_is); (case zqk8 => ktr_room); (case zqk9 => first | exact BindsTo.of_eq rfl | (refine' kp_binds ?zqkx ?zqke; (case zqkx => k_in); (case zqke => exact fun _ => rfl))); (case zqc5 => decide); (case zqkB => exact locs rfl); (case zqc2 => exact rfl); (case zqc3 => exact rfl); (case zqc4 => exact rfl); k_whole; intro g' L' h' FG' F' N' B' X' T'; (try dsimp only); (try k_lift B'); (try k_fold))
  | (refine' code_defC ?zqk1 ?zqk2 ?zqk3 ?zqk4 ?zqk5 ?zqkA ?zqkF ?zqkK ?zqk6 ?zqk7 ?zqk8 ?zqk9 ?zqkB ?zqkD ?_ ?zqc2 ?zqc3 ?zqc4; (case zqkA => exact rfl); (case zqkF => exact rfl); (case zqkK => first | assumption | exact rfl); (case zqk1 => k_asm); (case zqk2 => k_asm); (case zqk3 => k_asm); (case zqk4 => k_asm); (case zqk5 => k_asm); (case zqk6 => k_is); (case zqk7 => k_is); (case zqk8 => ktr_room); (case zqk9 => first | exact BindsTo.of_eq rfl | (refine' kp_binds ?zqkx ?zqke; (case zqkx => k_in); (case zqke => exact fun _ => rfl))); (case zqkB => exact rfl); (case zqkD => decide +kernel); (case zqc2 => exact rfl); (case zqc3 => exact rfl); (case zqc4 => exact rfl); k_whole; intro g' L' h' tk' cells' FG' F' N' Y' B' X' T' l1; (try k_lt l1); k_cells Y'; (try simp only [List.cons_append, List.nil_append] at N'); (try dsimp only); (try k_lift B'); (try k_fold))))
  k_with "call ref" => ((k_here; refine wpAny_call ?_; k_extra "tb_start"))
  k_fill
  intro hrow
  clear hrow
  intro p loose mean mg mb dp un gd cn cs a ccd cl outer A₀ base h₀ L m s Q E B F X N T hk hdp hun hret
  refine wpAny_call ?_
  k_extra "tb_start"
  k_steps
  all_goals (refine hret _ _ _ _ ⟨ktn_int ?_, rfl⟩ (by k_asm) (by k_asm); rw [Int.fmod_eq_emod_of_nonneg _ (by decide)]; unfold fall; omega)
end Mine
end
section
open PySem PySem.W PySem.Spec PySem.Calls PyProof.Rows
set_option maxRecDepth 100000
set_option maxHeartbeats 8000000
namespace Mine
theorem SrcAt.same {prog : Program} {w : World} {A : Around} {h₀ : Heap} {L : Addr} {m : Str → Option Value} {news : List (Addr × Obj)} {n : Nat} {P : Nat → Value → Prop} {s₁ s₂ : Shared} {it : Value} (S : SrcAt prog w A h₀ L m news n P s₁ it s₂) : ∃ h, s₂ = { s₁ with heap := h } := by
  obtain ⟨I, fp, St, _, _, _, _, _, _, _, _, _, _, _, e⟩ := S.ex
  exact e

/-- what stands behind the telling of the far half, on whichever way it is told -/
def CutFar (n k : Int) (ts : Tok) (m : Str → Option Value) : Prop :=
  ∃ b : Bool, b = decide (256 ≤ n % 512) ∧ m (S' "far") = some (.bool b) ∧ m (S' "symbol") = some (.int k ts)
section
variable {prog : Program} {w : World} {A : Around} {E : Value → Shared → Prop} {s : Shared} {env : Env} {h₀ : Heap} {L : Addr} {m : Str → Option Value} {news all : List (Addr × Obj)} {Q : Flow → Shared → Prop} {ts : Tok} {k : Int}
theorem cut_far {st : Stmt} {n : Int} {x : UInt64} (hn : FQ x (n % 512 * 2 ^ 11)) (F : Fr h₀ L s.heap m) (N : News h₀ L s.heap news) (h1 : m (S' "symbol") = some (.int k ts))
    (h : wpAny (model prog w) A (exec st env) (CutEnd h₀ L news s (CutFar n k ts)) E s)
    (c : ∀ b h' tk' m', b = decide (256 ≤ n % 512) → m' (S' "far") = some (.bool b) → m' (S' "symbol") = some (.int k ts) → Fr h₀ L h' m' → News h₀ L h' news → Q .next { s with heap := h', toks := tk' }) :
    wpAny (model prog w) A (exec st env) Q E s := by
  have _ := hn
  have _ := F
  have _ := N
  have _ := h1
  refine wpAny_mono h (fun f s' hq' => ?_) fun _ _ e => e
  obtain ⟨rfl, h', tk', m', rfl, F', N', b, a1, a2, a3⟩ := hq'
  exact c b h' tk' m' a1 a2 a3 F' N'
theorem CutFar.end_ {n : Int} {h' : Heap} {tk : Nat} {b : Bool} (F : Fr h₀ L h' m) (N : News h₀ L h' all) (hs : ∀ p ∈ news, p ∈ all) (h1 : m (S' "far") = some (.bool b)) (h2 : m (S' "symbol") = some (.int k ts)) (hb : b = decide (256 ≤ n % 512)) :
    CutEnd h₀ L news s (CutFar n k ts) .next { s with heap := h', toks := tk } := ⟨rfl, h', tk, m, rfl, F, fun p hp => N p (hs p hp), b, hb, h1, h2⟩
end
































theorem half_call (w : World) (news : List (Addr × Obj)) (spot share value cut : Int) (t1 t2 t3 t4 : Tok) (h1 : 0 ≤ spot ∧ spot < 512) (h2 : 1 ≤ share ∧ share ≤ 4) (h3 : 1 ≤ value ∧ value ≤ 4) (h4 : 0 ≤ cut ∧ cut < 255) :
    Call1 3 w 125 news [.int spot t1, .int share t2, .int value t3, .int cut t4] (fun v news' => (∃ t, v = .int ((spot - cut) / 256 % 2) t) ∧ news' = news) := by
  have hpl : 0 ≤ (spot - cut).fmod 512 ∧ (spot - cut).fmod 512 < 512 := by rw [fmod_n]; omega
  have hrow : PySem.Challenge.rw_ty0036_01.most = some 63 := rfl
  unfold Call1
  revert hrow
  k_with_none
  w_top off
  k_with "tb_start" => (k_dflt (first
  | (refine' code_def ?zqk1 ?zqk2 ?zqk3 ?zqk4 ?zqk5 ?zqkA ?zqkF ?zqkK ?zqk6 ?zqk7 ?zqk8 ?zqk9 ?zqkB ?_ ?zqc2 ?zqc3 ?zqc4 ?zqc5; (case zqkA => exact rfl); (case zqkF => exact rfl); (case zqkK => first | assumption | exact rfl); (case zqk1 => k_asm); (case zqk2 => k_asm); (case zqk3 => k_asm); (case zqk4 => k_asm); (case zqk5 => k_asm); (case zqk6 => k_is); (case zqk7 => k_is); (case zqk8 => ktr_room); (case zqk9 => first | exact BindsTo.of_eq rfl | (refine' kp_binds ?zqkx ?zqke; (case zqkx => k_in); (case zqke => exact fun _ => rfl))); (case zqc5 => decide); (case zqkB => exact locs rfl); (case zqc2 => exact rfl); (case zqc3 => exact rfl); (case zqc4 => exact rfl); k_whole; intro g' L' h' FG' F' N' B' X' T'; (try dsimp only); (try k_lift B'); (try k_fold))
  | (refine' code_defC ?zqk1 ?zqk2 ?zqk3 ?zqk4 ?zqk5 ?zqkA ?zqkF ?zqkK ?zqk6 ?zqk7 ?zqk8 ?zqk9 ?zqkB ?zqkD ?_ ?zqc2 ?zqc3 ?zqc4; (case zqkA => exact rfl); (case zqkF => exact rfl); (case zqkK => first | assumption | exact rfl); (case zqk1 => k_asm); (case zqk2 => k_asm); (case zqk3 => k_asm); (case zqk4 => k_asm); (case zqk5 => k_asm); (case zqk6 => k_is); (case zqk7 => k_is); (case zqk8 => ktr_room); (case zqk9 => first | exact BindsTo.of_eq rfl | (refine' kp_binds ?zqkx ?zqke; (case zqkx => k_in); (case zqke => exact fun _ => rfl))); (case zqkB => exact rfl); (case zqkD => decide +kernel); (case zqc2 => exact rfl); (case zqc3 => exact rfl); (case zqc4 => exact rfl); k_whole; intro g' L' h' tk' cells' FG' F' N' Y' B' X' T' l1; (try k_lt l1); k_cells Y'; (try simp only [List.cons_append, List.nil_append] at N'); (try dsimp only); (try k_lift B'); (try k_fold))))
  k_with "call ref" => ((k_here; refine wpAny_call ?_; k_extra "tb_start"))
  k_with "execs cons" => ((k_here; first | (with_reducible refine gen_toks1 ?_; intro tk' ht') | (with_reducible refine gen_toks2 ?zqhn ?_; (case zqhn => exact Nat.succ_ne_zero _); intro tk' ht')))
  k_with "call ref" => ((k_here; (with_reducible show wpAny _ _ (call (Value.ref 85) [Value.float _ _, Value.float _ _, Value.float _ _]) _ _ _); k_dflt (refine' Call1.use (hsvQ_call _ _ _ _ _ _ _ _ _ _ _ ?zqz3 ?zqhh ?zqhs ?zqhv ?zqhn ?zqh1 ?zqh2) ?zqk1 ?zqk2 ?zqk3 ?zqk4 ?zqk5 ?zqkK ?zqkd ?zqku ?_; (case zqk1 => k_asm); (case zqk2 => k_asm); (case zqk3 => k_asm); (case zqk4 => k_asm); (case zqk5 => k_asm); (case zqkK => first | exact rfl | assumption); (case zqz3 => first | assumption | exact Nat.succ_ne_zero _); (case zqhh => (refine fq_d512 ?_; omega)); (case zqhs => (refine fq_d4s ?_; omega)); (case zqhv => (refine fq_d4v ?_; omega)); (case zqhn => omega); (case zqh1 => omega); (case zqh2 => omega); (case zqkd => ktr_room); (case zqku => ktr_units); intro v9 news9 h9 tk9 hR9 F9 N9; obtain ⟨D9, x9, y9, z9, r19, r29, r39, e9, l9, e9', qx9, qy9, qz9, nx9, ny9, nz9⟩ := hR9; subst e9; subst e9'; (try dsimp only); (try k_fold))))
  k_with "call ref" => ((k_here; (with_reducible show wpAny _ _ (call (Value.ref 78) [Value.float _ _, Value.float _ _, Value.float _ _]) _ _ _); k_dflt (refine' Call1.use (rgbQ_call _ _ _ _ _ _ _ _ _ _ _ ?zqz1 ?zqz2 ?zqz3 ?zqhh ?zqhs ?zqhv ?zqhn ?zqh1 ?zqh2) ?zqk1 ?zqk2 ?zqk3 ?zqk4 ?zqk5 ?zqkK ?zqkd ?zqku ?_; (case zqk1 => k_asm); (case zqk2 => k_asm); (case zqk3 => k_asm); (case zqk4 => k_asm); (case zqk5 => k_asm); (case zqkK => first | exact rfl | assumption); (case zqz1 => first | assumption | exact Nat.succ_ne_zero _); (case zqz2 => first | assumption | exact Nat.succ_ne_zero _); (case zqz3 => first | assumption | exact Nat.succ_ne_zero _); (case zqhh => assumption); (case zqhs => assumption); (case zqhv => assumption); (case zqhn => omega); (case zqh1 => omega); (case zqh2 => omega); (case zqkd => ktr_room); (case zqku => ktr_units); intro v9 news9 h9 tk9 hR9 F9 N9; obtain ⟨D9, x9, y9, z9, r19, r29, r39, e9, l9, e9', qx9, qy9, qz9, nx9, ny9, nz9⟩ := hR9; subst e9; subst e9'; (try dsimp only); (try k_fold))))
  k_with "call ref" => ((k_here; (with_reducible show wpAny _ _ (call (Value.ref 120) [Value.int _ _, Value.int _ _]) _ _ _); k_dflt (refine' Call1.use (fall_call _ _ _ _ _ _) ?zqk1 ?zqk2 ?zqk3 ?zqk4 ?zqk5 ?zqkK ?zqkd ?zqku ?_; (case zqk1 => k_asm); (case zqk2 => k_asm); (case zqk3 => k_asm); (case zqk4 => k_asm); (case zqk5 => k_asm); (case zqkK => first | exact rfl | assumption); (case zqkd => ktr_room); (case zqku => ktr_units); intro v9 news9 h9 tk9 hR9 F9 N9; obtain ⟨⟨t9, e9⟩, e9'⟩ := hR9; subst e9; subst e9'; (try dsimp only); (try k_fold))))
  k_with "call type:int" => ((k_here; k_dflt (refine' int_sym rfl ?zqhx ?zqh0 ?_; (case zqhx => assumption); (case zqh0 => omega))))
  k_with "compareOp NotEq ref ref" => ((k_here; (with_reducible show wpAny _ _ (compareOp CmpOp.NotEq (Value.ref _) (Value.ref _)) _ _ _); k_dflt (refine' ne_lists ?zql ?zqb ?zqu ?zqe ?_; (case zql => exact ⟨_, News.get (by k_asm) (by k_mem), rfl, _, rfl⟩); (case zqb => exact ⟨_, News.get (by k_asm) (by k_mem), rfl, _, rfl⟩); (case zqu => ktr_units); (case zqe => first | exact EqAll.nil | (refine' far_bools ?zqhB fmod_n; (case zqhB => with_reducible_and_instances assumption)) | exact due_eq (by with_reducible_and_instances assumption) (by with_reducible_and_instances assumption) (by with_reducible_and_instances assumption) (by omega) (by omega) (by omega) fmod_n))))
  k_with "compareOp NotEq ref ref" => ((k_here; (with_reducible show wpAny _ _ (compareOp CmpOp.NotEq (Value.ref _) (Value.ref _)) _ _ _); k_dflt (refine' ne_tuples ?zql ?zqb ?zqu ?zqe ?_; (case zql => exact ⟨_, News.get (by k_asm) (by k_mem), rfl, _, rfl⟩); (case zqb => exact ⟨_, News.get (by k_asm) (by k_mem), rfl, _, rfl⟩); (case zqu => ktr_units); (case zqe => refine' told_eq ?zqnb ?zqhx ?zqhy ?zqhz ?zqn1 ?zqn2 ?zqn3 ?zqm1 ?zqm2 ?zqm3 (by omega) (by omega) fmod_n; (case zqhx => assumption); (case zqhy => assumption); (case zqhz => assumption); (case zqnb => exact NoneBooked.keeps (booked_of (by assumption) (Top.nolimit (by assumption)) (by k_is)) (Fr.keep (by k_asm))); (case zqn1 => assumption); (case zqn2 => assumption); (case zqn3 => assumption); (case zqm1 => first | assumption | exact Nat.succ_ne_zero _); (case zqm2 => first | assumption | exact Nat.succ_ne_zero _); (case zqm3 => first | assumption | exact Nat.succ_ne_zero _)))))
  k_with "exec Assign cons ListComp" => ((k_here; k_dflt (refine' comp_a ?zqe1 ?zqe2 ?zqe3 ?zqe4 ?zqe5 ?zqe6 ?zqe7 ?zqe8 ?zqe9 ?_; (case zqe1 => exact rfl); (case zqe2 => with_unfolding_all rfl); (case zqe3 => with_unfolding_all rfl); (case zqe4 => decide); (case zqe5 => rfl); (case zqe6 => decide); (case zqe7 => intro _; rfl); (case zqe8 => rfl); (case zqe9 => rfl))))
  k_with "eval ListComp" => ((k_here; k_dflt (refine' comp_e ?zqe0 ?zqe1 ?zqe2 ?zqe3 ?zqe4 ?zqe5 ?_; (case zqe0 => exact rfl); (case zqe1 => with_unfolding_all rfl); (case zqe2 => decide); (case zqe3 => rfl); (case zqe4 => decide); (case zqe5 => intro _; rfl))))
  k_with "TurnEnd" => ((k_dflt (refine' TurnEnd.intro ?zqF ?zqN ?zqs ?zqj; (case zqF => k_asm); (case zqN => k_asm); (case zqs => (intro p9 hp9; k_ownIn)); (case zqj => first | exact ⟨_, rfl⟩ | exact rfl | trivial))))
  k_with "pyIter ref" => ((k_here; k_dflt (refine' src_list rfl ?zqF ?zqN ?zqm ?_; (case zqF => k_asm); (case zqN => k_asm); (case zqm => k_mem); intro it9 s9 S9; obtain ⟨g9, e9⟩ := SrcAt.same S9; subst e9; refine' CompOK.none IsBool rfl rfl S9 ?zqhz ?zqhP ?_ ?_; (case zqhz => show (3 : Nat) ≤ sizeLine; decide); (case zqhP => exact bools3); intro v9 I9 oI9 C9 oC9 D9 m9 h9 tk9 E9 hG9 hC9 hm9 F9 N9; obtain ⟨b9, e9⟩ := hG9; subst e9; (try k_fold); rotate_left; intro D9 hlt9; intro h9 tk9 F9 N9; (try k_fold); rotate_right)))
  k_with "loadName" => ((k_here; k_dflt (refine' ldn ?zqk1 ?zqk2 ?_; (case zqk1 => k_asm); (case zqk2 => (repeat (first | assumption | exact if_pos rfl | refine' (if_neg (by decide)).trans ?_))))))
  k_with "eval Name" => ((k_here; name_kind "local"; k_dflt (refine' ld ?zqk1 ?zqk2 ?_; (case zqk1 => k_asm); (case zqk2 => (repeat (first | assumption | exact if_pos rfl | refine' (if_neg (by decide)).trans ?_))); k_whole)))
  k_with "exec Assign" => ((k_here; (with_reducible show wpAny _ _ (exec (Stmt.Assign [Expr.Name (Str.ofString "far") _] _ _) _) _ _ _); (fail_if_success (with_reducible show wpAny _ _ _ (CutEnd _ _ _ _ _) _ _)); k_dflt (refine' cut_far ?zqq ?zqF ?zqN ?zqa ?_ ?_; (case zqq => with_reducible_and_instances assumption); (case zqF => k_asm); (case zqN => k_asm); (case zqa => (repeat (first | assumption | exact if_pos rfl | refine' (if_neg (by decide)).trans ?_))); rotate_left; (intro b9 h9 tk9 m9 hb9 la9 lb9 F9 N9; (try k_fold)); rotate_right; (try k_fold))))
  k_with "CutEnd" => ((k_dflt (refine' CutFar.end_ ?zqF ?zqN ?zqs ?zqa ?zqb ?zqd; (case zqF => k_asm); (case zqN => k_asm); (case zqs => (intro p9 hp9; (repeat (first | exact hp9 | apply List.Mem.tail)))); (case zqa => (repeat (first | assumption | exact if_pos rfl | refine' (if_neg (by decide)).trans ?_))); (case zqb => (repeat (first | assumption | exact if_pos rfl | refine' (if_neg (by decide)).trans ?_))); (case zqd => first | exact far_b1 (by with_reducible_and_instances assumption) (by with_reducible_and_instances assumption) (by with_reducible_and_instances assumption) (by omega) (by omega) (by omega) (by with_reducible_and_instances assumption) | exact far_b2 (by with_reducible_and_instances assumption) (by with_reducible_and_instances assumption) (by with_reducible_and_instances assumption) (by omega) (by omega) (by omega) (by with_reducible_and_instances assumption) (by with_reducible_and_instances assumption) | exact far_b3 (by with_reducible_and_instances assumption) (by with_reducible_and_instances assumption) (by with_reducible_and_instances assumption) (by omega) (by omega) (by omega) (by with_reducible_and_instances assumption) (by with_reducible_and_instances assumption)))))
  k_fill
  intro hrow
  clear hrow
  intro p loose mean mg mb dp un gd cn cs a ccd cl outer A₀ base h₀ L m s Q E B F X N T hk hdp hun hret
  refine wpAny_call ?_
  k_extra "tb_start"
  (k_with "pyIter ref" => (refine' src_tuple rfl ?F ?N ?m ?_; (case F => k_asm); (case N => k_asm); (case m => k_mem); intro it9 s9 S9; obtain ⟨g9, e9⟩ := SrcAt.same S9; subst e9; refine' CompOK.ints [0, 512, 1024] (fun c => value * (1024 - share * fall ((spot - cut).fmod 512) c)) rfl rfl S9 rfl (by decide) ?hP ?_ ?_; (case hP => exact (ints_at (.cons _ _ (.cons _ _ (.cons _ _ .nil)))).2); intro y9 t9 ys9 I9 oI9 C9 oC9 D9 m9 h9 tk9 E9 hy9 hC9 hm9 F9 N9; (try k_fold); rotate_left; intro D9 ys9 hi9 hlt9; obtain ⟨u1, u2, u3, rfl⟩ := ints3 hi9; intro h9 tk9 F9 N9; (try dsimp only at N9); (try k_fold); rotate_right))
  k_steps
  all_goals (try first | exact Str.ofString "" | exact (0 : Nat) | exact Value.none)
  all_goals (refine hret _ _ _ _ ⟨ktn_int ?_, rfl⟩ (by k_asm) ?_; rotate_left; (intro p9 hp9; refine (show News _ _ _ _ by k_asm) p9 ?_; k_ownIn); first | exact half_1 (by with_reducible_and_instances assumption) (by with_reducible_and_instances assumption) | exact half_0 (by with_reducible_and_instances assumption) (by with_reducible_and_instances assumption))
end Mine
end
section
open PySem PySem.W PySem.Spec PySem.Calls PyProof.Rows
set_option maxRecDepth 100000
set_option maxHeartbeats 8000000
namespace Mine









/-- the word of three bits -/
def wrd (x y z : Int) : Str := Txt.join (Str.ofString "") [Str.ofString (if x = 1 then "A" else "a"), Str.ofString (if y = 1 then "B" else "b"), Str.ofString (if z = 1 then "C" else "c")]
theorem wrd_eq {x y z : Int} (hx : x = 0 ∨ x = 1) (hy : y = 0 ∨ y = 1) (hz : z = 0 ∨ z = 1) : Txt.join (Str.ofString "") [Txt.item (Str.ofString "aA") x, Txt.item (Str.ofString "bB") y, Txt.item (Str.ofString "cC") z] = wrd x y z := by
  rcases hx with rfl | rfl <;> rcases hy with rfl | rfl <;> rcases hz with rfl | rfl <;> decide
theorem i01a {i : Int} (h : i = 0 ∨ i = 1) : fitsSsize i = true := by rcases h with rfl | rfl <;> decide
theorem i01b {i n : Int} (h : i = 0 ∨ i = 1) (hn : n = 2) : -n ≤ i := by subst hn; rcases h with rfl | rfl <;> decide
theorem i01c {i n : Int} (h : i = 0 ∨ i = 1) (hn : n = 2) : i < n := by subst hn; rcases h with rfl | rfl <;> decide

theorem word_call0 (w : World) (news : List (Addr × Obj)) (x y z : Int) (t1 t2 t3 : Tok) (l : Addr) (n : Nat) (hx : x = 0 ∨ x = 1) (hy : y = 0 ∨ y = 1) (hz : z = 0 ∨ z = 1) :
    Call1 2 w 113 ((l, listOf #[.int x t1, .int y t2, .int z t3] n) :: news) [.ref l] (fun v news' => (∃ t, v = .str (wrd x y z) t) ∧ news' = (l, listOf #[.int x t1, .int y t2, .int z t3] n) :: news) := by
  all_goals (
    have hrow : PySem.Challenge.rw_ty0036_01.most = some 63 := rfl
    unfold Call1
    revert hrow
    k_with_none
    w_top off
    k_with "tb_start" => (k_dflt (first
  | (refine' code_def ?zqk1 ?zqk2 ?zqk3 ?zqk4 ?zqk5 ?zqkA ?zqkF ?zqkK ?zqk6 ?zqk7 ?zqk8 ?zqk9 ?zqkB ?_ ?zqc2 ?zqc3 ?zqc4 ?zqc5; (case zqkA => exact rfl); (case zqkF => exact rfl); (case zqkK => first | assumption | exact rfl); (case zqk1 => k_asm); (case zqk2 => k_asm); (case zqk3 => k_asm); (case zqk4 => k_asm); (case zqk5 => k_asm); (case zqk6 => k_is); (case zqk7 => k_is); (case zqk8 => ktr_room); (case zqk9 => first | exact BindsTo.of_eq rfl | (refine' kp_binds ?zqkx ?zqke; (case zqkx => k_in); (case zqke => exact fun _ => rfl))); (case zqc5 => decide); (case zqkB => exact locs rfl); (case zqc2 => exact rfl); (case zqc3 => exact rfl); (case zqc4 => exact rfl); k_whole; intro g' L' h' FG' F' N' B' X' T'; (try dsimp only); (try k_lift B'); (try k_fold))
  | (refine' code_defC ?zqk1 ?zqk2 ?zqk3 ?zqk4 ?zqk5 ?zqkA ?zqkF ?zqkK ?zqk6 ?zqk7 ?zqk8 ?zqk9 ?zqkB ?zqkD ?_ ?zqc2 ?zqc3 ?zqc4; (case zqkA => exact rfl); (case zqkF => exact rfl); (case zqkK => first | assumption | exact rfl); (case zqk1 => k_asm); (case zqk2 => k_asm); (case zqk3 => k_asm); (case zqk4 => k_asm); (case zqk5 => k_asm); (case zqk6 => k_is); (case zqk7 => k_is); (case zqk8 => ktr_room); (case zqk9 => first | exact BindsTo.of_eq rfl | (refine' kp_binds ?zqkx ?zqke; (case zqkx => k_in); (case zqke => exact fun _ => rfl))); (case zqkB => exact rfl); (case zqkD => decide +kernel); (case zqc2 => exact rfl); (case zqc3 => exact rfl); (case zqc4 => exact rfl); k_whole; intro g' L' h' tk' cells' FG' F' N' Y' B' X' T' l1; (try k_lt l1); k_cells Y'; (try simp only [List.cons_append, List.nil_append] at N'); (try dsimp only); (try k_lift B'); (try k_fold))))
    k_with "call ref" => ((k_here; refine wpAny_call ?_; k_extra "tb_start"))
    k_with "subscriptTail" => ((k_here; (with_reducible show wpAny _ _ (subscriptTail _ _ (Value.str _ _) (Value.int _ _)) _ _ _); k_dflt (refine' item_str ?zqhr ?zqh1 ?zqh2 ?_; (case zqhr => exact i01a (by assumption)); (case zqh1 => exact i01b (by assumption) (by decide)); (case zqh2 => exact i01c (by assumption) (by decide)); intro _)))
    k_fill
    intro hrow
    clear hrow
    intro p loose mean mg mb dp un gd cn cs a ccd cl outer A₀ base h₀ L m s Q E B F X N T hk hdp hun hret
    refine wpAny_call ?_
    k_extra "tb_start"
    k_steps
    refine hret _ _ _ _ ⟨⟨_, congrArg (fun q => Value.str q _) (wrd_eq hx hy hz)⟩, rfl⟩ (by k_asm) ?_; (intro p9 hp9; refine (show News _ _ _ _ by k_asm) p9 ?_; k_ownIn))
theorem word_call (w : World) (news : List (Addr × Obj)) (x y z : Int) (t1 t2 t3 : Tok) (l : Addr) (n : Nat) (hl : (l, listOf #[.int x t1, .int y t2, .int z t3] n) ∈ news) (hx : x = 0 ∨ x = 1) (hy : y = 0 ∨ y = 1) (hz : z = 0 ∨ z = 1) :
    Call1 2 w 113 news [.ref l] (fun v news' => (∃ t, v = .str (wrd x y z) t) ∧ news' = news) :=
  (word_call0 w news x y z t1 t2 t3 l n hx hy hz).weak (List.forall_mem_cons.mpr ⟨hl, fun _ h => h⟩) (fun _ _ hr => ⟨news, ⟨hr.1, rfl⟩, fun _ hp => hr.2 ▸ .tail _ hp⟩)
end Mine
end
section
open PySem PySem.W PySem.Spec PySem.Calls PyProof.Rows
set_option maxRecDepth 100000
set_option maxHeartbeats 8000000
namespace Mine
/-- a call whose caller's ground is known to hold something -/
def CallH (r : Nat) (w : World) (f : Addr) (H : Heap → Prop) (news : List (Addr × Obj)) (vs : List Value) (R : (Value → List (Addr × Obj) → Prop)) : Prop :=
  ∀ (p : Program) (loose : List Str) (mean : ExcName → Option Value) (mg mb : Str → Option Value)
    (dp un : Nat) (gd : Option (List Code)) (cn : Str) (cs : Scope) (a : Addr) (ccd : Value) (cl : List (Str × Addr)) (outer : List Env) (A₀ : Around) (base h₀ : Heap) (L : Addr) (m : Str → Option Value) (s : Shared) (Q E : Value → Shared → Prop),
    Below A₀ base outer h₀ → Fr h₀ L s.heap m → (hd1.heap_1 w.params).In h₀ → News h₀ L s.heap news → Top p loose mean mg mb h₀ → cs.kind = .function →
    dp + r < recursionLimit → un + 8 * r < cLine → H h₀ →
    (∀ (v : Value) (news' : List (Addr × Obj)) (h' : Heap) (tk' : Nat), R v news' → Fr h₀ L h' m → News h₀ L h' news' → Q v { s with heap := h', toks := tk' }) →
    wpAny (model P1 w) (ktrTop dp un gd cn cs L a ccd cl outer) (call (.ref f) vs) Q E s
theorem CallH.use {r : Nat} {w : World} {f : Addr} {H : Heap → Prop} {news : List (Addr × Obj)} {vs : List Value} {R : Value → List (Addr × Obj) → Prop} (C : CallH r w f H news vs R)
    {p : Program} {loose : List Str} {mean : ExcName → Option Value} {mg mb : Str → Option Value}
    {dp un : Nat} {gd : Option (List Code)} {cn : Str} {cs : Scope} {a : Addr} {ccd : Value} {cl : List (Str × Addr)} {outer : List Env} {A₀ : Around} {base h₀ : Heap} {L : Addr} {m : Str → Option Value} {s : Shared} {Q E : Value → Shared → Prop}
    (B : Below A₀ base outer h₀) (F : Fr h₀ L s.heap m) (X : (hd1.heap_1 w.params).In h₀) (N : News h₀ L s.heap news) (T : Top p loose mean mg mb h₀) (hk : cs.kind = .function)
    (hd : dp + r < recursionLimit) (hu : un + 8 * r < cLine) (hH : H h₀)
    (ret : ∀ (v : Value) (news' : List (Addr × Obj)) (h' : Heap) (tk' : Nat), R v news' → Fr h₀ L h' m → News h₀ L h' news' → Q v { s with heap := h', toks := tk' }) :
    wpAny (model P1 w) (ktrTop dp un gd cn cs L a ccd cl outer) (call (.ref f) vs) Q E s :=
  C _ _ _ _ _ _ _ _ _ _ _ _ _ _ _ _ _ _ _ _ _ _ B F X N T hk hd hu hH ret







theorem drw_len (ns : List Int) (fixed : List Int) (hf : fixed.length = 6) (k : Int) (hk : k = ((ns.take 8).length : Int)) : 6 ≤ (ns.take 8 ++ fixed.drop k.toNat).length ∧ (ns.take 8 ++ fixed.drop k.toNat).length ≤ 8 := by
  subst hk
  rw [List.length_append, List.length_drop, List.length_take, hf]
  omega
theorem draws_call (w : World) (news : List (Addr × Obj)) (l : Addr) (vs : List Value) (ns : List Int) (hi : IntsAre vs ns) (hn : ns.length ≤ 63) :
    CallH 2 w 106 (fun h => h.IsList l vs.toArray) news [.ref l] (fun v news' => ∃ D ws ds, v = .ref D ∧ AllLt D news ∧ IntsAre ws ds ∧ (6 ≤ ds.length ∧ ds.length ≤ 8) ∧ news' = (D, listOf ws.toArray 0) :: news) := by
  have hrow : PySem.Challenge.rw_ty0036_01.most = some 63 := rfl
  unfold CallH
  revert hrow
  k_with_none
  w_top off
  k_with "tb_start" => (k_dflt (first
  | (refine' code_def ?zqk1 ?zqk2 ?zqk3 ?zqk4 ?zqk5 ?zqkA ?zqkF ?zqkK ?zqk6 ?zqk7 ?zqk8 ?zqk9 ?zqkB ?_ ?zqc2 ?zqc3 ?zqc4 ?zqc5; (case zqkA => exact rfl); (case zqkF => exact rfl); (case zqkK => first | assumption | exact rfl); (case zqk1 => k_asm); (case zqk2 => k_asm); (case zqk3 => k_asm); (case zqk4 => k_asm); (case zqk5 => k_asm); (case zqk6 => k_is); (case zqk7 => k_is); (case zqk8 => ktr_room); (case zqk9 => first | exact BindsTo.of_eq rfl | (refine' kp_binds ?zqkx ?zqke; (case zqkx => k_in); (case zqke => exact fun _ => rfl))); (case zqc5 => decide); (case zqkB => exact locs rfl); (case zqc2 => exact rfl); (case zqc3 => exact rfl); (case zqc4 => exact rfl); k_whole; intro g' L' h' FG' F' N' B' X' T'; (try dsimp only); (try k_lift B'); (try k_fold))
  | (refine' code_defC ?zqk1 ?zqk2 ?zqk3 ?zqk4 ?zqk5 ?zqkA ?zqkF ?zqkK ?zqk6 ?zqk7 ?zqk8 ?zqk9 ?zqkB ?zqkD ?_ ?zqc2 ?zqc3 ?zqc4; (case zqkA => exact rfl); (case zqkF => exact rfl); (case zqkK => first | assumption | exact rfl); (case zqk1 => k_asm); (case zqk2 => k_asm); (case zqk3 => k_asm); (case zqk4 => k_asm); (case zqk5 => k_asm); (case zqk6 => k_is); (case zqk7 => k_is); (case zqk8 => ktr_room); (case zqk9 => first | exact BindsTo.of_eq rfl | (refine' kp_binds ?zqkx ?zqke; (case zqkx => k_in); (case zqke => exact fun _ => rfl))); (case zqkB => exact rfl); (case zqkD => decide +kernel); (case zqc2 => exact rfl); (case zqc3 => exact rfl); (case zqc4 => exact rfl); k_whole; intro g' L' h' tk' cells' FG' F' N' Y' B' X' T' l1; (try k_lt l1); k_cells Y'; (try simp only [List.cons_append, List.nil_append] at N'); (try dsimp only); (try k_lift B'); (try k_fold))))
  k_with "call ref" => ((k_here; refine wpAny_call ?_; k_extra "tb_start"))
  k_fill
  intro hrow
  clear hrow
  intro p loose mean mg mb dp un gd cn cs a ccd cl outer A₀ base h₀ L m s Q E B F X N T hk hdp hun hH hret
  have hH : h₀.IsList l vs.toArray := hH
  refine wpAny_call ?_
  k_extra "tb_start"
  have hG := hH.at (fun o e => (by assumption : Fr h₀ L _ m).keep l o e)
  k_steps
  refine' hret _ _ _ _ ⟨_, _, _, rfl, ?zlt, ?zia, ?zl, rfl⟩ (by k_asm) ?zN
  case zia => assumption
  case zl => exact drw_len _ _ rfl _ rfl
  case zlt =>
    with_reducible rename (_ < _ ∧ _ < _ ∧ _ < _ ∧ _ < _ ∧ AllLt _ _) => hq
    exact hq.2.2.2.2
  case zN =>
    intro p9 hp9
    refine (show News _ _ _ _ by k_asm) p9 ?_
    rcases List.mem_cons.mp hp9 with rfl | hp9
    · exact .head _
    · repeat (first | exact hp9 | apply List.Mem.tail)
end Mine
end
section
open PySem PySem.W PySem.Spec PySem.Calls PyProof.Rows
set_option maxRecDepth 100000
set_option maxHeartbeats 3600000
namespace Mine
theorem sub40 {a b k : Nat} (h : a = b - k) (hb : b ≤ 40) : a ≤ 40 := h ▸ Nat.le_trans (Nat.sub_le _ _) hb
theorem eq40 {a b : Nat} (h : a = b) (hb : b ≤ 40) : a ≤ 40 := h ▸ hb
theorem le40 {n : Nat} (h : n ≤ 40) : n ≤ 1000 := Nat.le_trans h (by decide)
def SameLen (a b : List Nat) : Prop := a.length = b.length
theorem SameLen.len {a b : List Nat} (h : SameLen a b) : a.length = b.length := h
theorem SameLen.symm {a b : List Nat} (h : SameLen a b) : SameLen b a := Eq.symm h
theorem sameLen {a b u v : List Nat} {k : Nat} (h : b.length = v.length - k) (e : SameLen u v) (h' : a.length = u.length - k) : SameLen a b := by
  show a.length = b.length
  rw [h, h', (show u.length = v.length from e)]
theorem sameLen0 {a b u v : List Nat} (h : b.length = v.length) (e : SameLen u v) (h' : a.length = u.length) : SameLen a b := h'.trans ((show u.length = v.length from e).trans h.symm)
theorem pos_of {a b : List Nat} (h : SameLen a b) (ha : 0 < a.length) : 0 < b.length := (show a.length = b.length from h) ▸ ha
theorem take_lt {x u : List Nat} {q : Nat} (h : x.length = u.length - (-(-((q : Nat) : Int))).toNat) (h0 : 0 < x.length) : q < u.length := by
  rw [Int.neg_neg, Int.toNat_natCast] at h; omega
theorem all_lt {x u : List Nat} {q : Nat} (h : x.length = u.length) (hq : -((q : Nat) : Int) = 0) (h0 : 0 < x.length) : q < u.length := by omega
theorem neg_ok {q n : Nat} (h : q < n) : -((n : Nat) : Int) ≤ -((q : Nat) : Int) - 1 := by omega
theorem neg_okB {q : Nat} {a b : List Nat} (e : SameLen a b) (h : q < a.length) : -((b.length : Nat) : Int) ≤ -((q : Nat) : Int) - 1 := (show a.length = b.length from e) ▸ neg_ok h
theorem nn_ok {q n : Nat} (h : q ≤ n) : -(-((q : Nat) : Int)) ≤ ((n : Nat) : Int) := by rw [Int.neg_neg]; exact Int.ofNat_le.mpr h
theorem nn_okB {q : Nat} {a b : List Nat} (e : SameLen a b) (h : q ≤ a.length) : -(-((q : Nat) : Int)) ≤ ((b.length : Nat) : Int) := (show a.length = b.length from e) ▸ nn_ok h
theorem leB {q : Nat} {a b : List Nat} (e : SameLen a b) (h : q ≤ a.length) : q ≤ b.length := (show a.length = b.length from e) ▸ h
theorem drop_lt {x u : List Nat} {q : Nat} (h : x.length = u.length - ((q : Nat) : Int).toNat) (h0 : 0 < x.length) : q < u.length := by
  rw [Int.toNat_natCast] at h; omega
theorem drop_ltB {x u v : List Nat} {q : Nat} (e : SameLen u v) (h : x.length = u.length - ((q : Nat) : Int).toNat) (h0 : 0 < x.length) : ((q : Nat) : Int) < v.length := (show u.length = v.length from e) ▸ Int.ofNat_lt.mpr (drop_lt h h0)
theorem drop_ltI {x u : List Nat} {q : Nat} (h : x.length = u.length - ((q : Nat) : Int).toNat) (h0 : 0 < x.length) : ((q : Nat) : Int) < u.length := Int.ofNat_lt.mpr (drop_lt h h0)







































theorem lev_call (w : World) (news : List (Addr × Obj)) (t1 t2 t3 : Tok) (u v : List Nat) (mx : Int) (hl : u.length = v.length) (hz : u.length ≤ 40) (hap : Apart u v) (hmx : wcost u v ≤ mx) :
    Call1 3 w 99 news [.str (Tx u) t1, .str (Tx v) t2, .int mx t3] (fun v' news' => (∃ t, v' = .int (wcost u v) t) ∧ news' = news) := by
  have hrow : PySem.Challenge.rw_ty0036_01.most = some 63 := rfl
  unfold Call1
  revert hrow
  k_with_none
  w_top off
  k_with "tb_start" => (k_dflt (first
  | (refine' code_def ?zqk1 ?zqk2 ?zqk3 ?zqk4 ?zqk5 ?zqkA ?zqkF ?zqkK ?zqk6 ?zqk7 ?zqk8 ?zqk9 ?zqkB ?_ ?zqc2 ?zqc3 ?zqc4 ?zqc5; (case zqkA => exact rfl); (case zqkF => exact rfl); (case zqkK => first | assumption | exact rfl); (case zqk1 => k_asm); (case zqk2 => k_asm); (case zqk3 => k_asm); (case zqk4 => k_asm); (case zqk5 => k_asm); (case zqk6 => k_is); (case zqk7 => k_is); (case zqk8 => ktr_room); (case zqk9 => first | exact BindsTo.of_eq rfl | (refine' kp_binds ?zqkx ?zqke; (case zqkx => k_in); (case zqke => exact fun _ => rfl))); (case zqc5 => decide); (case zqkB => exact locs rfl); (case zqc2 => exact rfl); (case zqc3 => exact rfl); (case zqc4 => exact rfl); k_whole; intro g' L' h' FG' F' N' B' X' T'; (try dsimp only); (try k_lift B'); (try k_fold))
  | (refine' code_defC ?zqk1 ?zqk2 ?zqk3 ?zqk4 ?zqk5 ?zqkA ?zqkF ?zqkK ?zqk6 ?zqk7 ?zqk8 ?zqk9 ?zqkB ?zqkD ?_ ?zqc2 ?zqc3 ?zqc4; (case zqkA => exact rfl); (case zqkF => exact rfl); (case zqkK => first | assumption | exact rfl); (case zqk1 => k_asm); (case zqk2 => k_asm); (case zqk3 => k_asm); (case zqk4 => k_asm); (case zqk5 => k_asm); (case zqk6 => k_is); (case zqk7 => k_is); (case zqk8 => ktr_room); (case zqk9 => first | exact BindsTo.of_eq rfl | (refine' kp_binds ?zqkx ?zqke; (case zqkx => k_in); (case zqke => exact fun _ => rfl))); (case zqkB => exact rfl); (case zqkD => decide +kernel); (case zqc2 => exact rfl); (case zqc3 => exact rfl); (case zqc4 => exact rfl); k_whole; intro g' L' h' tk' cells' FG' F' N' Y' B' X' T' l1; (try k_lt l1); k_cells Y'; (try simp only [List.cons_append, List.nil_append] at N'); (try dsimp only); (try k_lift B'); (try k_fold))))
  k_with "call ref" => ((k_here; refine wpAny_call ?_; k_extra "tb_start"))
  k_with "loadName" => ((k_here; k_dflt (refine' ldn ?zqk1 ?zqk2 ?_; (case zqk1 => k_asm); (case zqk2 => (repeat (first | assumption | exact if_pos rfl | refine' (if_neg (by decide)).trans ?_))))))
  k_with "eval Name" => ((k_here; name_kind "local"; k_dflt (refine' ld ?zqk1 ?zqk2 ?_; (case zqk1 => k_asm); (case zqk2 => (repeat (first | assumption | exact if_pos rfl | refine' (if_neg (by decide)).trans ?_))); k_whole)))
  k_with "subscriptTail" => ((k_here; (with_reducible show wpAny _ _ (subscriptTail _ _ (Value.str (Tx _) _) (Value.int _ _)) _ _ _); k_dflt (first | (refine' my_sign ?zqh1 ?zqh2 ?zqh3 ?_; (case zqh1 => first | exact Int.natCast_nonneg _ | omega); (case zqh2 => first | exact drop_ltI (by assumption) (by assumption) | exact drop_ltB (by assumption) (by assumption) (by assumption) | exact nn_ok (by assumption) | exact nn_okB (by assumption) (by assumption) | exact neg_ok (take_lt (by assumption) (by assumption)) | exact neg_ok (all_lt (by assumption) (by assumption) (by assumption)) | exact neg_okB (by assumption) (take_lt (by assumption) (by assumption)) | exact neg_okB (by assumption) (all_lt (by assumption) (by assumption) (by assumption)) | omega); (case zqh3 => first | exact le40 (by assumption) | omega)) | (refine' my_signN ?zqh1 ?zqh2 ?zqh3 ?_; (case zqh1 => first | exact Int.natCast_nonneg _ | omega); (case zqh2 => first | exact drop_ltI (by assumption) (by assumption) | exact drop_ltB (by assumption) (by assumption) (by assumption) | exact nn_ok (by assumption) | exact nn_okB (by assumption) (by assumption) | exact neg_ok (take_lt (by assumption) (by assumption)) | exact neg_ok (all_lt (by assumption) (by assumption) (by assumption)) | exact neg_okB (by assumption) (take_lt (by assumption) (by assumption)) | exact neg_okB (by assumption) (all_lt (by assumption) (by assumption) (by assumption)) | omega); (case zqh3 => first | exact le40 (by assumption) | omega)))))
  k_with "subscriptTail Name Name str int" => ((k_here; (with_reducible show wpAny _ _ (subscriptTail _ _ (Value.str (Tx _) _) (Value.int _ _)) _ _ _); k_dflt (first | (refine' my_sign ?zqh1 ?zqh2 ?zqh3 ?_; (case zqh1 => first | exact Int.natCast_nonneg _ | omega); (case zqh2 => first | exact drop_ltI (by assumption) (by assumption) | exact drop_ltB (by assumption) (by assumption) (by assumption) | exact nn_ok (by assumption) | exact nn_okB (by assumption) (by assumption) | exact neg_ok (take_lt (by assumption) (by assumption)) | exact neg_ok (all_lt (by assumption) (by assumption) (by assumption)) | exact neg_okB (by assumption) (take_lt (by assumption) (by assumption)) | exact neg_okB (by assumption) (all_lt (by assumption) (by assumption) (by assumption)) | omega); (case zqh3 => first | exact le40 (by assumption) | omega)) | (refine' my_signN ?zqh1 ?zqh2 ?zqh3 ?_; (case zqh1 => first | exact Int.natCast_nonneg _ | omega); (case zqh2 => first | exact drop_ltI (by assumption) (by assumption) | exact drop_ltB (by assumption) (by assumption) (by assumption) | exact nn_ok (by assumption) | exact nn_okB (by assumption) (by assumption) | exact neg_ok (take_lt (by assumption) (by assumption)) | exact neg_ok (all_lt (by assumption) (by assumption) (by assumption)) | exact neg_okB (by assumption) (take_lt (by assumption) (by assumption)) | exact neg_okB (by assumption) (all_lt (by assumption) (by assumption) (by assumption)) | omega); (case zqh3 => first | exact le40 (by assumption) | omega)))))
  k_with "subscriptTail Name BinOp str int" => ((k_here; (with_reducible show wpAny _ _ (subscriptTail _ _ (Value.str (Tx _) _) (Value.int _ _)) _ _ _); k_dflt (first | (refine' my_sign ?zqh1 ?zqh2 ?zqh3 ?_; (case zqh1 => first | exact Int.natCast_nonneg _ | omega); (case zqh2 => first | exact drop_ltI (by assumption) (by assumption) | exact drop_ltB (by assumption) (by assumption) (by assumption) | exact nn_ok (by assumption) | exact nn_okB (by assumption) (by assumption) | exact neg_ok (take_lt (by assumption) (by assumption)) | exact neg_ok (all_lt (by assumption) (by assumption) (by assumption)) | exact neg_okB (by assumption) (take_lt (by assumption) (by assumption)) | exact neg_okB (by assumption) (all_lt (by assumption) (by assumption) (by assumption)) | omega); (case zqh3 => first | exact le40 (by assumption) | omega)) | (refine' my_signN ?zqh1 ?zqh2 ?zqh3 ?_; (case zqh1 => first | exact Int.natCast_nonneg _ | omega); (case zqh2 => first | exact drop_ltI (by assumption) (by assumption) | exact drop_ltB (by assumption) (by assumption) (by assumption) | exact nn_ok (by assumption) | exact nn_okB (by assumption) (by assumption) | exact neg_ok (take_lt (by assumption) (by assumption)) | exact neg_ok (all_lt (by assumption) (by assumption) (by assumption)) | exact neg_okB (by assumption) (take_lt (by assumption) (by assumption)) | exact neg_okB (by assumption) (all_lt (by assumption) (by assumption) (by assumption)) | omega); (case zqh3 => first | exact le40 (by assumption) | omega)))))
  k_with "subscriptTail Name Slice str ref" => ((k_here; (with_reducible show wpAny _ _ (subscriptTail _ (Expr.Slice (some _) none none _) (Value.str (Tx _) _) _) _ _ _); refine' my_from (s := ⟨_, _, _, _, _⟩) (hs := ?zqhs) (ht := ?zqht) (hF := ?zqF) (hN := ?zqN) (h0 := ?zqh1) (h1 := ?zqh2) (hz := ?zqh3) ?_; (case zqF => k_asm); (case zqN => k_asm); (case zqh1 => first | exact Int.natCast_nonneg _ | omega); (case zqh2 => first | exact drop_ltI (by assumption) (by assumption) | exact drop_ltB (by assumption) (by assumption) (by assumption) | exact nn_ok (by assumption) | exact nn_okB (by assumption) (by assumption) | exact neg_ok (take_lt (by assumption) (by assumption)) | exact neg_ok (all_lt (by assumption) (by assumption) (by assumption)) | exact neg_okB (by assumption) (take_lt (by assumption) (by assumption)) | exact neg_okB (by assumption) (all_lt (by assumption) (by assumption) (by assumption)) | omega); (case zqh3 => first | exact le40 (by assumption) | omega); (case zqhs => with_unfolding_all rfl); (case zqht => intro _; with_unfolding_all rfl); intro x9 h9 t9 tk9 e9 l9 F9 N9; (try have s40 := sub40 l9 (by assumption)); (try have s40 := eq40 l9 (by assumption)); (try have s41 := sameLen l9 (by first | assumption | exact SameLen.symm (by assumption)) (by assumption)); (try have s41 := sameLen0 l9 (by first | assumption | exact SameLen.symm (by assumption)) (by assumption))))
  k_with "subscriptTail Name Slice str ref" => ((k_here; (with_reducible show wpAny _ _ (subscriptTail _ (Expr.Slice none (some _) none _) (Value.str (Tx _) _) _) _ _ _); (first | (refine' my_to (s := ⟨_, _, _, _, _⟩) (hs := ?zqhs) (ht := ?zqht) (hF := ?zqF) (hN := ?zqN) (h0 := ?zqh1) (h1 := ?zqh2) (hz := ?zqh3) ?_; (case zqF => k_asm); (case zqN => k_asm); (case zqh1 => first | exact Int.natCast_nonneg _ | omega); (case zqh2 => first | exact drop_ltI (by assumption) (by assumption) | exact drop_ltB (by assumption) (by assumption) (by assumption) | exact nn_ok (by assumption) | exact nn_okB (by assumption) (by assumption) | exact neg_ok (take_lt (by assumption) (by assumption)) | exact neg_ok (all_lt (by assumption) (by assumption) (by assumption)) | exact neg_okB (by assumption) (take_lt (by assumption) (by assumption)) | exact neg_okB (by assumption) (all_lt (by assumption) (by assumption) (by assumption)) | omega); (case zqh3 => first | exact le40 (by assumption) | omega); (case zqhs => with_unfolding_all rfl); (case zqht => intro _; with_unfolding_all rfl)) | (refine' my_all (s := ⟨_, _, _, _, _⟩) (hs := ?zqhs) (ht := ?zqht) (hF := ?zqF) (hN := ?zqN) (hz := ?zqh3) ?_; (case zqF => k_asm); (case zqN => k_asm); (case zqh3 => first | exact le40 (by assumption) | omega); (case zqhs => with_unfolding_all rfl); (case zqht => intro _; with_unfolding_all rfl))); intro x9 h9 t9 tk9 e9 l9 F9 N9; (try have s40 := sub40 l9 (by assumption)); (try have s40 := eq40 l9 (by assumption)); (try have s41 := sameLen l9 (by first | assumption | exact SameLen.symm (by assumption)) (by assumption)); (try have s41 := sameLen0 l9 (by first | assumption | exact SameLen.symm (by assumption)) (by assumption))))
  k_with "truthy str" => ((k_here; (with_reducible show wpAny _ _ (truthy (Value.str (Tx _) _)) _ _ _); k_dflt (first | (refine' truthy_tx1 ?zqz ?zql ?_; (case zqz => first | exact le40 (by assumption) | omega); (case zql => first | exact pos_of (by assumption) (by assumption) | exact pos_of (SameLen.symm (by assumption)) (by assumption) | omega); intro tk9) | (refine' truthy_tx0 ?zqz ?zql ?_; (case zqz => first | exact le40 (by assumption) | omega); (case zql => first | exact pos_of (by assumption) (by assumption) | exact pos_of (SameLen.symm (by assumption)) (by assumption) | omega); intro tk9) | (refine' truthy_tx ?zqz ?_ ?_; (case zqz => first | exact le40 (by assumption) | omega); (intro hl9 tk9); rotate_left; (intro hl9 tk9); rotate_right))))
  k_with "call builtin:len" => ((k_here; (with_reducible show wpAny _ _ (call _ [Value.str (Tx _) _]) _ _ _); k_dflt (refine' len_tx ?zqz ?_; (case zqz => first | exact le40 (by assumption) | omega); intro t9 tk9)))
  k_with "call type:list" => ((k_here; k_dflt (refine' list_twos rfl ?zqF ?zqN ?zqr ?zqb ?zqz ?_; (case zqF => k_asm); (case zqN => k_asm); (case zqr => assumption); (case zqb => rfl); (case zqz => first | exact le40 (by assumption) | omega); intro D9 us9 c9 h9 tk9 F9 N9 lt9 hi9; (try k_lt lt9))))
  k_with "exec While BoolOp" => ((k_here; k_dflt (refine' while_rule (Lev2 _ _ _ _ _ _) ?zqF ?zqN (Lev2.start ?zqe ?zqa ?zqb ?zqc ?zqd) ?_ ?_; (case zqF => k_asm); (case zqN => k_asm); (case zqd => (repeat (first | assumption | exact if_pos rfl | refine' (if_neg (by decide)).trans ?_))); (case zqa => (repeat (first | assumption | exact if_pos rfl | refine' (if_neg (by decide)).trans ?_))); (case zqb => (repeat (first | assumption | exact if_pos rfl | refine' (if_neg (by decide)).trans ?_))); (case zqc => (repeat (first | assumption | exact if_pos rfl | refine' (if_neg (by decide)).trans ?_))); (case zqe => first | assumption | exact leB (by assumption) (by assumption) | omega); (intro n9 m9 h9 tk9 E9 F9 N9 j9; obtain ⟨q9, tq9, hq9, hqn9, ht9, hla9, hlb9, hlc9, hld9⟩ := j9; (try k_fold)); rotate_left; (intro n9 m9 h9 tk9 F9 N9 j9; obtain ⟨q9, tq9, hq9, hqn9, ht9, hla9, hlb9, hlc9, hld9⟩ := j9; (try k_fold)); rotate_right)))
  k_with "exec While BoolOp" => ((k_here; k_dflt (refine' while_rule (Lev1 _ _ _ _ _ _) ?zqF ?zqN (Lev1.start ?zqa ?zqb ?zqc ?zqd) ?_ ?_; (case zqF => k_asm); (case zqN => k_asm); (case zqd => rfl); (case zqa => rfl); (case zqb => rfl); (case zqc => rfl); (intro n9 m9 h9 tk9 E9 F9 N9 j9; obtain ⟨q9, tq9, hq9, hqn9, ht9, hla9, hlb9, hlc9, hld9⟩ := j9; (try k_fold)); rotate_left; (intro n9 m9 h9 tk9 F9 N9 j9; obtain ⟨q9, tq9, hq9, hqn9, ht9, hla9, hlb9, hlc9, hld9⟩ := j9; (try k_fold)); rotate_right)))
  k_with "WOut" => ((k_dflt (first | (refine' Lev1.out ?zqF ?zqN ?zqhp ?zqhn ?zqh ?zqa ?zqb ?zqc ?zqd; (case zqF => k_asm); (case zqN => k_asm); (case zqd => (repeat (first | assumption | exact if_pos rfl | refine' (if_neg (by decide)).trans ?_))); (case zqa => (repeat (first | assumption | exact if_pos rfl | refine' (if_neg (by decide)).trans ?_))); (case zqb => (repeat (first | assumption | exact if_pos rfl | refine' (if_neg (by decide)).trans ?_))); (case zqc => (repeat (first | assumption | exact if_pos rfl | refine' (if_neg (by decide)).trans ?_))); (case zqhp => first | exact Nat.le_of_lt (by assumption) | assumption | exact drop_lt (by assumption) (by assumption) | exact take_lt (by assumption) (by assumption) | exact all_lt (by assumption) (by assumption) (by assumption) | omega); (case zqhn => first | assumption | omega); (case zqh => assumption)) | (refine' Lev2.out ?zqF ?zqN ?zqhp ?zqhn ?zqh ?zqa ?zqb ?zqc ?zqd; (case zqF => k_asm); (case zqN => k_asm); (case zqd => (repeat (first | assumption | exact if_pos rfl | refine' (if_neg (by decide)).trans ?_))); (case zqa => (repeat (first | assumption | exact if_pos rfl | refine' (if_neg (by decide)).trans ?_))); (case zqb => (repeat (first | assumption | exact if_pos rfl | refine' (if_neg (by decide)).trans ?_))); (case zqc => (repeat (first | assumption | exact if_pos rfl | refine' (if_neg (by decide)).trans ?_))); (case zqhp => first | exact Nat.le_of_lt (by assumption) | assumption | exact drop_lt (by assumption) (by assumption) | exact take_lt (by assumption) (by assumption) | exact all_lt (by assumption) (by assumption) (by assumption) | omega); (case zqhn => first | assumption | omega); (case zqh => assumption)))))
  k_with "WStep" => ((k_dflt (first | (exfalso; omega) | (refine' Lev1.next ?zqF ?zqN ?zqhl ?zqhp ?zqhn ?zqh ?zqhe ?zqa ?zqb ?zqc ?zqd; (case zqF => k_asm); (case zqN => k_asm); (case zqd => (repeat (first | assumption | exact if_pos rfl | refine' (if_neg (by decide)).trans ?_))); (case zqa => (repeat (first | assumption | exact if_pos rfl | refine' (if_neg (by decide)).trans ?_))); (case zqb => (repeat (first | assumption | exact if_pos rfl | refine' (if_neg (by decide)).trans ?_))); (case zqc => (repeat (first | assumption | exact if_pos rfl | refine' (if_neg (by decide)).trans ?_))); (case zqhl => first | exact SameLen.len (by assumption) | exact (SameLen.len (by assumption)).symm | omega); (case zqhp => first | exact Nat.le_of_lt (by assumption) | assumption | exact drop_lt (by assumption) (by assumption) | exact take_lt (by assumption) (by assumption) | exact all_lt (by assumption) (by assumption) (by assumption) | omega); (case zqhn => first | assumption | omega); (case zqh => assumption); (case zqhe => assumption)) | (refine' Lev2.next ?zqF ?zqN ?zqhl ?zqhp ?zqhn ?zqh ?zqhe ?zqa ?zqb ?zqc ?zqd; (case zqF => k_asm); (case zqN => k_asm); (case zqd => (repeat (first | assumption | exact if_pos rfl | refine' (if_neg (by decide)).trans ?_))); (case zqa => (repeat (first | assumption | exact if_pos rfl | refine' (if_neg (by decide)).trans ?_))); (case zqb => (repeat (first | assumption | exact if_pos rfl | refine' (if_neg (by decide)).trans ?_))); (case zqc => (repeat (first | assumption | exact if_pos rfl | refine' (if_neg (by decide)).trans ?_))); (case zqhl => first | exact SameLen.len (by assumption) | exact (SameLen.len (by assumption)).symm | omega); (case zqh => assumption); (case zqhe => assumption);  (case zqhp => first | exact Nat.le_of_lt (by assumption) | assumption | exact drop_lt (by assumption) (by assumption) | exact take_lt (by assumption) (by assumption) | exact all_lt (by assumption) (by assumption) (by assumption) | omega); (case zqhn => first | assumption | omega); skip))))
  k_with "exec Assign" => ((k_here; (with_reducible show wpAny _ _ (exec (Stmt.Assign [Expr.Name (Str.ofString "a") _] (Expr.Subscript _ (Expr.Slice none (some (Expr.BoolOp _ _ _)) none _) _) _) _) _ _ _); (fail_if_success (with_reducible show wpAny _ _ _ (CutEnd _ _ _ _ _) _ _)); k_dflt (refine' cut_a ?zqF ?zqN ?zqa ?zqb ?zqc ?zqd ?zqe ?_ ?_; (case zqF => k_asm); (case zqN => k_asm); (case zqd => (repeat (first | assumption | exact if_pos rfl | refine' (if_neg (by decide)).trans ?_))); (case zqa => (repeat (first | assumption | exact if_pos rfl | refine' (if_neg (by decide)).trans ?_))); (case zqb => (repeat (first | assumption | exact if_pos rfl | refine' (if_neg (by decide)).trans ?_))); (case zqc => (repeat (first | assumption | exact if_pos rfl | refine' (if_neg (by decide)).trans ?_))); (case zqe => first | assumption | exact leB (by assumption) (by assumption) | omega); rotate_left; (intro z9 t9 h9 tk9 m9 e9 l9 la9 lb9 lc9 ld9 F9 N9; (try have s40 := sub40 l9 (by assumption)); (try have s40 := eq40 l9 (by assumption)); (try have s41 := sameLen l9 (by first | assumption | exact SameLen.symm (by assumption)) (by assumption)); (try have s41 := sameLen0 l9 (by first | assumption | exact SameLen.symm (by assumption)) (by assumption)); (try have s42 := SameLen.len s41); (try k_fold)); rotate_right)))
  k_with "exec Assign" => ((k_here; (with_reducible show wpAny _ _ (exec (Stmt.Assign [Expr.Name (Str.ofString "b") _] (Expr.Subscript _ (Expr.Slice none (some (Expr.BoolOp _ _ _)) none _) _) _) _) _ _ _); (fail_if_success (with_reducible show wpAny _ _ _ (CutEnd _ _ _ _ _) _ _)); k_dflt (refine' cut_b ?zqF ?zqN ?zqa ?zqb ?zqc ?zqd ?zqe ?_ ?_; (case zqF => k_asm); (case zqN => k_asm); (case zqd => (repeat (first | assumption | exact if_pos rfl | refine' (if_neg (by decide)).trans ?_))); (case zqa => (repeat (first | assumption | exact if_pos rfl | refine' (if_neg (by decide)).trans ?_))); (case zqb => (repeat (first | assumption | exact if_pos rfl | refine' (if_neg (by decide)).trans ?_))); (case zqc => (repeat (first | assumption | exact if_pos rfl | refine' (if_neg (by decide)).trans ?_))); (case zqe => first | assumption | exact leB (by assumption) (by assumption) | omega); rotate_left; (intro z9 t9 h9 tk9 m9 e9 l9 la9 lb9 lc9 ld9 F9 N9; (try have s40 := sub40 l9 (by assumption)); (try have s40 := eq40 l9 (by assumption)); (try have s41 := sameLen l9 (by first | assumption | exact SameLen.symm (by assumption)) (by assumption)); (try have s41 := sameLen0 l9 (by first | assumption | exact SameLen.symm (by assumption)) (by assumption)); (try have s42 := SameLen.len s41); (try k_fold)); rotate_right)))
  k_with "CutEnd" => ((k_dflt (first | (refine' CutA.end_ ?zqF ?zqN ?zqa ?zqe ?zqb ?zqc ?zqd; (case zqF => k_asm); (case zqN => k_asm); (case zqd => (repeat (first | assumption | exact if_pos rfl | refine' (if_neg (by decide)).trans ?_))); (case zqa => (repeat (first | assumption | exact if_pos rfl | refine' (if_neg (by decide)).trans ?_))); (case zqb => (repeat (first | assumption | exact if_pos rfl | refine' (if_neg (by decide)).trans ?_))); (case zqc => (repeat (first | assumption | exact if_pos rfl | refine' (if_neg (by decide)).trans ?_))); (case zqe => first | exact take_neg_ok (by assumption) | exact take_zero_ok (by assumption) (by omega))) | (refine' CutB.end_ ?zqF ?zqN ?zqb ?zqe ?zqa ?zqc ?zqd; (case zqF => k_asm); (case zqN => k_asm); (case zqd => (repeat (first | assumption | exact if_pos rfl | refine' (if_neg (by decide)).trans ?_))); (case zqa => (repeat (first | assumption | exact if_pos rfl | refine' (if_neg (by decide)).trans ?_))); (case zqb => (repeat (first | assumption | exact if_pos rfl | refine' (if_neg (by decide)).trans ?_))); (case zqc => (repeat (first | assumption | exact if_pos rfl | refine' (if_neg (by decide)).trans ?_))); (case zqe => first | exact take_neg_ok (by assumption) | exact take_zero_ok (by assumption) (by omega))))))
  k_with "exec For Name Call cons nil" => ((k_here; k_dflt (refine' for_ruleL ?zqhF ?zqhs ?_; (case zqhF => k_asm); (case zqhs => intro _; rfl))))
  k_with "pyIter ref" => ((k_here; k_dflt (refine' srcF_range rfl ?zqF ?zqN ?zqhr ?zqsm ?zqhn ?_; (case zqF => k_asm); (case zqN => k_asm); (case zqhr => assumption); (case zqsm => exact small_one (by omega) (by omega) (by omega) (by omega)); (case zqhn => exact range0 _); intro it9 s9 S9; obtain ⟨g9, e9⟩ := SrcF.same S9; subst e9; first
  | (refine' lev_inner S9 rfl ?zqu ?zqr ?zqy ?zqz ?zqa ?zqb ?zqc ?zqd ?zqe ?zqf ?zqg ?zqh ?zqi ?_ ?_; (case zqf => (repeat (first | assumption | exact if_pos rfl | refine' (if_neg (by decide)).trans ?_))); (case zqa => (repeat (first | assumption | exact if_pos rfl | refine' (if_neg (by decide)).trans ?_))); (case zqb => (repeat (first | assumption | exact if_pos rfl | refine' (if_neg (by decide)).trans ?_))); (case zqc => (repeat (first | assumption | exact if_pos rfl | refine' (if_neg (by decide)).trans ?_))); (case zqd => (repeat (first | assumption | exact if_pos rfl | refine' (if_neg (by decide)).trans ?_))); (case zqe => (repeat (first | assumption | exact if_pos rfl | refine' (if_neg (by decide)).trans ?_))); (case zqg => (repeat (first | assumption | exact if_pos rfl | refine' (if_neg (by decide)).trans ?_))); (case zqh => (repeat (first | assumption | exact if_pos rfl | refine' (if_neg (by decide)).trans ?_))); (case zqi => (repeat (first | assumption | exact if_pos rfl | refine' (if_neg (by decide)).trans ?_))); (case zqu => assumption); (case zqr => assumption); (case zqy => assumption); (case zqz => assumption); (intro j9 t9 us9 ns9 c9 tr9 td9 tm9 mi9 m9 I9 oI9 h9 tk9 E9 hj9 hu9 hr9 hm9 la9 lb9 lc9 ld9 le9 lf9 lg9 lh9 li9 off9 F9 N9; (try k_fold)); rotate_left; (intro us9 ns9 c9 tr9 td9 tm9 mi9 h9 tk9 m9 hu9 hr9 hm9 la9 lb9 lc9 ld9 le9 lf9 lg9 lh9 li9 F9 N9; (try k_fold)); rotate_right)
  | (refine' lev_outer S9 rfl ?zql ?zqu ?zqy ?zqz ?zqa ?zqb ?zqc ?zqd ?zqe ?_ ?_; (case zqa => (repeat (first | assumption | exact if_pos rfl | refine' (if_neg (by decide)).trans ?_))); (case zqb => (repeat (first | assumption | exact if_pos rfl | refine' (if_neg (by decide)).trans ?_))); (case zqc => (repeat (first | assumption | exact if_pos rfl | refine' (if_neg (by decide)).trans ?_))); (case zqd => (repeat (first | assumption | exact if_pos rfl | refine' (if_neg (by decide)).trans ?_))); (case zqe => (repeat (first | assumption | exact if_pos rfl | refine' (if_neg (by decide)).trans ?_))); (case zqu => assumption); (case zql => first | exact pos_of (by assumption) (by assumption) | exact pos_of (SameLen.symm (by assumption)) (by assumption) | omega); (case zqy => (refine' lev_facts ?zqf1 ?zqf2 ?zqf3 ?zqf4 ?zqf5 ?zqf6 ?zqf7 ?zqf8 ?zqf9 ?zqf10; (case zqf8 => assumption); (case zqf9 => assumption); (case zqf4 => assumption); (case zqf5 => assumption); (case zqf1 => assumption); (case zqf2 => assumption); (case zqf3 => assumption); (case zqf6 => assumption); (case zqf7 => assumption); (case zqf10 => assumption))); (case zqz => assumption); (intro i9 t9 us9 ns9 c9 tr9 m9 I9 oI9 h9 tk9 E9 hi9 hap9 hcs9 hu9 hr9 la9 lb9 lc9 ld9 le9 off9 F9 N9; (try k_fold)); rotate_left; (intro us9 c9 tr9 h9 tk9 m9 lr9 F9 N9; (try k_fold)); rotate_right))))
  k_with "subscriptTail Name Name ref int" => ((k_here; (with_reducible show wpAny _ _ (subscriptTail _ _ (Value.ref _) (Value.int _ _)) _ _ _); k_dflt (refine' my_cell (hs := ?zqhs) (N := ?zqN) (hm := ?zqm) (hi := ?zqi) (hr := ?zqr) (h1 := ?zqj) (hz := ?zqz) ?_; (case zqhs => with_unfolding_all rfl); (case zqN => k_asm); (case zqm => k_mem); (case zqi => assumption); (case zqr => assumption); (case zqj => assumption); (case zqz => first | exact le40 (by assumption) | omega); intro t9)))
  k_with "setItem ref int" => ((k_here; (with_reducible show wpAny _ _ (setItem (Value.ref _) (Value.int _ _) (Value.int _ _)) _ _ _); k_dflt (refine' my_store ?zqk1 ?zqk2 ?zqk3 ?zqk4 ?zqk5 ?zqk6 ?zqk7 ?_; (case zqk1 => k_asm); (case zqk2 => k_asm); (case zqk3 => exact upd2 (by assumption) (by assumption) (by assumption)); (case zqk4 => assumption); (case zqk5 => assumption); (case zqk6 => assumption); (case zqk7 => omega)); intro h9 F9 N9 hi9))
  k_with "ForPost" => ((k_dflt (first
  | (refine' InnJ.end_ ?zqF ?zqN ?zqs ?zqo ?zqu ?zqr ?zqj ?zqa ?zqb ?zqc ?zqd ?zqe ?zqf ?zqg ?zqh ?zqi ?zqx1 ?zqx2 ?zqx3 ?zqx4 ?zqx5; (case zqF => k_asm); (case zqN => k_asm); (case zqf => (repeat (first | assumption | exact if_pos rfl | refine' (if_neg (by decide)).trans ?_))); (case zqa => (repeat (first | assumption | exact if_pos rfl | refine' (if_neg (by decide)).trans ?_))); (case zqb => (repeat (first | assumption | exact if_pos rfl | refine' (if_neg (by decide)).trans ?_))); (case zqc => (repeat (first | assumption | exact if_pos rfl | refine' (if_neg (by decide)).trans ?_))); (case zqd => (repeat (first | assumption | exact if_pos rfl | refine' (if_neg (by decide)).trans ?_))); (case zqe => (repeat (first | assumption | exact if_pos rfl | refine' (if_neg (by decide)).trans ?_))); (case zqg => (repeat (first | assumption | exact if_pos rfl | refine' (if_neg (by decide)).trans ?_))); (case zqh => (repeat (first | assumption | exact if_pos rfl | refine' (if_neg (by decide)).trans ?_))); (case zqi => (repeat (first | assumption | exact if_pos rfl | refine' (if_neg (by decide)).trans ?_))); (case zqs => (intro p9 hp9; k_ownIn)); (case zqu => assumption); (case zqr => assumption); (case zqj => assumption); (case zqo => assumption); (case zqx4 => assumption); (case zqx1 => rfl); (case zqx3 => rfl); (case zqx2 => exact dd_turn (by assumption) (by assumption) (by assumption)); (case zqx5 => first | exact ⟨Int.le_of_lt (by assumption), Int.le_refl _⟩ | exact ⟨Int.le_refl _, Int.not_lt.mp (by assumption)⟩))
  | (refine' OutJ.end_ ?zqF ?zqN ?zqs ?zqo ?zqu ?zqr ?zqa ?zqb ?zqc ?zqd ?zqe ?zqx1 ?zqx2; (case zqF => k_asm); (case zqN => k_asm); (case zqa => (repeat (first | assumption | exact if_pos rfl | refine' (if_neg (by decide)).trans ?_))); (case zqb => (repeat (first | assumption | exact if_pos rfl | refine' (if_neg (by decide)).trans ?_))); (case zqc => (repeat (first | assumption | exact if_pos rfl | refine' (if_neg (by decide)).trans ?_))); (case zqd => (repeat (first | assumption | exact if_pos rfl | refine' (if_neg (by decide)).trans ?_))); (case zqe => (repeat (first | assumption | exact if_pos rfl | refine' (if_neg (by decide)).trans ?_))); (case zqs => (intro p9 hp9; k_ownIn)); (case zqu => assumption); (case zqr => assumption); (case zqo => assumption); (case zqx1 => assumption); (case zqx2 => rfl)))))
  k_with "call ref" => ((k_here; (with_reducible show wpAny _ _ (call (Value.ref 92) [Value.str (Tx [_]) _, Value.str (Tx [_]) _]) _ _ _); k_dflt (refine' Call1.use (sub_call _ _ _ _ _ _ ?zqx1 ?zqx2) ?zqk1 ?zqk2 ?zqk3 ?zqk4 ?zqk5 ?zqkK ?zqkd ?zqku ?_; (case zqk1 => k_asm); (case zqk2 => k_asm); (case zqk3 => k_asm); (case zqk4 => k_asm); (case zqk5 => k_asm); (case zqkK => first | exact rfl | assumption); (case zqx1 => (rw [Tx_len]; exact Nat.le_refl 1)); (case zqx2 => (rw [Tx_len]; exact Nat.le_refl 1)); (case zqkd => ktr_room); (case zqku => ktr_units); intro v9 news9 h9 tk9 hR9 F9 N9; obtain ⟨⟨t9, e9⟩, e9'⟩ := hR9; subst e9; subst e9'; (try dsimp only); (try k_fold))))
  k_fill
  intro hrow
  clear hrow
  intro p loose mean mg mb dp un gd cn cs a ccd cl outer A₀ base h₀ L m s Q E B F X N T hk hdp hun hret
  refine wpAny_call ?_
  k_extra "tb_start"
  have hsl : SameLen u v := hl
  have hz2 : v.length ≤ 40 := hl ▸ hz
  have hmx0 : 0 ≤ mx := Int.le_trans (wcost_nonneg u v) hmx
  k_steps
  all_goals first
    | (refine hret _ _ _ _ ⟨ktn_int ?_, rfl⟩ (by k_asm) ?_; rotate_left; (intro p9 hp9; refine (show News _ _ _ _ by k_asm) p9 ?_; (first | exact hp9 | exact .tail _ hp9)); first | exact wcost_eq0 (by assumption) | rfl | (refine' wcost_none ?ff ?g0 ?g1; (case ff => (refine' lev_facts ?f1 ?f2 ?f3 ?f4 ?f5 ?f6 ?f7 ?f8 ?f9 ?f10; (case f8 => assumption); (case f9 => assumption); (case f4 => assumption); (case f5 => assumption); (case f1 => assumption); (case f2 => assumption); (case f3 => assumption); (case f6 => assumption); (case f7 => assumption); (case f10 => assumption))); (case g0 => omega); (case g1 => omega)))
    | fail
end Mine
end
section
open PySem PySem.W PySem.Spec PySem.Calls PyProof.Rows
set_option maxRecDepth 100000
set_option maxHeartbeats 8000000
namespace Mine
theorem insL_at (w : World) (news news' : List (Addr × Obj)) (x : Int) (t1 : Tok) (l : Addr) (vs : List Value) (ns : List Int) (n : Nat) (U : Upd l (listOf vs.toArray n) (listOf (insV vs (cL ns x) (.int x t1)).toArray (n + 1)) news news') (hi : IntsAre vs ns) (hn : ns.length < 900) (hs : Srt ns) :
    Call1 3 w 62 news [.ref l, .int x t1] (fun v n' => v = .none ∧ n' = news' ∧ IntsAre (insV vs (cL ns x) (.int x t1)) (insI ns (cL ns x) x) ∧ Srt (insI ns (cL ns x) x) ∧ (insI ns (cL ns x) x).length = ns.length + 1) := by
  obtain ⟨pre, post, rfl, rfl, a, b⟩ := U.split
  refine (insL_call w (pre ++ post) x t1 l vs ns n hi hn hs ?_).weak ?_ ?_
  · intro p hp
    rcases List.mem_append.mp hp with h | h
    · exact a p h
    · exact b p h
  · intro p hp
    rcases List.mem_cons.mp hp with rfl | hp
    · exact List.mem_append.mpr (.inr (.head _))
    · rcases List.mem_append.mp hp with h | h
      · exact List.mem_append.mpr (.inl h)
      · exact List.mem_append.mpr (.inr (.tail _ h))
  · rintro v n' ⟨rfl, rfl⟩
    refine ⟨_, ⟨rfl, rfl, ints_ins hi _ _ _, srt_insL hs x, insI_length _ _ _⟩, fun p hp => ?_⟩
    rcases List.mem_append.mp hp with h | h
    · exact .tail _ (List.mem_append.mpr (.inl h))
    · rcases List.mem_cons.mp h with rfl | h
      · exact .head _
      · exact .tail _ (List.mem_append.mpr (.inr h))
theorem insR_at (w : World) (news news' : List (Addr × Obj)) (x : Int) (t1 : Tok) (l : Addr) (vs : List Value) (ns : List Int) (n : Nat) (U : Upd l (listOf vs.toArray n) (listOf (insV vs (cR ns x) (.int x t1)).toArray (n + 1)) news news') (hi : IntsAre vs ns) (hn : ns.length < 900) (hs : Srt ns) :
    Call1 3 w 44 news [.ref l, .int x t1] (fun v n' => v = .none ∧ n' = news' ∧ IntsAre (insV vs (cR ns x) (.int x t1)) (insI ns (cR ns x) x) ∧ Srt (insI ns (cR ns x) x) ∧ (insI ns (cR ns x) x).length = ns.length + 1) := by
  obtain ⟨pre, post, rfl, rfl, a, b⟩ := U.split
  refine (insR_call w (pre ++ post) x t1 l vs ns n hi hn hs ?_).weak ?_ ?_
  · intro p hp
    rcases List.mem_append.mp hp with h | h
    · exact a p h
    · exact b p h
  · intro p hp
    rcases List.mem_cons.mp hp with rfl | hp
    · exact List.mem_append.mpr (.inr (.head _))
    · rcases List.mem_append.mp hp with h | h
      · exact List.mem_append.mpr (.inl h)
      · exact List.mem_append.mpr (.inr (.tail _ h))
  · rintro v n' ⟨rfl, rfl⟩
    refine ⟨_, ⟨rfl, rfl, ints_ins hi _ _ _, srt_insR hs x, insI_length _ _ _⟩, fun p hp => ?_⟩
    rcases List.mem_append.mp hp with h | h
    · exact .tail _ (List.mem_append.mpr (.inl h))
    · rcases List.mem_cons.mp h with rfl | h
      · exact .head _
      · exact .tail _ (List.mem_append.mpr (.inr h))
end Mine
end
section
open PySem PySem.W PySem.Spec PySem.Calls PyProof.Rows
namespace Mine
theorem mem3 {y : Int} (h : y ∈ ([0, 1, 2] : List Int)) : 0 ≤ y ∧ y < 3 := by
  simp only [List.mem_cons, List.not_mem_nil, or_false] at h; omega
/-- the three cuts -/
theorem cuts_of {ys : List Value} {ds : List Int} (h : IntsAre ys (([0, 1, 2] : List Int).map fun k => 85 * k + (ds.getD k.toNat 0).fmod 85)) :
    ∃ c0 c1 c2 u v w, ys = [.int c0 u, .int c1 v, .int c2 w] ∧ (0 ≤ c0 ∧ c0 < 85) ∧ (85 ≤ c1 ∧ c1 < 170) ∧ (170 ≤ c2 ∧ c2 < 255) := by
  obtain ⟨u, v, w, e⟩ := ints3 h
  have q : ∀ a : Int, 0 ≤ a.fmod 85 ∧ a.fmod 85 < 85 := fun a => by rw [Int.fmod_eq_emod_of_nonneg _ (by decide)]; omega
  refine ⟨_, _, _, u, v, w, e, ?_, ?_, ?_⟩
  · have := q (ds.getD (0 : Int).toNat 0); dsimp only; omega
  · have := q (ds.getD (1 : Int).toNat 0); dsimp only; omega
  · have := q (ds.getD (2 : Int).toNat 0); dsimp only; omega
/-- six in another order, by their places -/
theorem perm6 (a b c d e f : Int) : [f, c, e, b, d, a].Perm [a, b, c, d, e, f] :=
  List.Perm.map (fun i : Nat => [a, b, c, d, e, f].getD i 0) (by decide : [5, 2, 4, 1, 3, 0].Perm [0, 1, 2, 3, 4, 5])
theorem srt_cons {a b : Int} {l : List Int} (h : a ≤ b) (hs : Srt (b :: l)) : Srt (a :: b :: l) := by
  refine List.pairwise_cons.mpr ⟨fun z hz => ?_, hs⟩
  rcases List.mem_cons.mp hz with rfl | hz
  · exact h
  · exact Int.le_trans h ((List.pairwise_cons.mp hs).1 z hz)
/-- the row of ends as insort_left keeps it -/
theorem ends_eq {c0 c1 c2 : Int} (h0 : 0 ≤ c0 ∧ c0 < 85) (h1 : 85 ≤ c1 ∧ c1 < 170) (h2 : 170 ≤ c2 ∧ c2 < 255) {es : List Int} (hs : Srt es) (hp : es.Perm [c2 + 256, c2, c1 + 256, c1, c0 + 256, c0]) : es = [c0, c1, c2, c0 + 256, c1 + 256, c2 + 256] := by
  have l1 : c0 ≤ c1 := Int.le_trans (Int.le_of_lt h0.2) h1.1
  have l2 : c1 ≤ c2 := Int.le_trans (Int.le_of_lt h1.2) h2.1
  have l3 : c2 ≤ c0 + 256 := by omega
  exact srt_uniq hs (srt_cons l1 (srt_cons l2 (srt_cons l3 (srt_cons (Int.add_le_add_right l1 _) (srt_cons (Int.add_le_add_right l2 _) (List.pairwise_singleton _ _)))))) (hp.trans (perm6 c0 c1 c2 (c0 + 256) (c1 + 256) (c2 + 256)))
/-- the walk rests here -/
def Stop (p : Prop) : Prop := p
theorem stop_intro {p : Prop} (h : Stop p) : p := h
theorem stop_elim {p : Prop} (h : p) : Stop p := h
theorem memc {y c0 c1 c2 : Int} (h : y ∈ ([c0, c1, c2] : List Int)) (h0 : 0 ≤ c0 ∧ c0 < 85) (h1 : 85 ≤ c1 ∧ c1 < 170) (h2 : 170 ≤ c2 ∧ c2 < 255) : 0 ≤ y ∧ y < 255 := by
  simp only [List.mem_cons, List.not_mem_nil, or_false] at h; omega
theorem fdm (a : Int) : (a.fdiv 256).fmod 2 = a / 256 % 2 := by
  rw [Int.fmod_eq_emod_of_nonneg _ (by decide), Int.fdiv_eq_ediv_of_nonneg _ (by decide)]
theorem ints6 {ys : List Value} {a b c d e f : Int} (h : IntsAre ys [a, b, c, d, e, f]) : ∃ t u v w x y, ys = [.int a t, .int b u, .int c v, .int d w, .int e x, .int f y] := by
  cases h with
  | cons _ t h => cases h with
    | cons _ u h => cases h with
      | cons _ v h =>
        obtain ⟨w, x, y, rfl⟩ := ints3 h
        exact ⟨t, u, v, w, x, y, rfl⟩
theorem eqAll_ints {A : Around} {s : Shared} : ∀ {xs ys : List Value} {ns : List Int}, IntsAre xs ns → IntsAre ys ns → EqAll A s xs ys
  | _, _, _, .nil, .nil => .nil
  | _, _, _, .cons _ _ h, .cons _ _ h' => .cons (eq_ints rfl) (eqAll_ints h h')
/-- an order of addresses that the arithmetic does not look at -/
def Lt9 (a b : Addr) : Prop := @LT.lt Nat _ a b
theorem AllLt.head9 {a d : Addr} {o : Obj} {r : List (Addr × Obj)} (h : AllLt d ((a, o) :: r)) : Lt9 a d := h.1
theorem AllLt.rest9 {d : Addr} {x : Addr × Obj} {r : List (Addr × Obj)} (h : AllLt d (x :: r)) : AllLt d r := h.2
theorem ne_lt9 {a b : Addr} (h : Lt9 a b) : a ≠ b := Nat.ne_of_lt h
theorem ne_gt9 {a b : Addr} (h : Lt9 b a) : a ≠ b := Nat.ne_of_gt h
end Mine
end
section
open PySem PySem.W PySem.Spec PySem.Calls PyProof.Rows
namespace Mine
/-- the ends of the cuts, cut by cut -/
def endsOf : List Int → List Int
  | [] => []
  | c :: r => c :: (c + 256) :: endsOf r
theorem endsOf_append (l : List Int) (c : Int) : endsOf (l ++ [c]) = endsOf l ++ [c, c + 256] := by
  induction l with
  | nil => rfl
  | cons a r ih => show a :: (a + 256) :: endsOf (r ++ [c]) = _; rw [ih]; rfl
theorem ends_step {es l : List Int} (h : es.Perm (endsOf l)) (c : Int) (k k' : Nat) : (insI (insI es k c) k' (c + 256)).Perm (endsOf (l ++ [c])) := by
  rw [endsOf_append]
  refine (insI_perm _ _ _).trans (((insI_perm _ _ _).cons _).trans ?_)
  refine (((h.cons c).cons (c + 256)).trans ?_)
  have e : ((c + 256) :: c :: endsOf l).Perm (endsOf l ++ [c + 256, c]) := (List.perm_append_comm (l₁ := [c + 256, c]) (l₂ := endsOf l))
  exact e.trans ((List.Perm.swap _ _ _).append_left _)
def EndsJ (le Dc : Addr) (rest : List (Addr × Obj)) (cs : List Int) (i : Nat) (m : Str → Option Value) (nw : List (Addr × Obj)) : Prop :=
  ∃ vs es n, nw = (le, listOf (List.toArray vs) n) :: rest ∧ IntsAre vs es ∧ Srt es ∧ es.length = 2 * i ∧ es.Perm (endsOf (cs.take i)) ∧ m (S' "cuts") = some (.ref Dc)
section
variable {prog : Program} {w : World} {A : Around} {E : Value → Shared → Prop} {s s₁ s₂ : Shared} {h₀ : Heap} {L D Dc le : Addr} {m : Str → Option Value} {news rest : List (Addr × Obj)} {env : Env} {body : List Stmt} {px : Pos} {it : Value} {Q : Flow → Shared → Prop}
theorem ends_loop {its : Array Value} {cs : List Int} {kk : Nat} {x : Str} (S : SrcF prog w A h₀ L m ((le, listOf (List.toArray ([] : List Value)) 0) :: rest) (fun nw => (Dc, ({ cls := .type "list", data := .seq its kk } : Obj)) ∈ nw) its.size (fun i v => its[i]? = some v) s₁ it s₂)
    (hcs : IntsAre its.toList cs) (hm : (Dc, ({ cls := .type "list", data := .seq its kk } : Obj)) ∈ rest) (hc : m (S' "cuts") = some (.ref Dc))
    (turn : ∀ (i : Nat) c t vs es n m₁ I oI h tk (E' : Value → Shared → Prop), i < cs.length → cs[i]? = some c → IntsAre vs es → Srt es → es.length = 2 * i → es.Perm (endsOf (cs.take i)) → m₁ (S' "cuts") = some (.ref Dc) → (∀ p ∈ (le, listOf (List.toArray vs) n) :: rest, p.1 ≠ I) → (∀ p ∈ (le, listOf (List.toArray ([] : List Value)) 0) :: rest, p.1 < I) → Fr h₀ L h m₁ → News h₀ L h ((I, oI) :: (le, listOf (List.toArray vs) n) :: rest) →
      wpAny (model prog w) A (assign (.Name x px) env (.int c t)) (fun _ s' => wpAny (model prog w) A (execs body env) (ForPost h₀ L I oI { s₂ with heap := h, toks := tk } (EndsJ le Dc rest cs (i + 1)) Q) E' s') E' { s₂ with heap := h, toks := tk })
    (done : ∀ vs es n h tk m', IntsAre vs es → Srt es → es.Perm (endsOf cs) → m' (S' "cuts") = some (.ref Dc) → Fr h₀ L h m' → News h₀ L h ((le, listOf (List.toArray vs) n) :: rest) → Q .next { s₂ with heap := h, toks := tk }) :
    LoopOK prog w A L env (.Name x px) body Q s₁ it s₂ := by
  obtain ⟨hsz, hat⟩ := ints_at hcs
  refine ⟨h₀, m, _, _, _, _, EndsJ le Dc rest cs, S, ⟨_, [], _, rfl, .nil, List.Pairwise.nil, rfl, .refl _, hc⟩, fun i m' nw hJ => ?_, ?_, ?_⟩
  · obtain ⟨vs, es, n, rfl, _⟩ := hJ
    exact .tail _ hm
  · rintro i v m₁ nw I oI h tk E' hi hv ⟨vs, es, n, rfl, a1, a2, a3, a4, a5⟩ off hlt F N
    obtain ⟨y, t, hy, rfl⟩ := hat i v hv hi
    exact turn i y t vs es n m₁ I oI h tk E' (by omega) hy a1 a2 a3 a4 a5 off hlt F N
  · rintro h tk m' nw ⟨vs, es, n, rfl, a1, a2, a3, a4, a5⟩ F N
    rw [hsz, List.take_length] at a4
    exact done vs es n h tk m' a1 a2 a4 a5 F N
theorem EndsJ.end_ {I : Addr} {oI : Obj} {vs : List Value} {es cs : List Int} {n i k k' : Nat} {c : Int} {h' : Heap} {tk : Nat} {m' : Str → Option Value} {all : List (Addr × Obj)} {o' : Obj} (F : Fr h₀ L h' m') (N : News h₀ L h' all) (hs : ∀ p ∈ (I, oI) :: (le, listOf (List.toArray vs) n) :: rest, p ∈ all) (off : ∀ p ∈ (le, o') :: rest, p.1 ≠ I)
    (a1 : IntsAre vs (insI (insI es k c) k' (c + 256))) (a2 : Srt (insI (insI es k c) k' (c + 256))) (a3 : es.length = 2 * i) (a4 : es.Perm (endsOf (cs.take i))) (hc : cs[i]? = some c) (a5 : m' (S' "cuts") = some (.ref Dc)) :
    ForPost h₀ L I oI s₁ (EndsJ le Dc rest cs (i + 1)) Q .next { s₁ with heap := h', toks := tk } :=
  ForEnd.intro _ F N hs (off1 off) ⟨vs, _, n, rfl, a1, a2, by rw [insI_length, insI_length, a3]; omega, by rw [List.take_add_one, hc]; exact ends_step a4 c k k', a5⟩
end
theorem ends_lit {c0 c1 c2 : Int} (h0 : 0 ≤ c0 ∧ c0 < 85) (h1 : 85 ≤ c1 ∧ c1 < 170) (h2 : 170 ≤ c2 ∧ c2 < 255) {es : List Int} (hs : Srt es) (hp : es.Perm (endsOf [c0, c1, c2])) : es = [c0, c1, c2, c0 + 256, c1 + 256, c2 + 256] := by
  refine ends_eq h0 h1 h2 hs (hp.trans ?_)
  show ([c0, c0 + 256, c1, c1 + 256, c2, c2 + 256] : List Int).Perm _
  rw [List.perm_iff_count]
  intro a
  simp only [List.count_cons, List.count_nil]
  omega
end Mine
end
section
open PySem PySem.W PySem.Spec PySem.Calls PyProof.Rows
namespace Mine
abbrev tupO (x y : Value) (k : Nat) : Obj := { cls := .type "tuple", data := .seq #[x, y] k }
/-- the word of a hue: for each diameter its letter -/
def wordOf (c0 c1 c2 sp : Int) : List Nat := [if (sp - c0) / 256 % 2 = 1 then 65 else 97, if (sp - c1) / 256 % 2 = 1 then 66 else 98, if (sp - c2) / 256 % 2 = 1 then 67 else 99]
theorem wrd_tx {x y z : Int} : wrd x y z = Tx [if x = 1 then 65 else 97, if y = 1 then 66 else 98, if z = 1 then 67 else 99] := by
  unfold wrd
  split <;> split <;> split <;> decide
def WordsOK (c0 c1 c2 : Int) (xs : List Int) (i : Nat) (ts : List Addr) (tob : List (Addr × Obj)) : Prop :=
  ts.length = i ∧ ∀ j, j < i → ∃ T k t1 t2, ts[j]? = some T ∧ (T, tupO (.int ((xs.getD j 0).fmod 512) t1) (.str (Tx (wordOf c0 c1 c2 ((xs.getD j 0).fmod 512))) t2) k) ∈ tob
def SpotsJ (lw lh Dc aSp aX : Addr) (hd e1 e2 e3 e4 f1 f2 f3 : Addr × Obj) (c0 c1 c2 : Int) (xs : List Int) (i : Nat) (m : Str → Option Value) (nw : List (Addr × Obj)) : Prop :=
  ∃ ts nW vH hs nH osp ox tob, nw = hd :: (lw, listOf (List.toArray ((ts : List Addr).map Value.ref)) nW) :: (lh, listOf (List.toArray vH) nH) :: e1 :: e2 :: e3 :: e4 :: (aSp, osp) :: (aX, ox) :: f1 :: f2 :: f3 :: tob ∧ (∃ v, osp.data = Data.cell v) ∧ (∃ v, ox.data = Data.cell v) ∧ (∀ p ∈ tob, hd.1 < p.1) ∧
    IntsAre vH hs ∧ Srt hs ∧ hs.length = i ∧ hs.Perm ((xs.take i).map fun x => x.fmod 512) ∧ WordsOK c0 c1 c2 xs i ts tob ∧ m (S' "cuts") = some (.ref Dc) ∧ m (S' "hues") = some (.ref lh) ∧ m (S' "words") = some (.ref lw)
theorem fm_bounds (x : Int) : (0 ≤ x.fmod 512 ∧ x.fmod 512 < 512) ∧ (0 ≤ (x.fdiv 512).fmod 4 ∧ (x.fdiv 512).fmod 4 < 4) ∧ (0 ≤ (x.fdiv 2048).fmod 4 ∧ (x.fdiv 2048).fmod 4 < 4) := by
  rw [Int.fmod_eq_emod_of_nonneg _ (by decide), Int.fmod_eq_emod_of_nonneg _ (by decide), Int.fmod_eq_emod_of_nonneg _ (by decide)]; omega
theorem all_gt {news : List (Addr × Obj)} {d c : Nat} (h : ∀ p ∈ news, d < p.1) (hc : c ≤ d) : ∀ p ∈ news, p.1 ≠ c := fun p hp => Nat.ne_of_gt (Nat.lt_of_le_of_lt hc (h p hp))
theorem fst_lt {l l' : List (Addr × Obj)} {I : Addr} (h : ∀ p ∈ l, p.1 < I) (e : l'.map Prod.fst = l.map Prod.fst) : ∀ p ∈ l', p.1 < I := by
  intro p hp
  have hm : p.1 ∈ l.map Prod.fst := e ▸ List.mem_map_of_mem hp
  obtain ⟨q, hq, e'⟩ := List.mem_map.mp hm
  exact e' ▸ h q hq
theorem fst_ne {l l' : List (Addr × Obj)} {I : Addr} (e : l'.map Prod.fst = l.map Prod.fst) (h : ∀ p ∈ l, p.1 ≠ I) : ∀ p ∈ l', p.1 ≠ I := by
  intro p hp
  have hm : p.1 ∈ l.map Prod.fst := e ▸ List.mem_map_of_mem hp
  obtain ⟨q, hq, e'⟩ := List.mem_map.mp hm
  exact e' ▸ h q hq
theorem fst_ins {l l' r : List (Addr × Obj)} {I T : Addr} {o : Obj} (e : l'.map Prod.fst = l.map Prod.fst) (h : ∀ p ∈ l ++ r, p.1 ≠ I) (hT : I ≠ T) : ∀ p ∈ l' ++ (T, o) :: r, p.1 ≠ I := by
  intro p hp
  rcases List.mem_append.mp hp with hp | hp
  · exact fst_ne e (fun q hq => h q (List.mem_append_left _ hq)) p hp
  · rcases List.mem_cons.mp hp with rfl | hp
    · exact fun q => hT q.symm
    · exact h p (List.mem_append_right _ hp)
section
variable {prog : Program} {w : World} {A : Around} {E : Value → Shared → Prop} {s s₁ s₂ : Shared} {h₀ : Heap} {L Dc lw lh aSp aX : Addr} {hd e1 e2 e3 e4 f1 f2 f3 : Addr × Obj} {m : Str → Option Value} {env : Env} {body : List Stmt} {px : Pos} {it : Value} {Q : Flow → Shared → Prop} {c0 c1 c2 : Int}
theorem spots_loop {ws : List Value} {xs : List Int} {Dx : Addr} {kx : Nat} {osp ox : Obj} {x : Str} (hhd : hd = (Dx, ({ cls := .type "list", data := .seq ws.toArray kx } : Obj)))
    (S : SrcF prog w A h₀ L m (hd :: (lw, listOf (List.toArray (([] : List Addr).map Value.ref)) 0) :: (lh, listOf (List.toArray ([] : List Value)) 0) :: e1 :: e2 :: e3 :: e4 :: (aSp, osp) :: (aX, ox) :: f1 :: f2 :: f3 :: []) (fun nw => (Dx, ({ cls := .type "list", data := .seq ws.toArray kx } : Obj)) ∈ nw) ws.toArray.size (fun i v => ws.toArray[i]? = some v) s₁ it s₂)
    (hxs : IntsAre ws xs) (hsp : ∃ v, osp.data = Data.cell v) (hox : ∃ v, ox.data = Data.cell v) (hc : m (S' "cuts") = some (.ref Dc)) (hh : m (S' "hues") = some (.ref lh)) (hw : m (S' "words") = some (.ref lw))
    (turn : ∀ (i : Nat) (x' : Int) t ts nW vH hs nH osp ox tob vsp vx m₁ I oI h tk (E' : Value → Shared → Prop), i < xs.length → xs[i]? = some x' → osp.data = Data.cell vsp → ox.data = Data.cell vx → (∀ p ∈ tob, hd.1 < p.1) → IntsAre vH hs → Srt hs → hs.length = i → hs.Perm ((xs.take i).map fun x => x.fmod 512) → WordsOK c0 c1 c2 xs i ts tob →
      m₁ (S' "cuts") = some (.ref Dc) → m₁ (S' "hues") = some (.ref lh) → m₁ (S' "words") = some (.ref lw) → (∀ p ∈ hd :: (lw, listOf (List.toArray ((ts : List Addr).map Value.ref)) nW) :: (lh, listOf (List.toArray vH) nH) :: e1 :: e2 :: e3 :: e4 :: (aSp, osp) :: (aX, ox) :: f1 :: f2 :: f3 :: tob, p.1 ≠ I) → (∀ p ∈ hd :: (lw, listOf (List.toArray (([] : List Addr).map Value.ref)) 0) :: (lh, listOf (List.toArray ([] : List Value)) 0) :: e1 :: e2 :: e3 :: e4 :: (aSp, osp) :: (aX, ox) :: f1 :: f2 :: f3 :: [], p.1 < I) → Fr h₀ L h m₁ → News h₀ L h ((I, oI) :: hd :: (lw, listOf (List.toArray ((ts : List Addr).map Value.ref)) nW) :: (lh, listOf (List.toArray vH) nH) :: e1 :: e2 :: e3 :: e4 :: (aSp, osp) :: (aX, ox) :: f1 :: f2 :: f3 :: tob) →
      wpAny (model prog w) A (assign (.Name x px) env (.int x' t)) (fun _ s' => wpAny (model prog w) A (execs body env) (ForPost h₀ L I oI { s₂ with heap := h, toks := tk } (SpotsJ lw lh Dc aSp aX hd e1 e2 e3 e4 f1 f2 f3 c0 c1 c2 xs (i + 1)) Q) E' s') E' { s₂ with heap := h, toks := tk })
    (done : ∀ ts nW vH hs nH osp ox tob vsp vx h tk m', osp.data = Data.cell vsp → ox.data = Data.cell vx → (∀ p ∈ tob, hd.1 < p.1) → IntsAre vH hs → Srt hs → hs.length = xs.length → hs.Perm (xs.map fun x => x.fmod 512) → WordsOK c0 c1 c2 xs xs.length ts tob →
      m' (S' "cuts") = some (.ref Dc) → m' (S' "hues") = some (.ref lh) → m' (S' "words") = some (.ref lw) → Fr h₀ L h m' → News h₀ L h (hd :: (lw, listOf (List.toArray ((ts : List Addr).map Value.ref)) nW) :: (lh, listOf (List.toArray vH) nH) :: e1 :: e2 :: e3 :: e4 :: (aSp, osp) :: (aX, ox) :: f1 :: f2 :: f3 :: tob) → Q .next { s₂ with heap := h, toks := tk }) :
    LoopOK prog w A L env (.Name x px) body Q s₁ it s₂ := by
  obtain ⟨hsz, hat⟩ := ints_at (its := ws.toArray) (by simpa using hxs)
  refine ⟨h₀, m, _, _, _, _, SpotsJ lw lh Dc aSp aX hd e1 e2 e3 e4 f1 f2 f3 c0 c1 c2 xs, S, ⟨[], 0, [], [], 0, osp, ox, [], rfl, hsp, hox, (fun p hp => (nomatch hp)), .nil, List.Pairwise.nil, rfl, .refl _, ⟨rfl, fun j hj => absurd hj (Nat.not_lt_zero j)⟩, hc, hh, hw⟩, fun i m' nw hJ => ?_, ?_, ?_⟩
  · obtain ⟨ts, nW, vH, hs, nH, osp, ox, tob, rfl, _⟩ := hJ
    rw [hhd]; exact .head _
  · rintro i v m₁ nw I oI h tk E' hi hv ⟨ts, nW, vH, hs, nH, osp, ox, tob, rfl, ⟨v1, a1⟩, ⟨v2, a2⟩, a3, a4, a5, a6, a7, a8, a9, a10, a11⟩ off hlt F N
    obtain ⟨y, t, hy, rfl⟩ := hat i v hv hi
    exact turn i y t ts nW vH hs nH osp ox tob v1 v2 m₁ I oI h tk E' (by rw [← hsz]; exact hi) hy a1 a2 a3 a4 a5 a6 a7 a8 a9 a10 a11 off (fst_lt hlt rfl) F N
  · rintro h tk m' nw ⟨ts, nW, vH, hs, nH, osp, ox, tob, rfl, ⟨v1, a1⟩, ⟨v2, a2⟩, a3, a4, a5, a6, a7, a8, a9, a10, a11⟩ F N
    have hn : ws.toArray.size = xs.length := hsz
    rw [hn] at a6 a7 a8
    rw [List.take_length] at a7
    exact done ts nW vH hs nH osp ox tob v1 v2 h tk m' a1 a2 a3 a4 a5 a6 a7 a8 a9 a10 a11 F N
theorem my_append {D T : Addr} {news news' : List (Addr × Obj)} {ts : List Addr} {n : Nat} {Q : Value → Shared → Prop} (F : Fr h₀ L s.heap m) (N : News h₀ L s.heap news) (U : Upd D (listOf (List.toArray (ts.map Value.ref)) n) (listOf (List.toArray ((ts ++ [T]).map Value.ref)) (n + 1)) news news') (hz : ts.length < 1000)
    (h : ∀ h', Fr h₀ L h' m → News h₀ L h' news' → Q .none { s with heap := h' }) : wpAny (model prog w) A (call (.builtin "list.append") [.ref D, .ref T]) Q E s := by
  have e : List.toArray ((ts ++ [T]).map Value.ref) = (List.toArray (ts.map Value.ref)).push (.ref T) := by simp
  rw [e] at U
  exact append_K F N U h (by rw [sizeLine_eq]; simp; omega)
theorem words_step {xs : List Int} {i : Nat} {ts : List Addr} {tob : List (Addr × Obj)} {T : Addr} {k : Nat} {t1 t2 : Tok} {x' : Int} {y : Str} (h : WordsOK c0 c1 c2 xs i ts tob) (hx : xs[i]? = some x') (hy : y = Tx (wordOf c0 c1 c2 (x'.fmod 512))) : WordsOK c0 c1 c2 xs (i + 1) (ts ++ [T]) ((T, tupO (.int (x'.fmod 512) t1) (.str y t2) k) :: tob) := by
  refine ⟨by rw [List.length_append, h.1]; rfl, fun j hj => ?_⟩
  by_cases e : j < i
  · obtain ⟨T', k', u1, u2, a, b⟩ := h.2 j e
    refine ⟨T', k', u1, u2, ?_, .tail _ b⟩
    rw [List.getElem?_append_left (by rw [h.1]; exact e)]; exact a
  · obtain rfl : j = i := by omega
    have ex : xs.getD j 0 = x' := by rw [List.getD_eq_getElem?_getD, hx]; rfl
    refine ⟨T, k, t1, t2, ?_, ?_⟩
    · rw [List.getElem?_append_right (by rw [h.1]; exact Nat.le_refl _), h.1, Nat.sub_self]; rfl
    · rw [ex, ← hy]; exact .head _
theorem SpotsJ.end_ {I : Addr} {oI : Obj} {ts : List Addr} {nW nH i : Nat} {vH : List Value} {hs xs : List Int} {osp ox osp' ox' : Obj} {vsp vx : Option Value} {tob : List (Addr × Obj)} {T : Addr} {k k' nW' nH' : Nat} {t1 t2 : Tok} {x' : Int} {y : Str} {vH₀ : List Value} {h' : Heap} {tk : Nat} {m' : Str → Option Value} {all : List (Addr × Obj)} (F : Fr h₀ L h' m') (N : News h₀ L h' all)
    (hwM : (lw, listOf (List.toArray ((ts ++ [T]).map Value.ref)) nW') ∈ all) (hTM : (T, tupO (.int (x'.fmod 512) t1) (.str y t2) k) ∈ all) (hhM : (lh, listOf (List.toArray vH) nH') ∈ all) (hspM : (aSp, osp') ∈ all) (hxM : (aX, ox') ∈ all)
    (hI : (I, oI) ∈ all) (hhd : hd ∈ all) (he1 : e1 ∈ all) (he2 : e2 ∈ all) (he3 : e3 ∈ all) (he4 : e4 ∈ all) (hf1 : f1 ∈ all) (hf2 : f2 ∈ all) (hf3 : f3 ∈ all) (htob : ∀ p ∈ tob, p ∈ all) (off : ∀ p ∈ hd :: (lw, listOf (List.toArray ((ts : List Addr).map Value.ref)) nW) :: (lh, listOf (List.toArray vH₀) nH) :: e1 :: e2 :: e3 :: e4 :: (aSp, osp) :: (aX, ox) :: f1 :: f2 :: f3 :: tob, p.1 ≠ I)
    (hT : hd.1 < T ∧ I ≠ T) (a1 : osp'.data = Data.cell vsp) (a2 : ox'.data = Data.cell vx) (a3 : ∀ p ∈ tob, hd.1 < p.1) (a4 : IntsAre vH (insI hs k' (x'.fmod 512))) (a5 : Srt (insI hs k' (x'.fmod 512))) (a6 : hs.length = i) (a7 : hs.Perm ((xs.take i).map fun x => x.fmod 512)) (a8 : WordsOK c0 c1 c2 xs i ts tob) (hx : xs[i]? = some x') (hy : y = Tx (wordOf c0 c1 c2 (x'.fmod 512)))
    (a9 : m' (S' "cuts") = some (.ref Dc)) (a10 : m' (S' "hues") = some (.ref lh)) (a11 : m' (S' "words") = some (.ref lw)) :
    ForPost h₀ L I oI s₁ (SpotsJ lw lh Dc aSp aX hd e1 e2 e3 e4 f1 f2 f3 c0 c1 c2 xs (i + 1)) Q .next { s₁ with heap := h', toks := tk } := by
  refine ForEnd.intro _ F N ?_ ?_ ⟨ts ++ [T], nW', vH, _, nH', osp', ox', _, rfl, ⟨_, a1⟩, ⟨_, a2⟩, ?_, a4, a5, by rw [insI_length, a6], ?_, words_step (k := k) (t1 := t1) (t2 := t2) a8 hx hy, a9, a10, a11⟩
  · intro p hp
    simp only [List.mem_cons] at hp
    rcases hp with rfl | rfl | rfl | rfl | rfl | rfl | rfl | rfl | rfl | rfl | rfl | rfl | rfl | rfl | hp <;> first | assumption | exact htob p hp
  · exact fst_ins (l := hd :: (lw, listOf (List.toArray ((ts : List Addr).map Value.ref)) nW) :: (lh, listOf (List.toArray vH₀) nH) :: e1 :: e2 :: e3 :: e4 :: (aSp, osp) :: (aX, ox) :: f1 :: f2 :: [f3]) (l' := hd :: (lw, listOf (List.toArray ((ts ++ [T]).map Value.ref)) nW') :: (lh, listOf (List.toArray vH) nH') :: e1 :: e2 :: e3 :: e4 :: (aSp, osp') :: (aX, ox') :: f1 :: f2 :: [f3]) rfl off hT.2
  · intro p hp
    rcases List.mem_cons.mp hp with rfl | hp
    · exact hT.1
    · exact a3 p hp
  · rw [List.take_add_one, hx, List.map_append]
    exact (insI_perm _ _ _).trans ((a7.cons _).trans (List.perm_append_singleton _ _).symm)
end
end Mine
end
section
open PySem PySem.W PySem.Spec PySem.Calls PyProof.Rows
namespace Mine
/-- on which side of a diameter -/
def sd (c s : Int) : Int := (s - c) / 256 % 2
/-- how many diameters part two places -/
def dif (c0 c1 c2 e s : Int) : Int := (if sd c0 e = sd c0 s then 0 else 1) + (if sd c1 e = sd c1 s then 0 else 1) + (if sd c2 e = sd c2 s then 0 else 1)
/-- the six ends -/
def sixE (c0 c1 c2 : Int) : List Int := [c0, c1, c2, c0 + 256, c1 + 256, c2 + 256]
/-- places told by the ends that lie at or below them: all that follows is said of six bits -/
def bit (c s : Int) : Bool := decide (c ≤ s)
def monoB (b0 b1 b2 b3 b4 b5 : Bool) : Bool := (!b1 || b0) && (!b2 || b1) && (!b3 || b2) && (!b4 || b3) && (!b5 || b4)
def sdB (b c : Bool) : Int := if b && !c then 0 else 1
def nB (b : Bool) : Int := if b then 1 else 0
def difB (d0 d1 d2 d3 d4 d5 b0 b1 b2 b3 b4 b5 : Bool) : Int := (if sdB d0 d3 = sdB b0 b3 then 0 else 1) + (if sdB d1 d4 = sdB b1 b4 then 0 else 1) + (if sdB d2 d5 = sdB b2 b5 then 0 else 1)
def cntB (b0 b1 b2 b3 b4 b5 : Bool) : Int := nB b0 + nB b1 + nB b2 + nB b3 + nB b4 + nB b5
def eb (k j : Nat) : Bool := decide (j ≤ k)
def pickB (k : Nat) (b0 b1 b2 b3 b4 b5 : Bool) : Bool := match k with | 0 => b0 | 1 => b1 | 2 => b2 | 3 => b3 | 4 => b4 | 5 => b5 | _ => false
def aheadB (k : Nat) (b0 b1 b2 b3 b4 b5 : Bool) : Bool := match k with | 0 => b0 && !b3 | 1 => b1 && !b4 | 2 => b2 && !b5 | 3 => b3 || !b0 | 4 => b4 || !b1 | 5 => b5 || !b2 | _ => false
theorem end_tabB : ∀ k, k < 6 → ∀ b0 b1 b2 b3 b4 b5 : Bool, (!(monoB b0 b1 b2 b3 b4 b5 && pickB k b0 b1 b2 b3 b4 b5 && !pickB (k + 1) b0 b1 b2 b3 b4 b5) || (b0 == eb k 0 && b1 == eb k 1 && b2 == eb k 2 && b3 == eb k 3 && b4 == eb k 4 && b5 == eb k 5)) = true := by decide
theorem end_tab (k : Nat) (hk : k < 6) (b0 b1 b2 b3 b4 b5 : Bool) (hm : monoB b0 b1 b2 b3 b4 b5 = true) (hp : pickB k b0 b1 b2 b3 b4 b5 = true) (hq : pickB (k + 1) b0 b1 b2 b3 b4 b5 = false) : b0 = eb k 0 ∧ b1 = eb k 1 ∧ b2 = eb k 2 ∧ b3 = eb k 3 ∧ b4 = eb k 4 ∧ b5 = eb k 5 := by
  have h := end_tabB k hk b0 b1 b2 b3 b4 b5
  rw [hm, hp, hq] at h
  simpa [and_assoc] using h
theorem way_tab : ∀ k, k < 6 → ∀ b0 b1 b2 b3 b4 b5 : Bool, monoB b0 b1 b2 b3 b4 b5 = true → min ((cntB (eb k 0) (eb k 1) (eb k 2) (eb k 3) (eb k 4) (eb k 5) - cntB b0 b1 b2 b3 b4 b5).natAbs : Int) (6 - ((cntB (eb k 0) (eb k 1) (eb k 2) (eb k 3) (eb k 4) (eb k 5) - cntB b0 b1 b2 b3 b4 b5).natAbs : Int)) = difB (eb k 0) (eb k 1) (eb k 2) (eb k 3) (eb k 4) (eb k 5) b0 b1 b2 b3 b4 b5 := by decide
theorem step_tab : ∀ k, k < 6 → ∀ b0 b1 b2 b3 b4 b5 : Bool, monoB b0 b1 b2 b3 b4 b5 = true → difB (eb k 0) (eb k 1) (eb k 2) (eb k 3) (eb k 4) (eb k 5) b0 b1 b2 b3 b4 b5 - difB (eb ((k + 5) % 6) 0) (eb ((k + 5) % 6) 1) (eb ((k + 5) % 6) 2) (eb ((k + 5) % 6) 3) (eb ((k + 5) % 6) 4) (eb ((k + 5) % 6) 5) b0 b1 b2 b3 b4 b5 = 1 - 2 * nB (aheadB k b0 b1 b2 b3 b4 b5) := by decide
theorem sd_bit {c s : Int} (hc : 0 ≤ c ∧ c < 256) (hs : 0 ≤ s ∧ s < 512) : sd c s = sdB (bit c s) (bit (c + 256) s) := by
  unfold sd sdB bit
  by_cases a : c ≤ s <;> by_cases b : c + 256 ≤ s <;> simp only [a, b, decide_true, decide_false, Bool.not_true, Bool.not_false, Bool.and_true, Bool.and_false, if_true, Bool.false_eq_true, if_false] <;> omega
theorem ahead_lo {c s : Int} (hc : 0 ≤ c ∧ c < 256) (hs : 0 ≤ s ∧ s < 512) : ((s - c) % 512 < 256) = ((bit c s && !bit (c + 256) s) = true) := by
  unfold bit
  by_cases a : c ≤ s <;> by_cases b : c + 256 ≤ s <;> simp only [a, b, decide_true, decide_false, Bool.not_true, Bool.not_false, Bool.and_true, Bool.and_false, Bool.false_eq_true, eq_iff_iff, iff_true, iff_false] <;> omega
theorem ahead_hi {c s : Int} (hc : 0 ≤ c ∧ c < 256) (hs : 0 ≤ s ∧ s < 512) : ((s - (c + 256)) % 512 < 256) = ((bit (c + 256) s || !bit c s) = true) := by
  unfold bit
  by_cases a : c ≤ s <;> by_cases b : c + 256 ≤ s <;> simp only [a, b, decide_true, decide_false, Bool.not_true, Bool.not_false, Bool.or_true, Bool.or_false, Bool.false_eq_true, eq_iff_iff, iff_true, iff_false] <;> omega
theorem bit_mono {c d s : Int} (h : c ≤ d) : (!bit d s || bit c s) = true := by
  unfold bit
  by_cases a : d ≤ s
  · rw [decide_eq_true a, decide_eq_true (Int.le_trans h a)]; rfl
  · rw [decide_eq_false a]; rfl
theorem cR_bits (c0 c1 c2 s : Int) : (cR (sixE c0 c1 c2) s : Int) = cntB (bit c0 s) (bit c1 s) (bit c2 s) (bit (c0 + 256) s) (bit (c1 + 256) s) (bit (c2 + 256) s) := by
  show ((List.countP (fun y => bit y s) (sixE c0 c1 c2) : Nat) : Int) = _
  unfold sixE
  simp only [List.countP_cons, List.countP_nil]
  generalize bit c0 s = b0
  generalize bit c1 s = b1
  generalize bit c2 s = b2
  generalize bit (c0 + 256) s = b3
  generalize bit (c1 + 256) s = b4
  generalize bit (c2 + 256) s = b5
  revert b0 b1 b2 b3 b4 b5
  decide
theorem dif_bits {c0 c1 c2 e s : Int} (h0 : 0 ≤ c0 ∧ c0 < 256) (h1 : 0 ≤ c1 ∧ c1 < 256) (h2 : 0 ≤ c2 ∧ c2 < 256) (he : 0 ≤ e ∧ e < 512) (hs : 0 ≤ s ∧ s < 512) :
    dif c0 c1 c2 e s = difB (bit c0 e) (bit c1 e) (bit c2 e) (bit (c0 + 256) e) (bit (c1 + 256) e) (bit (c2 + 256) e) (bit c0 s) (bit c1 s) (bit c2 s) (bit (c0 + 256) s) (bit (c1 + 256) s) (bit (c2 + 256) s) := by
  unfold dif
  rw [sd_bit h0 he, sd_bit h1 he, sd_bit h2 he, sd_bit h0 hs, sd_bit h1 hs, sd_bit h2 hs]
  rfl
/-- the three cuts in their order -/
structure Cuts (c0 c1 c2 : Int) : Prop where
  b0 : 0 ≤ c0 ∧ c0 < 256
  b1 : 0 ≤ c1 ∧ c1 < 256
  b2 : 0 ≤ c2 ∧ c2 < 256
  l01 : c0 < c1
  l12 : c1 < c2
  l20 : c2 < c0 + 256
theorem cuts_ok {c0 c1 c2 : Int} (h0 : 0 ≤ c0 ∧ c0 < 85) (h1 : 85 ≤ c1 ∧ c1 < 170) (h2 : 170 ≤ c2 ∧ c2 < 255) : Cuts c0 c1 c2 := by
  constructor <;> omega
theorem Cuts.l34 {c0 c1 c2 : Int} (h : Cuts c0 c1 c2) : c0 + 256 < c1 + 256 := Int.add_lt_add_right h.l01 _
theorem Cuts.l45 {c0 c1 c2 : Int} (h : Cuts c0 c1 c2) : c1 + 256 < c2 + 256 := Int.add_lt_add_right h.l12 _
theorem Cuts.mono {c0 c1 c2 : Int} (h : Cuts c0 c1 c2) (s : Int) : monoB (bit c0 s) (bit c1 s) (bit c2 s) (bit (c0 + 256) s) (bit (c1 + 256) s) (bit (c2 + 256) s) = true := by
  unfold monoB
  rw [bit_mono (Int.le_of_lt h.l01), bit_mono (Int.le_of_lt h.l12), bit_mono (Int.le_of_lt h.l20), bit_mono (Int.le_of_lt h.l34), bit_mono (Int.le_of_lt h.l45)]
  rfl
theorem bit_self (c : Int) : bit c c = true := decide_eq_true (Int.le_refl c)
theorem bit_lt {c d : Int} (h : c < d) : bit d c = false := decide_eq_false (Int.not_le.mpr h)
theorem Cuts.bound {c0 c1 c2 : Int} (h : Cuts c0 c1 c2) {k : Nat} (hk : k < 6) : 0 ≤ (sixE c0 c1 c2).getD k 0 ∧ (sixE c0 c1 c2).getD k 0 < 512 := by
  have q : ∀ c : Int, 0 ≤ c ∧ c < 256 → (0 ≤ c ∧ c < 512) ∧ (0 ≤ c + 256 ∧ c + 256 < 512) := fun c h => by omega
  match k, hk with
  | 0, _ => exact (q _ h.b0).1
  | 1, _ => exact (q _ h.b1).1
  | 2, _ => exact (q _ h.b2).1
  | 3, _ => exact (q _ h.b0).2
  | 4, _ => exact (q _ h.b1).2
  | 5, _ => exact (q _ h.b2).2
theorem Cuts.ends {c0 c1 c2 : Int} (h : Cuts c0 c1 c2) {k : Nat} (hk : k < 6) :
    bit c0 ((sixE c0 c1 c2).getD k 0) = eb k 0 ∧ bit c1 ((sixE c0 c1 c2).getD k 0) = eb k 1 ∧ bit c2 ((sixE c0 c1 c2).getD k 0) = eb k 2 ∧ bit (c0 + 256) ((sixE c0 c1 c2).getD k 0) = eb k 3 ∧ bit (c1 + 256) ((sixE c0 c1 c2).getD k 0) = eb k 4 ∧ bit (c2 + 256) ((sixE c0 c1 c2).getD k 0) = eb k 5 := by
  refine end_tab k hk _ _ _ _ _ _ (h.mono _) ?_ ?_
  · match k, hk with
    | 0, _ | 1, _ | 2, _ | 3, _ | 4, _ | 5, _ => exact bit_self _
  · match k, hk with
    | 0, _ => exact bit_lt h.l01
    | 1, _ => exact bit_lt h.l12
    | 2, _ => exact bit_lt h.l20
    | 3, _ => exact bit_lt h.l34
    | 4, _ => exact bit_lt h.l45
    | 5, _ => rfl
theorem Cuts.dif_end {c0 c1 c2 s : Int} (h : Cuts c0 c1 c2) (hs : 0 ≤ s ∧ s < 512) {k : Nat} (hk : k < 6) :
    dif c0 c1 c2 ((sixE c0 c1 c2).getD k 0) s = difB (eb k 0) (eb k 1) (eb k 2) (eb k 3) (eb k 4) (eb k 5) (bit c0 s) (bit c1 s) (bit c2 s) (bit (c0 + 256) s) (bit (c1 + 256) s) (bit (c2 + 256) s) := by
  obtain ⟨e0, e1, e2, e3, e4, e5⟩ := h.ends hk
  rw [dif_bits h.b0 h.b1 h.b2 (h.bound hk) hs, e0, e1, e2, e3, e4, e5]
theorem six_get {c0 c1 c2 e : Int} (he : e ∈ sixE c0 c1 c2) : ∃ k, k < 6 ∧ (sixE c0 c1 c2).getD k 0 = e := by
  obtain ⟨k, hk, rfl⟩ := List.getElem_of_mem he
  exact ⟨k, hk, by rw [List.getD_eq_getElem?_getD, List.getElem?_eq_getElem hk]; rfl⟩
theorem nB_if {p : Prop} [Decidable p] {b : Bool} (h : p = (b = true)) : (if p then (1 : Int) else 0) = nB b := by
  unfold nB
  simp only [h]
section
variable {c0 c1 c2 : Int} (h0 : 0 ≤ c0 ∧ c0 < 85) (h1 : 85 ≤ c1 ∧ c1 < 170) (h2 : 170 ≤ c2 ∧ c2 < 255)
include h0 h1 h2
theorem six_bounds {e : Int} (he : e ∈ sixE c0 c1 c2) : 0 ≤ e ∧ e < 512 := by
  obtain ⟨k, hk, rfl⟩ := six_get he
  exact (cuts_ok h0 h1 h2).bound hk
/-- the shorter way round, counted in ends, is how many diameters part the two -/
theorem way_dif {e s : Int} (he : e ∈ sixE c0 c1 c2) (hs : 0 ≤ s ∧ s < 512) :
    min (((cR (sixE c0 c1 c2) e : Int) - (cR (sixE c0 c1 c2) s : Int)).natAbs : Int) (6 - (((cR (sixE c0 c1 c2) e : Int) - (cR (sixE c0 c1 c2) s : Int)).natAbs : Int)) = dif c0 c1 c2 e s := by
  have h := cuts_ok h0 h1 h2
  obtain ⟨k, hk, rfl⟩ := six_get he
  obtain ⟨e0, e1, e2, e3, e4, e5⟩ := h.ends hk
  rw [h.dif_end hs hk, cR_bits, cR_bits, e0, e1, e2, e3, e4, e5]
  exact way_tab k hk _ _ _ _ _ _ (h.mono s)
/-- from one end to the next: one spot's way -/
theorem dif_step {s : Int} (hs : 0 ≤ s ∧ s < 512) (k : Nat) (hk : k < 6) :
    dif c0 c1 c2 ((sixE c0 c1 c2).getD k 0) s - dif c0 c1 c2 ((sixE c0 c1 c2).getD ((k + 5) % 6) 0) s = 1 - 2 * (if (s - (sixE c0 c1 c2).getD k 0) % 512 < 256 then 1 else 0) := by
  have h := cuts_ok h0 h1 h2
  rw [h.dif_end hs hk, h.dif_end hs (Nat.mod_lt _ (by decide)), step_tab k hk _ _ _ _ _ _ (h.mono s)]
  congr 2
  match k, hk with
  | 0, _ => exact (nB_if (ahead_lo h.b0 hs)).symm
  | 1, _ => exact (nB_if (ahead_lo h.b1 hs)).symm
  | 2, _ => exact (nB_if (ahead_lo h.b2 hs)).symm
  | 3, _ => exact (nB_if (ahead_hi h.b0 hs)).symm
  | 4, _ => exact (nB_if (ahead_hi h.b1 hs)).symm
  | 5, _ => exact (nB_if (ahead_hi h.b2 hs)).symm
end
theorem ahead_one {e s : Int} (he : 0 ≤ e ∧ e < 512) (hs : 0 ≤ s ∧ s < 512) :
    ((if s < e + 256 then 1 else 0) - (if s < e then 1 else 0) + (if s < e - 256 then 1 else 0) : Int) = if (s - e) % 512 < 256 then 1 else 0 := by
  repeat' split
  all_goals omega
theorem cL_sum (l : List Int) (x : Int) : (cL l x : Int) = (l.map fun s => if s < x then (1 : Int) else 0).sum := by
  unfold cL
  induction l with
  | nil => rfl
  | cons a r ih =>
    rw [List.countP_cons, List.map_cons, List.sum_cons]
    by_cases h : a < x
    · simp only [h, decide_true, if_true]; omega
    · simp only [h, decide_false, if_false, Bool.false_eq_true]; omega
theorem cL_perm {a b : List Int} (h : a.Perm b) (x : Int) : cL a x = cL b x := h.countP_eq _
/-- how many lie in the half turn on -/
def aheadOf (l : List Int) (e : Int) : Int := (l.map fun s => if (s - e) % 512 < 256 then (1 : Int) else 0).sum
theorem ahead_cL (l : List Int) {e : Int} (he : 0 ≤ e ∧ e < 512) (hl : ∀ s ∈ l, 0 ≤ s ∧ s < 512) : (cL l (e + 256) : Int) - cL l e + cL l (e - 256) = aheadOf l e := by
  rw [cL_sum, cL_sum, cL_sum]
  unfold aheadOf
  induction l with
  | nil => rfl
  | cons a r ih =>
    have := ih fun s h => hl s (.tail _ h)
    have := ahead_one he (hl a (.head _))
    simp only [List.map_cons, List.sum_cons]
    omega
/-- the ways from one place to all -/
def totalOf (c0 c1 c2 : Int) (l : List Int) (e : Int) : Int := (l.map fun s => dif c0 c1 c2 e s).sum
theorem total_step {c0 c1 c2 : Int} (h0 : 0 ≤ c0 ∧ c0 < 85) (h1 : 85 ≤ c1 ∧ c1 < 170) (h2 : 170 ≤ c2 ∧ c2 < 255) (l : List Int) (hl : ∀ s ∈ l, 0 ≤ s ∧ s < 512) (k : Nat) (hk : k < 6) :
    totalOf c0 c1 c2 l ((sixE c0 c1 c2).getD k 0) - totalOf c0 c1 c2 l ((sixE c0 c1 c2).getD ((k + 5) % 6) 0) = (l.length : Int) - 2 * aheadOf l ((sixE c0 c1 c2).getD k 0) := by
  unfold totalOf aheadOf
  induction l with
  | nil => rfl
  | cons a r ih =>
    have := ih fun s h => hl s (.tail _ h)
    have := dif_step h0 h1 h2 (hl a (.head _)) k hk
    simp only [List.map_cons, List.sum_cons, List.length_cons]
    omega
theorem ahead_filter (l : List Int) (e : Int) : ((l.filter fun s => decide ((s - e) % 512 < 256)).length : Int) = aheadOf l e := by
  unfold aheadOf
  induction l with
  | nil => rfl
  | cons a r ih =>
    rw [List.filter_cons, List.map_cons, List.sum_cons]
    by_cases h : (a - e) % 512 < 256
    · simp only [h, decide_true, if_true, List.length_cons]; omega
    · simp only [h, decide_false, if_false, Bool.false_eq_true]; omega
/-- the cuts on unlike sides, as the law's list tells them -/
theorem dif_filter (c0 c1 c2 e s : Int) : ((([c0, c1, c2] : List Int).filter fun c => decide (sd c e ≠ sd c s)).length : Int) = dif c0 c1 c2 e s := by
  unfold dif
  simp only [List.filter_cons, List.filter_nil]
  by_cases a : sd c0 e = sd c0 s <;> by_cases b : sd c1 e = sd c1 s <;> by_cases c : sd c2 e = sd c2 s <;> simp [a, b, c]
end Mine
end
section
open PySem PySem.W PySem.Spec PySem.Calls PyProof.Rows
namespace Mine
theorem lower_tx {a : Nat} (h : a < 128) : Txt.lower (Tx [a]) = Tx [lo1 a] := by
  rw [lower_ascii (x := Tx [a]) (by intro c hc; simp [Tx] at hc; subst hc; exact h)]
  simp [Tx]
/-- what it costs to turn one letter into another -/
def sc (a b : Nat) : Int := if a = b then 0 else if lo1 a = lo1 b then 1 else 2
theorem scost_tx {a b : Nat} (ha : a < 128) (hb : b < 128) : scost (Tx [a]) (Tx [b]) = sc a b := by
  unfold scost sc
  rw [lower_tx ha, lower_tx hb, Tx_inj, Tx_inj]
  simp only [List.cons.injEq, and_true, decide_eq_true_eq]
/-- a letter, great or small -/
def lt (u : Nat) (p : Bool) : Nat := if p then u else u + 32
theorem lt_small : ∀ p : Bool, lt 65 p < 128 ∧ lt 66 p < 128 ∧ lt 67 p < 128 := by decide
theorem sc_same : ∀ p q : Bool, sc (lt 65 p) (lt 65 q) = (if p = q then 0 else 1) ∧ sc (lt 66 p) (lt 66 q) = (if p = q then 0 else 1) ∧ sc (lt 67 p) (lt 67 q) = (if p = q then 0 else 1) := by decide
theorem sc_apart : ∀ p q : Bool, sc (lt 65 p) (lt 66 q) = 2 ∧ sc (lt 65 p) (lt 67 q) = 2 ∧ sc (lt 66 p) (lt 65 q) = 2 ∧ sc (lt 66 p) (lt 67 q) = 2 ∧ sc (lt 67 p) (lt 65 q) = 2 ∧ sc (lt 67 p) (lt 66 q) = 2 := by decide
def gr (c s : Int) : Bool := decide (sd c s = 1)
theorem lt_if (c s : Int) (u : Nat) : (if (s - c) / 256 % 2 = 1 then u else u + 32) = lt u (gr c s) := by
  unfold lt gr sd
  by_cases h : (s - c) / 256 % 2 = 1 <;> simp only [h, if_true, if_false, decide_true, decide_false, Bool.false_eq_true]
theorem wordOf_lt (c0 c1 c2 s : Int) : wordOf c0 c1 c2 s = [lt 65 (gr c0 s), lt 66 (gr c1 s), lt 67 (gr c2 s)] := by
  rw [← lt_if, ← lt_if, ← lt_if]; rfl
theorem sd01 (c s : Int) : sd c s = 0 ∨ sd c s = 1 := by
  unfold sd
  generalize (s - c) / 256 = a
  omega
theorem gr_eq (c e s : Int) : (if gr c s = gr c e then (0 : Int) else 1) = if sd c e = sd c s then 0 else 1 := by
  unfold gr
  rcases sd01 c e with h | h <;> rcases sd01 c s with h' | h' <;> rw [h, h'] <;> rfl
theorem wcost_words (c0 c1 c2 e s : Int) : wcost (wordOf c0 c1 c2 e) (wordOf c0 c1 c2 s) = dif c0 c1 c2 e s := by
  rw [wordOf_lt, wordOf_lt]
  show (((0 : Int) + scost (Tx [lt 65 (gr c0 s)]) (Tx [lt 65 (gr c0 e)])) + scost (Tx [lt 66 (gr c1 s)]) (Tx [lt 66 (gr c1 e)])) + scost (Tx [lt 67 (gr c2 s)]) (Tx [lt 67 (gr c2 e)]) = _
  rw [scost_tx (lt_small _).1 (lt_small _).1, scost_tx (lt_small _).2.1 (lt_small _).2.1, scost_tx (lt_small _).2.2 (lt_small _).2.2, (sc_same _ _).1, (sc_same _ _).2.1, (sc_same _ _).2.2, gr_eq, gr_eq, gr_eq, Int.zero_add]
  rfl
theorem apart_words (c0 c1 c2 e s : Int) : Apart (wordOf c0 c1 c2 e) (wordOf c0 c1 c2 s) := by
  rw [wordOf_lt, wordOf_lt]
  intro i j hi hj hne
  match i, hi, j, hj with
  | 0, _, 0, _ | 1, _, 1, _ | 2, _, 2, _ => exact absurd rfl hne
  | 0, _, 1, _ => exact (scost_tx (lt_small _).1 (lt_small _).2.1).trans (sc_apart _ _).1
  | 0, _, 2, _ => exact (scost_tx (lt_small _).1 (lt_small _).2.2).trans (sc_apart _ _).2.1
  | 1, _, 0, _ => exact (scost_tx (lt_small _).2.1 (lt_small _).1).trans (sc_apart _ _).2.2.1
  | 1, _, 2, _ => exact (scost_tx (lt_small _).2.1 (lt_small _).2.2).trans (sc_apart _ _).2.2.2.1
  | 2, _, 0, _ => exact (scost_tx (lt_small _).2.2 (lt_small _).1).trans (sc_apart _ _).2.2.2.2.1
  | 2, _, 1, _ => exact (scost_tx (lt_small _).2.2 (lt_small _).2.1).trans (sc_apart _ _).2.2.2.2.2
theorem dif_le (c0 c1 c2 e s : Int) : dif c0 c1 c2 e s ≤ 3 := by
  unfold dif
  have h : ∀ p : Prop, ∀ _ : Decidable p, (if p then (0 : Int) else 1) ≤ 1 := fun p _ => by split <;> decide
  exact Int.add_le_add (Int.add_le_add (h _ _) (h _ _)) (h _ _)
end Mine
end
section
open PySem PySem.W PySem.Spec PySem.Calls PyProof.Rows
namespace Mine
theorem News.pick {h₀ : Heap} {L : Addr} {g : Heap} {all sel : List (Addr × Obj)} (N : News h₀ L g all) (hs : ∀ p ∈ sel, p ∈ all) : News h₀ L g sel := fun p hp => N p (hs p hp)
/-- what no turn changes goes behind one name -/
theorem News.hide4 {h₀ : Heap} {L : Addr} {g : Heap} {a1 a2 a3 a4 : Addr} {o1 o2 o3 o4 : Obj} {rest : List (Addr × Obj)} {P : Prop} (N : News h₀ L g ((a1, o1) :: (a2, o2) :: (a3, o3) :: (a4, o4) :: rest)) (h1 : ∀ p ∈ rest, p.1 ≠ a1) (h2 : ∀ p ∈ rest, p.1 ≠ a2) (h3 : ∀ p ∈ rest, p.1 ≠ a3) (h4 : ∀ p ∈ rest, p.1 ≠ a4)
    (k : ∀ R, R = rest → (∀ p ∈ R, p.1 ≠ a1) → (∀ p ∈ R, p.1 ≠ a2) → (∀ p ∈ R, p.1 ≠ a3) → (∀ p ∈ R, p.1 ≠ a4) → News h₀ L g ((a1, o1) :: (a2, o2) :: (a3, o3) :: (a4, o4) :: R) → P) : P := k rest rfl h1 h2 h3 h4 N
theorem mem_hide {R rest : List (Addr × Obj)} (hR : R = rest) {p : Addr × Obj} (h : p ∈ rest) : p ∈ R := hR ▸ h
theorem sub_hide {R rest T : List (Addr × Obj)} (hR : R = rest) (h : ∀ p ∈ T, p ∈ rest) : ∀ p ∈ T, p ∈ R := hR ▸ h
/-- between the turns of the loop over the ends -/
def SumsJ (lS aEnd aSp Dc lh lw : Addr) (R : List (Addr × Obj)) (c0 c1 c2 : Int) (sp : List Int) (i : Nat) (m : Str → Option Value) (nw : List (Addr × Obj)) : Prop :=
  ∃ vS ss nS oEnd oSp vEnd vSp, nw = (lS, listOf (List.toArray vS) nS) :: (aEnd, oEnd) :: (aSp, oSp) :: R ∧ oEnd.data = Data.cell vEnd ∧ oSp.data = Data.cell vSp ∧ IntsAre vS ss ∧ ss = ((sixE c0 c1 c2).take i).map (totalOf c0 c1 c2 sp) ∧
    m (S' "cuts") = some (.ref Dc) ∧ m (S' "hues") = some (.ref lh) ∧ m (S' "words") = some (.ref lw) ∧ m (S' "sums") = some (.ref lS)
/-- between the turns of the loop over the words -/
def WordsJ (aSp Dc lh lw lS : Addr) (R : List (Addr × Obj)) (c0 c1 c2 e : Int) (th : Tok) (sp : List Int) (j : Nat) (m : Str → Option Value) (nw : List (Addr × Obj)) : Prop :=
  ∃ oSp vSp tt, nw = (aSp, oSp) :: R ∧ oSp.data = Data.cell vSp ∧ m (S' "cuts") = some (.ref Dc) ∧ m (S' "hues") = some (.ref lh) ∧ m (S' "words") = some (.ref lw) ∧ m (S' "sums") = some (.ref lS) ∧
    m (S' "here") = some (.str (Tx (wordOf c0 c1 c2 e)) th) ∧ m (S' "total") = some (.int (totalOf c0 c1 c2 (sp.take j) e) tt)
theorem total_app (c0 c1 c2 : Int) (l : List Int) (s e : Int) : totalOf c0 c1 c2 (l ++ [s]) e = totalOf c0 c1 c2 l e + dif c0 c1 c2 e s := by
  unfold totalOf; simp
section
variable {prog : Program} {w : World} {A : Around} {E : Value → Shared → Prop} {s s₁ s₂ : Shared} {h₀ : Heap} {L Dc lw lh lS le aSp aEnd : Addr} {R : List (Addr × Obj)} {m : Str → Option Value} {env : Env} {body : List Stmt} {px : Pos} {it : Value} {Q : Flow → Shared → Prop} {c0 c1 c2 : Int} {sp : List Int}
theorem sums_loop {its : Array Value} {ke : Nat} {oEnd oSp : Obj} {vEnd vSp : Option Value} {x : Str}
    (S : SrcF prog w A h₀ L m ((lS, listOf (List.toArray ([] : List Value)) 0) :: (aEnd, oEnd) :: (aSp, oSp) :: R) (fun nw => (le, ({ cls := .type "list", data := .seq its ke } : Obj)) ∈ nw) its.size (fun i v => its[i]? = some v) s₁ it s₂)
    (hes : IntsAre its.toList (sixE c0 c1 c2)) (hm : (le, ({ cls := .type "list", data := .seq its ke } : Obj)) ∈ R) (ho1 : oEnd.data = Data.cell vEnd) (ho2 : oSp.data = Data.cell vSp)
    (hc : m (S' "cuts") = some (.ref Dc)) (hh : m (S' "hues") = some (.ref lh)) (hw : m (S' "words") = some (.ref lw)) (hs : m (S' "sums") = some (.ref lS))
    (turn : ∀ (i : Nat) e t vS ss nS oEnd' oSp' vEnd vSp m₁ I oI h tk (E' : Value → Shared → Prop), i < 6 → (sixE c0 c1 c2)[i]? = some e → e ∈ sixE c0 c1 c2 → oEnd'.data = Data.cell vEnd → oSp'.data = Data.cell vSp → IntsAre vS ss → ss.length = i → ss = ((sixE c0 c1 c2).take i).map (totalOf c0 c1 c2 sp) →
      m₁ (S' "cuts") = some (.ref Dc) → m₁ (S' "hues") = some (.ref lh) → m₁ (S' "words") = some (.ref lw) → m₁ (S' "sums") = some (.ref lS) → (∀ p ∈ (lS, listOf (List.toArray vS) nS) :: (aEnd, oEnd') :: (aSp, oSp') :: R, p.1 ≠ I) → (∀ p ∈ (lS, listOf (List.toArray ([] : List Value)) 0) :: (aEnd, oEnd) :: (aSp, oSp) :: R, p.1 < I) →
      Fr h₀ L h m₁ → News h₀ L h ((I, oI) :: (lS, listOf (List.toArray vS) nS) :: (aEnd, oEnd') :: (aSp, oSp') :: R) →
      wpAny (model prog w) A (assign (.Name x px) env (.int e t)) (fun _ s' => wpAny (model prog w) A (execs body env) (ForPost h₀ L I oI { s₂ with heap := h, toks := tk } (SumsJ lS aEnd aSp Dc lh lw R c0 c1 c2 sp (i + 1)) Q) E' s') E' { s₂ with heap := h, toks := tk })
    (done : ∀ vS ss nS oEnd oSp vEnd vSp h tk m', oEnd.data = Data.cell vEnd → oSp.data = Data.cell vSp → IntsAre vS ss → ss = (sixE c0 c1 c2).map (totalOf c0 c1 c2 sp) → m' (S' "cuts") = some (.ref Dc) → m' (S' "hues") = some (.ref lh) → m' (S' "words") = some (.ref lw) → m' (S' "sums") = some (.ref lS) →
      Fr h₀ L h m' → News h₀ L h ((lS, listOf (List.toArray vS) nS) :: (aEnd, oEnd) :: (aSp, oSp) :: R) → Q .next { s₂ with heap := h, toks := tk }) :
    LoopOK prog w A L env (.Name x px) body Q s₁ it s₂ := by
  obtain ⟨hsz, hat⟩ := ints_at hes
  have h6 : its.size = 6 := hsz
  refine ⟨h₀, m, _, _, _, _, SumsJ lS aEnd aSp Dc lh lw R c0 c1 c2 sp, S, ⟨[], [], 0, oEnd, oSp, vEnd, vSp, rfl, ho1, ho2, .nil, rfl, hc, hh, hw, hs⟩, fun i m' nw hJ => ?_, ?_, ?_⟩
  · obtain ⟨vS, ss, nS, o1, o2, v1, v2, rfl, _⟩ := hJ
    exact .tail _ (.tail _ (.tail _ hm))
  · rintro i v m₁ nw I oI h tk E' hi hv ⟨vS, ss, nS, o1, o2, v1, v2, rfl, a1, a2, a3, a4, a5, a6, a7, a8⟩ off hlt F N
    obtain ⟨y, t, hy, rfl⟩ := hat i v hv hi
    exact turn i y t vS ss nS o1 o2 v1 v2 m₁ I oI h tk E' (by omega) hy (List.mem_of_getElem? hy) a1 a2 a3 (by rw [a4, List.length_map, List.length_take]; show min i 6 = i; omega) a4 a5 a6 a7 a8 off hlt F N
  · rintro h tk m' nw ⟨vS, ss, nS, o1, o2, v1, v2, rfl, a1, a2, a3, a4, a5, a6, a7, a8⟩ F N
    rw [h6] at a4
    exact done vS ss nS o1 o2 v1 v2 h tk m' a1 a2 a3 a4 a5 a6 a7 a8 F N
theorem SumsJ.end_ {I : Addr} {oI oEnd oSp oEnd' oSp' : Obj} {vEnd vSp : Option Value} {vS vS₀ : List Value} {ss : List Int} {nS nS₀ i : Nat} {e tot : Int} {h' : Heap} {tk : Nat} {m' : Str → Option Value} {all : List (Addr × Obj)} (F : Fr h₀ L h' m') (N : News h₀ L h' all)
    (hS : (lS, listOf (List.toArray vS) nS) ∈ all) (hE : (aEnd, oEnd') ∈ all) (hSp : (aSp, oSp') ∈ all) (hI : (I, oI) ∈ all) (hR : ∀ p ∈ R, p ∈ all) (off : ∀ p ∈ (lS, listOf (List.toArray vS₀) nS₀) :: (aEnd, oEnd) :: (aSp, oSp) :: R, p.1 ≠ I)
    (a1 : oEnd'.data = Data.cell vEnd) (a2 : oSp'.data = Data.cell vSp) (hi : IntsAre vS (ss ++ [tot])) (hss : ss = ((sixE c0 c1 c2).take i).map (totalOf c0 c1 c2 sp)) (he : (sixE c0 c1 c2)[i]? = some e) (ht : tot = totalOf c0 c1 c2 sp e)
    (b1 : m' (S' "cuts") = some (.ref Dc)) (b2 : m' (S' "hues") = some (.ref lh)) (b3 : m' (S' "words") = some (.ref lw)) (b4 : m' (S' "sums") = some (.ref lS)) :
    ForPost h₀ L I oI s₁ (SumsJ lS aEnd aSp Dc lh lw R c0 c1 c2 sp (i + 1)) Q .next { s₁ with heap := h', toks := tk } := by
  refine ForEnd.intro _ F N ?_ ?_ ⟨vS, _, nS, oEnd', oSp', _, _, rfl, a1, a2, hi, by rw [hss, ht, List.take_add_one, he, List.map_append]; rfl, b1, b2, b3, b4⟩
  · intro p hp
    simp only [List.mem_cons] at hp
    rcases hp with rfl | rfl | rfl | rfl | hp <;> first | assumption | exact hR p hp
  · intro p hp
    simp only [List.mem_cons] at hp
    rcases hp with rfl | rfl | rfl | hp
    · exact (off (lS, _) (.head _) : _)
    · exact (off (aEnd, _) (.tail _ (.head _)) : _)
    · exact (off (aSp, _) (.tail _ (.tail _ (.head _))) : _)
    · exact off p (.tail _ (.tail _ (.tail _ hp)))
theorem words_loop {ts : List Addr} {kw : Nat} {oSp : Obj} {vSp : Option Value} {tob : List (Addr × Obj)} {xs : List Int} {e : Int} {th tt : Tok} {a b : Str} {pa pb tp : Pos} {kk : Nat}
    (S : SrcF prog w A h₀ L m ((aSp, oSp) :: R) (fun nw => (lw, ({ cls := .type "list", data := .seq (List.toArray (ts.map Value.ref)) kw } : Obj)) ∈ nw) (List.toArray (ts.map Value.ref)).size (fun i v => (List.toArray (ts.map Value.ref))[i]? = some v) s₁ it s₂)
    (hwo : WordsOK c0 c1 c2 xs xs.length ts tob) (hsp : sp = xs.map fun x => x.fmod 512) (hm : (lw, ({ cls := .type "list", data := .seq (List.toArray (ts.map Value.ref)) kw } : Obj)) ∈ R) (htob : ∀ p ∈ tob, p ∈ R) (ho : oSp.data = Data.cell vSp)
    (hc : m (S' "cuts") = some (.ref Dc)) (hh : m (S' "hues") = some (.ref lh)) (hw : m (S' "words") = some (.ref lw)) (hs : m (S' "sums") = some (.ref lS)) (hhe : m (S' "here") = some (.str (Tx (wordOf c0 c1 c2 e)) th)) (hto : m (S' "total") = some (.int 0 tt))
    (turn : ∀ (j : Nat) z T k t1 t2 oSp' vSp tt m₁ I oI h tk (E' : Value → Shared → Prop), j < sp.length → sp[j]? = some z → (0 ≤ z ∧ z < 512) → oSp'.data = Data.cell vSp → (T, tupO (.int z t1) (.str (Tx (wordOf c0 c1 c2 z)) t2) k) ∈ tob →
      m₁ (S' "cuts") = some (.ref Dc) → m₁ (S' "hues") = some (.ref lh) → m₁ (S' "words") = some (.ref lw) → m₁ (S' "sums") = some (.ref lS) → m₁ (S' "here") = some (.str (Tx (wordOf c0 c1 c2 e)) th) → m₁ (S' "total") = some (.int (totalOf c0 c1 c2 (sp.take j) e) tt) →
      (∀ p ∈ (aSp, oSp') :: R, p.1 ≠ I) → (∀ p ∈ (aSp, oSp) :: R, p.1 < I) → Fr h₀ L h m₁ → News h₀ L h ((I, oI) :: (T, tupO (.int z t1) (.str (Tx (wordOf c0 c1 c2 z)) t2) k) :: (aSp, oSp') :: R) →
      wpAny (model prog w) A (assign (.Tuple [.Name a pa, .Name b pb] kk tp) env (.ref T)) (fun _ s' => wpAny (model prog w) A (execs body env) (ForPost h₀ L I oI { s₂ with heap := h, toks := tk } (WordsJ aSp Dc lh lw lS R c0 c1 c2 e th sp (j + 1)) Q) E' s') E' { s₂ with heap := h, toks := tk })
    (done : ∀ oSp vSp tt h tk m', oSp.data = Data.cell vSp → m' (S' "cuts") = some (.ref Dc) → m' (S' "hues") = some (.ref lh) → m' (S' "words") = some (.ref lw) → m' (S' "sums") = some (.ref lS) → m' (S' "here") = some (.str (Tx (wordOf c0 c1 c2 e)) th) → m' (S' "total") = some (.int (totalOf c0 c1 c2 sp e) tt) →
      Fr h₀ L h m' → News h₀ L h ((aSp, oSp) :: R) → Q .next { s₂ with heap := h, toks := tk }) :
    LoopOK prog w A L env (.Tuple [.Name a pa, .Name b pb] kk tp) body Q s₁ it s₂ := by
  have hlen : (List.toArray (ts.map Value.ref)).size = sp.length := by simp [hwo.1, hsp]
  refine ⟨h₀, m, _, _, _, _, WordsJ aSp Dc lh lw lS R c0 c1 c2 e th sp, S, ⟨oSp, vSp, tt, rfl, ho, hc, hh, hw, hs, hhe, hto⟩, fun i m' nw hJ => ?_, ?_, ?_⟩
  · obtain ⟨o1, v1, t1, rfl, _⟩ := hJ
    exact .tail _ hm
  · rintro j v m₁ nw I oI h tk E' hj hv ⟨o1, v1, tt, rfl, a1, a2, a3, a4, a5, a6, a7⟩ off hlt F N
    have hj' : j < xs.length := by rw [hlen, hsp, List.length_map] at hj; exact hj
    obtain ⟨T, k, t1, t2, hT, hmem⟩ := hwo.2 j hj'
    have hvT : v = .ref T := by
      have e1 : (ts.map Value.ref)[j]? = some v := by simpa using hv
      rw [List.getElem?_map, hT] at e1
      exact (Option.some.inj e1).symm
    subst hvT
    have hz : sp[j]? = some ((xs.getD j 0).fmod 512) := by
      rw [hsp, List.getElem?_map, List.getD_eq_getElem?_getD, List.getElem?_eq_getElem hj']; rfl
    refine turn j _ T k t1 t2 o1 v1 tt m₁ I oI h tk E' (by rw [← hlen]; exact hj) hz (fm_bounds _).1 a1 hmem a2 a3 a4 a5 a6 a7 off hlt F (fun p hp => ?_)
    rcases List.mem_cons.mp hp with rfl | hp
    · exact N _ (.head _)
    · rcases List.mem_cons.mp hp with rfl | hp
      · exact N _ (.tail _ (.tail _ (htob _ hmem)))
      · exact N p (.tail _ hp)
  · rintro h tk m' nw ⟨o1, v1, tt, rfl, a1, a2, a3, a4, a5, a6, a7⟩ F N
    rw [hlen, List.take_length] at a7
    exact done o1 v1 tt h tk m' a1 a2 a3 a4 a5 a6 a7 F N
theorem WordsJ.end_ {I : Addr} {oI oSp oSp' : Obj} {vSp : Option Value} {j : Nat} {e z tot : Int} {th tt : Tok} {h' : Heap} {tk : Nat} {m' : Str → Option Value} {all : List (Addr × Obj)} (F : Fr h₀ L h' m') (N : News h₀ L h' all)
    (hSp : (aSp, oSp') ∈ all) (hI : (I, oI) ∈ all) (hR : ∀ p ∈ R, p ∈ all) (off : ∀ p ∈ (aSp, oSp) :: R, p.1 ≠ I) (a1 : oSp'.data = Data.cell vSp) (hz : sp[j]? = some z) (ht : tot = totalOf c0 c1 c2 (sp.take j) e + dif c0 c1 c2 e z)
    (b1 : m' (S' "cuts") = some (.ref Dc)) (b2 : m' (S' "hues") = some (.ref lh)) (b3 : m' (S' "words") = some (.ref lw)) (b4 : m' (S' "sums") = some (.ref lS)) (b5 : m' (S' "here") = some (.str (Tx (wordOf c0 c1 c2 e)) th)) (b6 : m' (S' "total") = some (.int tot tt)) :
    ForPost h₀ L I oI s₁ (WordsJ aSp Dc lh lw lS R c0 c1 c2 e th sp (j + 1)) Q .next { s₁ with heap := h', toks := tk } := by
  refine ForEnd.intro _ F N ?_ (off1 off) ⟨oSp', vSp, tt, rfl, a1, b1, b2, b3, b4, b5, by rw [b6, ht, List.take_add_one, hz]; show _ = some (Value.int (totalOf c0 c1 c2 (sp.take j ++ [z]) e) tt); rw [total_app]⟩
  intro p hp
  simp only [List.mem_cons] at hp
  rcases hp with rfl | rfl | hp
  · exact hI
  · exact hSp
  · exact hR p hp
end
end Mine
end
section
open PySem PySem.W PySem.Spec PySem.Calls PyProof.Rows
namespace Mine
section
variable {prog : Program} {w : World} {A : Around} {E : Value → Shared → Prop} {s s₁ s₂ : Shared} {h₀ : Heap} {L : Addr} {m : Str → Option Value} {news : List (Addr × Obj)}
/-- a pair of names as the target, over tuples that the ledger holds; K: what is known of the i-th -/
theorem CompOK.pairs {elt : Expr} {a b : Str} {pa pb tp : Pos} {kk : Nat} {ifs : List Expr} {scope : Scope} {cl : List (Str × Addr)} {env : Env} {Fin : Heap → Addr → (Str → Option Value) → List (Addr × Obj) → Addr → Shared → Prop} {it : Value} {n : Nat} {P : Nat → Value → Prop}
    (J : Nat → List Value → Prop) (K : Nat → Value → Value → Prop) (hh : A.handled = Option.none) (ha : scope.names.lookup a = some .local) (hb : scope.names.lookup b = some .local) (hab : b ≠ a) (hkind : scope.kind = .function) (S : SrcAt prog w A h₀ L m news n P s₁ it s₂) (hsz : n ≤ sizeLine) (j0 : J 0 [])
    (hP : ∀ i v, P i v → ∃ T x y k, v = .ref T ∧ (T, tupO x y k) ∈ news ∧ K i x y)
    (turn : ∀ i x y ys I oI C oC D m₂ h tk (E' : Value → Shared → Prop), i < n → K i x y → J i ys → LCg.NsObj oC m₂ → m₂ a = some x → m₂ b = some y → Fr h₀ L h m → News h₀ L h ((I, oI) :: (C, oC) :: (D, LCg.lst ys) :: news) →
      wpAny (model prog w) A (testsOf ifs (compEnvC scope cl C env)) (fun ok s' => if ok = true then wpAny (model prog w) A (eval elt (compEnvC scope cl C env)) (fun y => TurnEnd h₀ L m { s₂ with heap := h, toks := tk } ((I, oI) :: (C, oC) :: (D, LCg.lst ys) :: news) (J (i + 1) (ys ++ [y]))) E' s'
        else TurnEnd h₀ L m { s₂ with heap := h, toks := tk } ((I, oI) :: (C, oC) :: (D, LCg.lst ys) :: news) (J (i + 1) ys) s') E' { s₂ with heap := h, toks := tk })
    (hlen : ∀ i ys, J i ys → ys.length ≤ i)
    (fin : ∀ D ys, J n ys → (∀ p ∈ news, p.1 < D) → Fin h₀ L m ((D, listOf ys.toArray ys.length) :: news) D s₂) : CompOK prog w A L env elt (.Tuple [.Name a pa, .Name b pb] kk tp) ifs scope cl Fin s₁ it s₂ := by
  refine ⟨h₀, m, news, n, P, J, fun i _ m₂ => ∃ x y, K i x y ∧ m₂ a = some x ∧ m₂ b = some y, S, hsz, ?_, j0, ?_, hlen, fin⟩
  · intro i v C m' s' Q E' hP' hn N' hq
    obtain ⟨T, x, y, k, rfl, hm, hK⟩ := hP i v hP'
    refine kcp_assign hh ⟨_, (N' _ hm).1, rfl, k, rfl⟩ (lookup_relabel_local ha) (lookup_relabel_local hb) (by simp [compEnvC, relabel, hkind]) hn fun h' tk hn' hk => ?_
    exact hq h' tk _ hn' ⟨x, y, hK, by simp [Ne.symm hab], by simp⟩ hk
  · rintro i v ys I oI C oC D m₂ h tk E' hi hPv hJ hC ⟨x, y, hK, h1, h2⟩ F' N'
    exact turn i x y ys I oI C oC D m₂ h tk E' hi hK hJ hC h1 h2 F' N'
/-- pairs in, their first ints out where the test holds -/
theorem CompOK.pairFilter {elt ct : Expr} {a b : Str} {pa pb tp : Pos} {kk : Nat} {scope : Scope} {cl : List (Str × Addr)} {env : Env} {Fin : Heap → Addr → (Str → Option Value) → List (Addr × Obj) → Addr → Shared → Prop} {it : Value} {n : Nat} {P : Nat → Value → Prop}
    (xs : List Int) (p : Int → Bool) (hh : A.handled = Option.none) (ha : scope.names.lookup a = some .local) (hb : scope.names.lookup b = some .local) (hab : b ≠ a) (hkind : scope.kind = .function) (S : SrcAt prog w A h₀ L m news n P s₁ it s₂) (hn : n = xs.length) (hsz : xs.length ≤ sizeLine)
    (hP : ∀ i v, P i v → ∃ T x y k, v = .ref T ∧ (T, tupO x y k) ∈ news ∧ ∃ z t, x = .int z t ∧ xs[i]? = some z)
    (turn : ∀ z t ys I oI C oC D m₂ h tk (E' : Value → Shared → Prop), z ∈ xs → LCg.NsObj oC m₂ → m₂ a = some (.int z t) → Fr h₀ L h m → News h₀ L h ((I, oI) :: (C, oC) :: (D, LCg.lst ys) :: news) →
      wpAny (model prog w) A (isTrue ct (compEnvC scope cl C env) (eval ct (compEnvC scope cl C env))) (fun ok s' => if ok = true then wpAny (model prog w) A (eval elt (compEnvC scope cl C env)) (fun y => TurnEnd h₀ L m { s₂ with heap := h, toks := tk } ((I, oI) :: (C, oC) :: (D, LCg.lst ys) :: news) (p z = true ∧ ∃ t', y = .int z t')) E' s'
        else TurnEnd h₀ L m { s₂ with heap := h, toks := tk } ((I, oI) :: (C, oC) :: (D, LCg.lst ys) :: news) (p z = false) s') E' { s₂ with heap := h, toks := tk })
    (fin : ∀ D ys, IntsAre ys (xs.filter p) → (∀ p ∈ news, p.1 < D) → Fin h₀ L m ((D, listOf ys.toArray ys.length) :: news) D s₂) : CompOK prog w A L env elt (.Tuple [.Name a pa, .Name b pb] kk tp) [ct] scope cl Fin s₁ it s₂ := by
  subst hn
  refine CompOK.pairs (fun i ys => IntsAre ys ((xs.take i).filter p)) (fun i x _ => ∃ z t, x = .int z t ∧ xs[i]? = some z) hh ha hb hab hkind S hsz .nil hP ?_ ?_ ?_
  · rintro i x y ys I oI C oC D m₂ h tk E' hi ⟨z, t, rfl, hz⟩ hJ hC h1 h2 F N
    have e0 : xs.take (i + 1) = xs.take i ++ [z] := by rw [List.take_add_one, hz]; rfl
    refine wpAny_tests_one (wpAny_mono (turn z t ys I oI C oC D m₂ h tk E' (List.mem_of_getElem? hz) hC h1 F N) (fun ok s₃ h₃ => ?_) fun _ _ e => e)
    cases ok with
    | true =>
      simp only [if_true] at h₃ ⊢
      refine wpAny_mono h₃ (fun z s₄ h₄ => ?_) fun _ _ e => e
      obtain ⟨h', tk', rfl, F', N', hp, t', rfl⟩ := h₄
      refine ⟨h', tk', rfl, F', N', ?_⟩
      rw [e0, List.filter_append]
      simp only [List.filter_cons, hp, if_true, List.filter_nil]
      exact PyProof.Rows.IntsAre.append hJ (.cons _ _ .nil)
    | false =>
      simp only [Bool.false_eq_true, if_false] at h₃ ⊢
      obtain ⟨h', tk', rfl, F', N', hp⟩ := h₃
      refine ⟨h', tk', rfl, F', N', ?_⟩
      rw [e0, List.filter_append]
      simp only [List.filter_cons, hp, Bool.false_eq_true, if_false, List.filter_nil, List.append_nil]
      exact hJ
  · intro i ys hJ
    rw [hJ.length]
    exact Nat.le_trans (List.length_filter_le _ _) (by rw [List.length_take]; omega)
  · intro D ys hJ hlt
    rw [List.take_length] at hJ
    exact fin D ys hJ hlt
end
/-- between the turns of the loop over the ends' places -/
def TurnsJ (aK lh lw lS : Addr) (R : List (Addr × Obj)) (m : Str → Option Value) (nw : List (Addr × Obj)) : Prop :=
  ∃ oK vK, nw = (aK, oK) :: R ∧ oK.data = Data.cell vK ∧ m (S' "hues") = some (.ref lh) ∧ m (S' "words") = some (.ref lw) ∧ m (S' "sums") = some (.ref lS)
section
variable {prog : Program} {w : World} {A : Around} {E : Value → Shared → Prop} {s s₁ s₂ : Shared} {h₀ : Heap} {L lw lh lS aK : Addr} {R : List (Addr × Obj)} {m : Str → Option Value} {env : Env} {body : List Stmt} {px : Pos} {it : Value} {Q : Flow → Shared → Prop}
theorem turns_loop {n : Nat} {oK : Obj} {vK : Option Value} {x : Str}
    (S : SrcF prog w A h₀ L m ((aK, oK) :: R) (fun _ => True) n (fun i v => ∃ t, v = .int (0 + (i : Int)) t) s₁ it s₂)
    (ho : oK.data = Data.cell vK) (hh : m (S' "hues") = some (.ref lh)) (hw : m (S' "words") = some (.ref lw)) (hs : m (S' "sums") = some (.ref lS))
    (turn : ∀ (i : Nat) t oK' vK m₁ I oI h tk (E' : Value → Shared → Prop), i < n → oK'.data = Data.cell vK → m₁ (S' "hues") = some (.ref lh) → m₁ (S' "words") = some (.ref lw) → m₁ (S' "sums") = some (.ref lS) →
      (∀ p ∈ (aK, oK') :: R, p.1 ≠ I) → (∀ p ∈ (aK, oK) :: R, p.1 < I) → Fr h₀ L h m₁ → News h₀ L h ((I, oI) :: (aK, oK') :: R) →
      wpAny (model prog w) A (assign (.Name x px) env (.int (i : Int) t)) (fun _ s' => wpAny (model prog w) A (execs body env) (ForPost h₀ L I oI { s₂ with heap := h, toks := tk } (TurnsJ aK lh lw lS R) Q) E' s') E' { s₂ with heap := h, toks := tk })
    (done : ∀ oK vK h tk m', oK.data = Data.cell vK → m' (S' "hues") = some (.ref lh) → m' (S' "words") = some (.ref lw) → m' (S' "sums") = some (.ref lS) →
      Fr h₀ L h m' → News h₀ L h ((aK, oK) :: R) → Q .next { s₂ with heap := h, toks := tk }) :
    LoopOK prog w A L env (.Name x px) body Q s₁ it s₂ := by
  refine ⟨h₀, m, _, _, n, _, fun _ => TurnsJ aK lh lw lS R, S, ⟨oK, vK, rfl, ho, hh, hw, hs⟩, fun _ _ _ _ => trivial, ?_, ?_⟩
  · rintro i v m₁ nw I oI h tk E' hi ⟨t, rfl⟩ ⟨o1, v1, rfl, a1, a2, a3, a4⟩ off hlt F N
    rw [Int.zero_add]
    exact turn i t o1 v1 m₁ I oI h tk E' hi a1 a2 a3 a4 off hlt F N
  · rintro h tk m' nw ⟨o1, v1, rfl, a1, a2, a3, a4⟩ F N
    exact done o1 v1 h tk m' a1 a2 a3 a4 F N
theorem TurnsJ.end_ {I : Addr} {oI oK oK' : Obj} {vK : Option Value} {h' : Heap} {tk : Nat} {m' : Str → Option Value} {all : List (Addr × Obj)} (F : Fr h₀ L h' m') (N : News h₀ L h' all)
    (hK : (aK, oK') ∈ all) (hI : (I, oI) ∈ all) (hR : ∀ p ∈ R, p ∈ all) (off : ∀ p ∈ (aK, oK) :: R, p.1 ≠ I) (a1 : oK'.data = Data.cell vK)
    (b1 : m' (S' "hues") = some (.ref lh)) (b2 : m' (S' "words") = some (.ref lw)) (b3 : m' (S' "sums") = some (.ref lS)) :
    ForPost h₀ L I oI s₁ (TurnsJ aK lh lw lS R) Q .next { s₁ with heap := h', toks := tk } := by
  refine ForEnd.intro _ F N ?_ (off1 off) ⟨oK', vK, rfl, a1, b1, b2, b3⟩
  intro p hp
  simp only [List.mem_cons] at hp
  rcases hp with rfl | rfl | hp
  · exact hI
  · exact hK
  · exact hR p hp
end
section
variable {prog : Program} {w : World} {A : Around} {E : Value → Shared → Prop} {s : Shared} {h₀ : Heap} {L D : Addr} {news : List (Addr × Obj)} {vs : List Value} {ns : List Int} {c : Nat} {u : Tok} {value slice : PySem.Expr} {Q : Value → Shared → Prop}
theorem my_itemK {i : Nat} (N : News h₀ L s.heap news) (hm : (D, listOf vs.toArray c) ∈ news) (hi : IntsAre vs ns) (h1 : i < ns.length) (hz : ns.length ≤ 1000) (h : ∀ t, Q (.int (ns.getD i 0) t) s)
    (hs : subscripted slice false (.ref D) (.int (i : Int) u) = operate [.ref D, .int (i : Int) u] (getItem (.ref D) (.int (i : Int) u)) := by with_unfolding_all rfl) :
    wpAny (model prog w) A (subscriptTail value slice (.ref D) (.int (i : Int) u)) Q E s := by
  refine ksa_sub N hm hi (by omega) (by omega) (by omega) (fun t => ?_) hs
  rw [Int.toNat_natCast]
  exact h t
/-- the place ahead, round the row -/
theorem my_itemP {i : Nat} (N : News h₀ L s.heap news) (hm : (D, listOf vs.toArray c) ∈ news) (hi : IntsAre vs ns) (hl : ns.length = 6) (h1 : i < 6) (h : ∀ t, Q (.int (ns.getD ((i + 5) % 6) 0) t) s)
    (hs : subscripted slice false (.ref D) (.int ((i : Int) - 1) u) = operate [.ref D, .int ((i : Int) - 1) u] (getItem (.ref D) (.int ((i : Int) - 1) u)) := by with_unfolding_all rfl) :
    wpAny (model prog w) A (subscriptTail value slice (.ref D) (.int ((i : Int) - 1) u)) Q E s := by
  have hL : s.heap.IsList D vs.toArray := PySem.IsL.isList (n := c) (N _ hm).1
  have hlv : vs.length = 6 := by rw [hi.length, hl]
  have hat := ints_at (its := vs.toArray) (xs := ns) (by simpa using hi)
  obtain ⟨t, ht⟩ : ∃ t, vs.toArray[(i + 5) % 6]? = some (.int (ns.getD ((i + 5) % 6) 0) t) := by
    have hlt : (i + 5) % 6 < vs.toArray.size := by rw [List.size_toArray, hlv]; omega
    obtain ⟨y, t, hy, e⟩ := hat.2 _ _ (Array.getElem?_eq_getElem hlt) hlt
    refine ⟨t, ?_⟩
    rw [Array.getElem?_eq_getElem hlt, e, List.getD_eq_getElem?_getD, hy]; rfl
  by_cases h0 : i = 0
  · subst h0
    refine tail_any hL.typeIs slot_list_getitem.lookup (wpAny_getItem_list_neg hL (by decide) (by rw [List.size_toArray, hlv]; decide) (by decide) ?_ (h t)) hs
    rw [List.size_toArray, hlv]; exact ht
  · refine tail_any hL.typeIs slot_list_getitem.lookup (wpAny_getItem_list hL (by omega) (by omega) ?_ (h t)) hs
    rw [show ((i : Int) - 1).toNat = (i + 5) % 6 by omega]; exact ht
end
end Mine
end
section
open PySem PySem.W PySem.Spec PySem.Calls PyProof.Rows
namespace Mine
theorem getD_map0 {l : List Int} {f : Int → Int} {i : Nat} (h : i < l.length) : (l.map f).getD i 0 = f (l.getD i 0) := by
  rw [List.getD_eq_getElem?_getD, List.getD_eq_getElem?_getD, List.getElem?_map, List.getElem?_eq_getElem h]; rfl
theorem fm_all (xs : List Int) : ∀ s ∈ xs.map (fun x => x.fmod 512), 0 ≤ s ∧ s < 512 := by
  intro s h
  obtain ⟨x, _, rfl⟩ := List.mem_map.mp h
  exact (fm_bounds x).1
/-- the sums' step, as the law reckons it -/
theorem sums_eq {c0 c1 c2 : Int} (h0 : 0 ≤ c0 ∧ c0 < 85) (h1 : 85 ≤ c1 ∧ c1 < 170) (h2 : 170 ≤ c2 ∧ c2 < 255) {ss hs xs : List Int} (hss : ss = (sixE c0 c1 c2).map (totalOf c0 c1 c2 (xs.map fun x => x.fmod 512))) (hp : hs.Perm (xs.map fun x => x.fmod 512)) {i : Nat} (hi : i < 6) (he : 0 ≤ (sixE c0 c1 c2).getD i 0 ∧ (sixE c0 c1 c2).getD i 0 < 512) :
    ss.getD i 0 - ss.getD ((i + 5) % 6) 0 = (xs.length : Int) - 2 * ((cL hs ((sixE c0 c1 c2).getD ((i : Int)).toNat 0 + 256) : Int) - (cL hs ((sixE c0 c1 c2).getD ((i : Int)).toNat 0) : Int) + (cL hs ((sixE c0 c1 c2).getD ((i : Int)).toNat 0 - 256) : Int)) := by
  have hl : (sixE c0 c1 c2).length = 6 := rfl
  rw [Int.toNat_natCast, hss, getD_map0 (by omega), getD_map0 (by omega), total_step h0 h1 h2 _ (fm_all xs) i hi, cL_perm hp, cL_perm hp, cL_perm hp, ahead_cL _ he (fm_all xs), List.length_map]
theorem ahead_eq {hs xs : List Int} (hp : hs.Perm (xs.map fun x => x.fmod 512)) {e : Int} (he : 0 ≤ e ∧ e < 512) :
    ((((xs.map fun x => x.fmod 512).filter fun s => decide ((s - e) % 512 < 256)).length : Nat) : Int) = (cL hs (e + 256) : Int) - (cL hs e : Int) + (cL hs (e - 256) : Int) := by
  rw [cL_perm hp, cL_perm hp, cL_perm hp, ahead_cL _ he (fm_all xs), ahead_filter]
theorem words_at {c0 c1 c2 : Int} {xs : List Int} {ts : List Addr} {tob news : List (Addr × Obj)} (hwo : WordsOK c0 c1 c2 xs xs.length ts tob) (htob : ∀ p ∈ tob, p ∈ news) :
    ∀ (i : Nat) (v : Value), (List.toArray (ts.map Value.ref))[i]? = some v → ∃ T x y k, v = Value.ref T ∧ (T, tupO x y k) ∈ news ∧ ∃ z t, x = Value.int z t ∧ (xs.map fun x => x.fmod 512)[i]? = some z := by
  intro i v hv
  have e1 : (ts.map Value.ref)[i]? = some v := by simpa using hv
  have hi : i < xs.length := by
    have := (List.getElem?_eq_some_iff.mp e1).1
    rw [List.length_map, hwo.1] at this; exact this
  obtain ⟨T, k, t1, t2, hT, hmem⟩ := hwo.2 i hi
  rw [List.getElem?_map, hT] at e1
  refine ⟨T, _, _, k, (Option.some.inj e1).symm, htob _ hmem, _, t1, rfl, ?_⟩
  rw [List.getElem?_map, List.getD_eq_getElem?_getD, List.getElem?_eq_getElem hi]; rfl
theorem ints_push {vS : List Value} {ss : List Int} {x : Int} {t : Tok} (h : IntsAre vS ss) : IntsAre (vS.toArray.toList.concat (Value.int x t)) (ss ++ [x]) := by
  rw [List.concat_eq_append]
  exact PyProof.Rows.IntsAre.append h (.cons _ _ .nil)
theorem getD_memK {l : List Int} {i : Nat} (h : i < l.length) : l.getD i 0 ∈ l := by
  rw [List.getD_eq_getElem?_getD, List.getElem?_eq_getElem h]; exact List.getElem_mem h
theorem fl_t {e y z : Int} (h : ((e - y).fdiv 256).fmod 2 ≠ ((z - y).fdiv 256).fmod 2) : decide (sd y e ≠ sd y z) = true := by
  rw [fdm, fdm] at h; exact decide_eq_true h
theorem fl_f {e y z : Int} (h : ((e - y).fdiv 256).fmod 2 = ((z - y).fdiv 256).fmod 2) : decide (sd y e ≠ sd y z) = false := by
  rw [fdm, fdm] at h; exact decide_eq_false (fun q => q h)
theorem my_len {prog : Program} {w : World} {A : Around} {E : Value → Shared → Prop} {s : Shared} {h₀ : Heap} {L l : Addr} {news : List (Addr × Obj)} {us : List Value} {d : Int} {c : Nat} {Q : Value → Shared → Prop} (N : News h₀ L s.heap news) (hm : (l, listOf us.toArray c) ∈ news) (e : (us.length : Int) = d) (hfit : d < 2 ^ 63)
    (h : ∀ t tk, Q (.int d t) { s with toks := tk }) : wpAny (model prog w) A (call (.builtin "len") [.ref l]) Q E s := by
  subst e
  exact kst_len N hm rfl hfit (h _ _)
theorem way_no {c0 c1 c2 e z : Int} {P : Prop} (h0 : 0 ≤ c0 ∧ c0 < 85) (h1 : 85 ≤ c1 ∧ c1 < 170) (h2 : 170 ≤ c2 ∧ c2 < 255) (he : e ∈ sixE c0 c1 c2) (hs : 0 ≤ z ∧ z < 512)
    (h : (if (6 - if (cR [c0, c1, c2, c0 + 256, c1 + 256, c2 + 256] e : Int) - (cR [c0, c1, c2, c0 + 256, c1 + 256, c2 + 256] z : Int) < 0 then -((cR [c0, c1, c2, c0 + 256, c1 + 256, c2 + 256] e : Int) - (cR [c0, c1, c2, c0 + 256, c1 + 256, c2 + 256] z : Int)) else (cR [c0, c1, c2, c0 + 256, c1 + 256, c2 + 256] e : Int) - (cR [c0, c1, c2, c0 + 256, c1 + 256, c2 + 256] z : Int)) < if (cR [c0, c1, c2, c0 + 256, c1 + 256, c2 + 256] e : Int) - (cR [c0, c1, c2, c0 + 256, c1 + 256, c2 + 256] z : Int) < 0 then -((cR [c0, c1, c2, c0 + 256, c1 + 256, c2 + 256] e : Int) - (cR [c0, c1, c2, c0 + 256, c1 + 256, c2 + 256] z : Int)) else (cR [c0, c1, c2, c0 + 256, c1 + 256, c2 + 256] e : Int) - (cR [c0, c1, c2, c0 + 256, c1 + 256, c2 + 256] z : Int) then 6 - if (cR [c0, c1, c2, c0 + 256, c1 + 256, c2 + 256] e : Int) - (cR [c0, c1, c2, c0 + 256, c1 + 256, c2 + 256] z : Int) < 0 then -((cR [c0, c1, c2, c0 + 256, c1 + 256, c2 + 256] e : Int) - (cR [c0, c1, c2, c0 + 256, c1 + 256, c2 + 256] z : Int)) else (cR [c0, c1, c2, c0 + 256, c1 + 256, c2 + 256] e : Int) - (cR [c0, c1, c2, c0 + 256, c1 + 256, c2 + 256] z : Int) else if (cR [c0, c1, c2, c0 + 256, c1 + 256, c2 + 256] e : Int) - (cR [c0, c1, c2, c0 + 256, c1 + 256, c2 + 256] z : Int) < 0 then -((cR [c0, c1, c2, c0 + 256, c1 + 256, c2 + 256] e : Int) - (cR [c0, c1, c2, c0 + 256, c1 + 256, c2 + 256] z : Int)) else (cR [c0, c1, c2, c0 + 256, c1 + 256, c2 + 256] e : Int) - (cR [c0, c1, c2, c0 + 256, c1 + 256, c2 + 256] z : Int)) ≠ dif c0 c1 c2 e z) : P := by
  have q := way_dif h0 h1 h2 he hs
  unfold sixE at q
  revert h q
  generalize (cR [c0, c1, c2, c0 + 256, c1 + 256, c2 + 256] e : Int) = a
  generalize (cR [c0, c1, c2, c0 + 256, c1 + 256, c2 + 256] z : Int) = b
  generalize dif c0 c1 c2 e z = d
  intro h q
  exfalso
  apply h
  split <;> split at * <;> omega
end Mine
end
namespace Mine
theorem fk_t {z e : Int} (h : (z - e).fmod 512 < 256) : decide ((z - e) % 512 < 256) = true := by
  rw [Int.fmod_eq_emod_of_nonneg _ (by decide)] at h; exact decide_eq_true h
theorem fk_f {z e : Int} (h : ¬ (z - e).fmod 512 < 256) : decide ((z - e) % 512 < 256) = false := by
  rw [Int.fmod_eq_emod_of_nonneg _ (by decide)] at h; exact decide_eq_false h



end Mine
local macro_rules | `(tactic| k_all) => `(tactic| first | assumption | exact all_ne (by assumption) (by omega) | fail)
local macro_rules | `(tactic| k_all) => `(tactic| first | assumption | exact all_gt (by assumption) (by omega) | exact all_ne (by assumption) (by omega))

set_option maxRecDepth 100000 in
set_option maxHeartbeats 400000000 in
theorem Mine.law_all (_ : True) : PySem.Challenge.rw_ty0036_01.Holds := by
  k_with_none
  w_top off
  k_with "tb_start" => (k_dflt (first
  | (refine' code_def ?zqk1 ?zqk2 ?zqk3 ?zqk4 ?zqk5 ?zqkA ?zqkF ?zqkK ?zqk6 ?zqk7 ?zqk8 ?zqk9 ?zqkB ?_ ?zqc2 ?zqc3 ?zqc4 ?zqc5; (case zqkA => exact rfl); (case zqkF => exact rfl); (case zqkK => first | assumption | exact rfl); (case zqk1 => k_asm); (case zqk2 => k_asm); (case zqk3 => k_asm); (case zqk4 => k_asm); (case zqk5 => k_asm); (case zqk6 => k_is); (case zqk7 => k_is); (case zqk8 => ktr_room); (case zqk9 => first | exact BindsTo.of_eq rfl | (refine' kp_binds ?zqkx ?zqke; (case zqkx => k_in); (case zqke => exact fun _ => rfl))); (case zqc5 => decide); (case zqkB => exact locs rfl); (case zqc2 => exact rfl); (case zqc3 => exact rfl); (case zqc4 => exact rfl); k_whole; intro g' L' h' FG' F' N' B' X' T'; (try dsimp only); (try k_lift B'); (try k_fold))
  | (refine' code_defC ?zqk1 ?zqk2 ?zqk3 ?zqk4 ?zqk5 ?zqkA ?zqkF ?zqkK ?zqk6 ?zqk7 ?zqk8 ?zqk9 ?zqkB ?zqkD ?_ ?zqc2 ?zqc3 ?zqc4; (case zqkA => exact rfl); (case zqkF => exact rfl); (case zqkK => first | assumption | exact rfl); (case zqk1 => k_asm); (case zqk2 => k_asm); (case zqk3 => k_asm); (case zqk4 => k_asm); (case zqk5 => k_asm); (case zqk6 => k_is); (case zqk7 => k_is); (case zqk8 => ktr_room); (case zqk9 => first | exact BindsTo.of_eq rfl | (refine' kp_binds ?zqkx ?zqke; (case zqkx => k_in); (case zqke => exact fun _ => rfl))); (case zqkB => exact rfl); (case zqkD => decide +kernel); (case zqc2 => exact rfl); (case zqc3 => exact rfl); (case zqc4 => exact rfl); k_whole; intro g' L' h' tk' cells' FG' F' N' Y' B' X' T' l1; (try k_lt l1); k_cells Y'; (try simp only [List.cons_append, List.nil_append] at N'); (try dsimp only); (try k_lift B'); (try k_fold))))
  k_with "call ref" => ((k_here; refine stop_intro ?_))
  k_with "call ref" => ((k_here; (first | (with_reducible show wpAny _ _ (call (Value.ref 21) _) _ _ _) | (with_reducible show wpAny _ _ (call (Value.ref 28) _) _ _ _)); refine wpAny_call ?_; k_extra "tb_start"))
  k_with "exec Assign cons ListComp" => ((k_here; k_dflt (refine' comp_a ?zqe1 ?zqe2 ?zqe3 ?zqe4 ?zqe5 ?zqe6 ?zqe7 ?zqe8 ?zqe9 ?_; (case zqe1 => exact rfl); (case zqe2 => with_unfolding_all rfl); (case zqe3 => with_unfolding_all rfl); (case zqe4 => decide); (case zqe5 => rfl); (case zqe6 => decide); (case zqe7 => intro _; rfl); (case zqe8 => rfl); (case zqe9 => rfl))))
  k_with "eval ListComp" => ((k_here; k_dflt (refine' comp_e ?zqe0 ?zqe1 ?zqe2 ?zqe3 ?zqe4 ?zqe5 ?_; (case zqe0 => exact rfl); (case zqe1 => with_unfolding_all rfl); (case zqe2 => decide); (case zqe3 => rfl); (case zqe4 => decide); (case zqe5 => intro _; rfl))))
  k_with "TurnEnd" => ((k_dflt (refine' TurnEnd.intro ?zqF ?zqN ?zqs ?zqj; (case zqF => k_asm); (case zqN => k_asm); (case zqs => (intro p9 hp9; k_ownIn)); (case zqj => first | exact ⟨_, rfl⟩ | exact rfl | trivial))))
  k_with "TurnEnd" => ((k_dflt (refine' TurnEnd.intro ?zqF ?zqN ?zqs ?zqj; (case zqF => k_asm); (case zqN => k_asm); (case zqs => (intro p9 hp9; k_ownIn)); (case zqj => first | exact ⟨_, rfl⟩ | exact rfl | trivial | exact ktn_int (by omega)))))
  k_with "loadName" => ((k_here; k_dflt (refine' ldn ?zqk1 ?zqk2 ?_; (case zqk1 => k_asm); (case zqk2 => (repeat (first | assumption | exact if_pos rfl | refine' (if_neg (by decide)).trans ?_))))))
  k_with "eval Name" => ((k_here; name_kind "local"; k_dflt (refine' ld ?zqk1 ?zqk2 ?_; (case zqk1 => k_asm); (case zqk2 => (repeat (first | assumption | exact if_pos rfl | refine' (if_neg (by decide)).trans ?_))); k_whole)))
  k_with "call ref" => ((k_here; (with_reducible show wpAny _ _ (call (Value.ref 62) [Value.ref _, Value.int _ _]) _ _ _); k_dflt (refine' Call1.use (insL_at _ _ _ _ _ _ _ _ _ ?zqU ?zqhi ?zqhn ?zqhs) ?zqk1 ?zqk2 ?zqk3 ?zqk4 ?zqk5 ?zqkK ?zqkd ?zqku ?_; (case zqk1 => k_asm); (case zqk2 => k_asm); (case zqk3 => k_asm); (case zqk4 => k_asm); (case zqk5 => k_asm); (case zqkK => first | exact rfl | assumption); (case zqU => k_upd); (case zqhi => assumption); (case zqhn => omega); (case zqhs => assumption); (case zqkd => ktr_room); (case zqku => ktr_units); intro v9 news9 h9 tk9 hR9 F9 N9; obtain ⟨e9, e9', hi9, hs9, hl9⟩ := hR9; subst e9; subst e9'; (try dsimp only); (try k_fold))))
  k_with "call ref" => ((k_here; (with_reducible show wpAny _ _ (call (Value.ref 44) [Value.ref _, Value.int _ _]) _ _ _); k_dflt (refine' Call1.use (insR_at _ _ _ _ _ _ _ _ _ ?zqU ?zqhi ?zqhn ?zqhs) ?zqk1 ?zqk2 ?zqk3 ?zqk4 ?zqk5 ?zqkK ?zqkd ?zqku ?_; (case zqk1 => k_asm); (case zqk2 => k_asm); (case zqk3 => k_asm); (case zqk4 => k_asm); (case zqk5 => k_asm); (case zqkK => first | exact rfl | assumption); (case zqhi => assumption); (case zqhn => omega); (case zqhs => assumption); (case zqU => k_upd); (case zqkd => ktr_room); (case zqku => ktr_units); intro v9 news9 h9 tk9 hR9 F9 N9; obtain ⟨e9, e9', hi9, hs9, hl9⟩ := hR9; subst e9; subst e9'; (try dsimp only); (try k_fold))))
  k_with "call ref" => ((k_here; (with_reducible show wpAny _ _ (call (Value.ref 125) [Value.int _ _, Value.int _ _, Value.int _ _, Value.int _ _]) _ _ _); k_dflt (refine' Call1.use (half_call _ _ _ _ _ _ _ _ _ _ ?zqh1 ?zqh2 ?zqh3 ?zqh4) ?zqk1 ?zqk2 ?zqk3 ?zqk4 ?zqk5 ?zqkK ?zqkd ?zqku ?_; (case zqk1 => k_asm); (case zqk2 => k_asm); (case zqk3 => k_asm); (case zqk4 => k_asm); (case zqk5 => k_asm); (case zqkK => first | exact rfl | assumption); (case zqh1 => omega); (case zqh2 => omega); (case zqh3 => omega); (case zqh4 => omega); (case zqkd => ktr_room); (case zqku => ktr_units); intro v9 news9 h9 tk9 hR9 F9 N9; obtain ⟨⟨t9, e9⟩, e9'⟩ := hR9; subst e9; subst e9'; (try dsimp only); (try k_fold))))
  k_with "call ref" => ((k_here; (with_reducible show wpAny _ _ (call (Value.ref 113) [Value.ref _]) _ _ _); k_dflt (refine' Call1.use (word_call _ _ _ _ _ _ _ _ _ _ ?zqhl ?zqhx ?zqhy ?zqhz) ?zqk1 ?zqk2 ?zqk3 ?zqk4 ?zqk5 ?zqkK ?zqkd ?zqku ?_; (case zqk1 => k_asm); (case zqk2 => k_asm); (case zqk3 => k_asm); (case zqk4 => k_asm); (case zqk5 => k_asm); (case zqkK => first | exact rfl | assumption); (case zqhl => k_mem); (case zqhx => omega); (case zqhy => omega); (case zqhz => omega); (case zqkd => ktr_room); (case zqku => ktr_units); intro v9 news9 h9 tk9 hR9 F9 N9; obtain ⟨⟨t9, e9⟩, e9'⟩ := hR9; subst e9; subst e9'; (try dsimp only); (try k_fold))))
  k_with "call builtin:list.append" => ((k_here; (with_reducible show wpAny _ _ (call (Value.builtin _) [Value.ref _, Value.ref _]) _ _ _); k_dflt (refine' my_append ?zqF ?zqN ?zqU ?zqz ?_; (case zqF => k_asm); (case zqN => k_asm); (case zqU => k_upd); (case zqz => omega)); intro h9 F9 N9))
  k_with "compareOp NotEq ref ref" => ((k_here; (with_reducible show wpAny _ _ (compareOp CmpOp.NotEq (Value.ref _) (Value.ref _)) _ _ _); k_dflt (refine' ne_lists ?zql ?zqb ?zqu ?zqe ?_; (case zql => exact ⟨_, News.get (by k_asm) (by k_mem), rfl, _, rfl⟩); (case zqb => exact ⟨_, News.get (by k_asm) (by k_mem), rfl, _, rfl⟩); (case zqu => ktr_units); (case zqe => exact .cons (eq_ints (fdm _).symm) (.cons (eq_ints (fdm _).symm) (.cons (eq_ints (fdm _).symm) .nil))))))
  k_with "compareOp NotEq ref ref" => ((k_here; (with_reducible show wpAny _ _ (compareOp CmpOp.NotEq (Value.ref _) (Value.ref _)) _ _ _); k_dflt (refine' ne_lists ?zql ?zqb ?zqu ?zqe ?_; (case zql => exact ⟨_, News.get (by k_asm) (by k_mem), rfl, _, rfl⟩); (case zqb => exact ⟨_, News.get (by k_asm) (by k_mem), rfl, _, rfl⟩); (case zqu => ktr_units); (case zqe => exact .cons (eq_ints rfl) (.cons (eq_ints rfl) (.cons (eq_ints rfl) (.cons (eq_ints rfl) (.cons (eq_ints rfl) (.cons (eq_ints rfl) .nil)))))))))
  k_with "call ref" => ((k_here; (with_reducible show wpAny _ _ (call (Value.ref 99) [Value.str (Tx _) _, Value.str (Tx _) _, Value.int _ _]) _ _ _); k_dflt (refine' Call1.use (lev_call _ _ _ _ _ _ _ _ ?zqhl ?zqhz ?zqha ?zqhm) ?zqk1 ?zqk2 ?zqk3 ?zqk4 ?zqk5 ?zqkK ?zqkd ?zqku ?_; (case zqk1 => k_asm); (case zqk2 => k_asm); (case zqk3 => k_asm); (case zqk4 => k_asm); (case zqk5 => k_asm); (case zqkK => first | exact rfl | assumption); (case zqhl => exact rfl); (case zqhz => (show 3 ≤ 40; decide)); (case zqha => exact apart_words _ _ _ _ _); (case zqhm => (rw [wcost_words]; exact dif_le _ _ _ _ _)); (case zqkd => ktr_room); (case zqku => ktr_units); intro v9 news9 h9 tk9 hR9 F9 N9; obtain ⟨⟨t9, e9⟩, e9'⟩ := hR9; subst e9; subst e9'; (try dsimp only); (try k_fold))))
  k_with "call ref" => ((k_here; (with_reducible show wpAny _ _ (call (Value.ref 53) [Value.ref _, Value.int _ _]) _ _ _); k_dflt (refine' Call1.use (bisR_call _ _ _ _ _ _ _ _ ?zqhl ?zqhi ?zqhn ?zqhs) ?zqk1 ?zqk2 ?zqk3 ?zqk4 ?zqk5 ?zqkK ?zqkd ?zqku ?_; (case zqk1 => k_asm); (case zqk2 => k_asm); (case zqk3 => k_asm); (case zqk4 => k_asm); (case zqk5 => k_asm); (case zqkK => first | exact rfl | assumption); (case zqhl => k_mem); (case zqhi => assumption); (case zqhn => (show (6 : Nat) < 1000; decide)); (case zqhs => assumption); (case zqkd => ktr_room); (case zqku => ktr_units); intro v9 news9 h9 tk9 hR9 F9 N9; obtain ⟨⟨t9, e9⟩, e9'⟩ := hR9; subst e9; subst e9'; (try dsimp only); (try k_fold))))
  k_with "pyIter ref" => ((k_here; refine stop_intro ?_))
  k_with "exec For" => ((k_here; k_dflt (refine' for_ruleL ?zqhF ?zqhs ?_; (case zqhF => k_asm); (case zqhs => intro _; rfl))))
  k_with "exec For Name Name cons nil" => ((k_here; k_dflt (refine' for_ruleL ?zqhF ?zqhs ?_; (case zqhF => k_asm); (case zqhs => intro _; rfl))))
  k_with "exec For Name Subscript cons nil" => ((k_here; k_dflt (refine' for_ruleL ?zqhF ?zqhs ?_; (case zqhF => k_asm); (case zqhs => intro _; rfl))))
  k_with "exec For Name Call cons nil" => ((k_here; k_dflt (refine' for_ruleL ?zqhF ?zqhs ?_; (case zqhF => k_asm); (case zqhs => intro _; rfl))))
  k_with "exec For Tuple Name cons nil" => ((k_here; k_dflt (refine' for_ruleL ?zqhF ?zqhs ?_; (case zqhF => k_asm); (case zqhs => intro _; rfl))))
  k_with "exec For Tuple" => ((k_here; k_dflt (refine' for_ruleL ?zqhF ?zqhs ?_; (case zqhF => k_asm); (case zqhs => intro _; rfl))))
  k_with "ForPost" => ((k_dflt (refine' EndsJ.end_ ?zqF ?zqN ?zqs ?zqo ?zqa1 ?zqa2 ?zqa3 ?zqa4 ?zqa6 ?zqc; (case zqF => k_asm); (case zqN => k_asm); (case zqa6 => assumption); (case zqa3 => assumption); (case zqa4 => assumption); (case zqa1 => assumption); (case zqa2 => assumption); (case zqc => (repeat (first | assumption | exact if_pos rfl | refine' (if_neg (by decide)).trans ?_))); (case zqo => assumption); (case zqs => (intro p9 hp9; k_ownIn)))))
  k_with "ForPost" => ((k_dflt (refine' SpotsJ.end_ ?zqzzF ?zqzzN ?zqzzw ?zqzzT ?zqzzh ?zqzzp ?zqzzx ?zqzzI ?zqzzd ?zqzze1 ?zqzze2 ?zqzze3 ?zqzze4 ?zqzzf1 ?zqzzf2 ?zqzzf3 ?zqzztb ?zqzzo ?zqzzhT ?zqzza1 ?zqzza2 ?zqzza3 ?zqzza4 ?zqzza5 ?zqzza6 ?zqzza7 ?zqzza8 ?zqzzhx ?zqzzhy ?zqzzb1 ?zqzzb2 ?zqzzb3; (case zqzzF => k_asm); (case zqzzN => k_asm); (case zqzzo => assumption); (case zqzzw => k_mem); (case zqzzT => k_mem); (case zqzzh => k_mem); (case zqzzp => k_mem); (case zqzzx => k_mem); (case zqzzI => k_mem); (case zqzzd => k_mem); (case zqzze1 => k_mem); (case zqzze2 => k_mem); (case zqzze3 => k_mem); (case zqzze4 => k_mem); (case zqzzf1 => k_mem); (case zqzzf2 => k_mem); (case zqzzf3 => k_mem); (case zqzztb => (intro p9 hp9; (repeat (first | exact hp9 | apply List.Mem.tail)))); (case zqzza3 => assumption); (case zqzza6 => assumption); (case zqzza7 => assumption); (case zqzza8 => assumption); (case zqzzhx => assumption); (case zqzza4 => assumption); (case zqzza5 => assumption); (case zqzza1 => assumption); (case zqzza2 => assumption); (case zqzzhT => constructor <;> ((try dsimp only); first | (refine ltN ?_; omega) | (refine neN ?_; omega))); (case zqzzhy => exact wrd_tx); (case zqzzb1 => (repeat (first | assumption | exact if_pos rfl | refine' (if_neg (by decide)).trans ?_))); (case zqzzb2 => (repeat (first | assumption | exact if_pos rfl | refine' (if_neg (by decide)).trans ?_))); (case zqzzb3 => (repeat (first | assumption | exact if_pos rfl | refine' (if_neg (by decide)).trans ?_))))))
  k_with "call builtin:len" => ((k_here; (with_reducible show wpAny _ _ (call (Value.builtin "len") [Value.ref _]) _ _ _); k_dflt (refine' my_len ?zqk1 ?zqk2 ?zqk3 ?zqk4 ?_; (case zqk1 => k_asm); (case zqk2 => k_mem); (case zqk3 => (with_reducible assumption)); (case zqk4 => omega); intro t9 tk9; k_whole)))
  k_with "TurnEnd" => ((k_dflt (refine' TurnEnd.intro ?zqF ?zqN ?zqs ?zqj; (case zqF => k_asm); (case zqN => k_asm); (case zqs => (intro p9 hp9; k_ownIn)); (case zqj => first | exact ⟨fl_t (by assumption), _, rfl⟩ | exact fl_f (by assumption)))))
  k_with "ForPost" => ((k_dflt (refine' WordsJ.end_ ?zqzzF ?zqzzN ?zqzzSp ?zqzzI ?zqzzR ?zqzzo ?zqzza1 ?zqzzhz ?zqzzht ?zqzzb1 ?zqzzb2 ?zqzzb3 ?zqzzb4 ?zqzzb5 ?zqzzb6; (case zqzzF => k_asm); (case zqzzN => k_asm); (case zqzzo => assumption); (case zqzzSp => k_mem); (case zqzzI => k_mem); (case zqzzR => (repeat (first | (refine List.forall_mem_cons.mpr ⟨(by k_mem), ?_⟩) | (intro p9 hp9; (repeat (first | exact hp9 | apply List.Mem.tail)))))); (case zqzza1 => assumption); (case zqzzhz => assumption); (case zqzzb1 => (repeat (first | assumption | exact if_pos rfl | refine' (if_neg (by decide)).trans ?_))); (case zqzzb2 => (repeat (first | assumption | exact if_pos rfl | refine' (if_neg (by decide)).trans ?_))); (case zqzzb3 => (repeat (first | assumption | exact if_pos rfl | refine' (if_neg (by decide)).trans ?_))); (case zqzzb4 => (repeat (first | assumption | exact if_pos rfl | refine' (if_neg (by decide)).trans ?_))); (case zqzzb5 => (repeat (first | assumption | exact if_pos rfl | refine' (if_neg (by decide)).trans ?_))); (case zqzzb6 => (repeat (first | assumption | exact if_pos rfl | refine' (if_neg (by decide)).trans ?_))); (case zqzzht => rw [wcost_words]))))
  k_with "ForPost" => ((k_dflt (refine' SumsJ.end_ ?zqzzF ?zqzzN ?zqzzS ?zqzzE ?zqzzp ?zqzzI ?zqzzR ?zqzzo ?zqzza1 ?zqzza2 ?zqzzhi ?zqzzss ?zqzzhe ?zqzzht ?zqzzb1 ?zqzzb2 ?zqzzb3 ?zqzzb4; (case zqzzF => k_asm); (case zqzzN => k_asm); (case zqzzo => assumption); (case zqzzE => k_mem); (case zqzzp => k_mem); (case zqzzI => k_mem); (case zqzzss => assumption); (case zqzzhe => assumption); (case zqzzS => k_mem); (case zqzza1 => assumption); (case zqzza2 => assumption); (case zqzzhi => exact ints_push (by assumption)); (case zqzzht => rfl); (case zqzzR => (repeat (first | (refine List.forall_mem_cons.mpr ⟨(by k_mem), ?_⟩) | (intro p9 hp9; (repeat (first | exact hp9 | apply List.Mem.tail)))))); (case zqzzb1 => (repeat (first | assumption | exact if_pos rfl | refine' (if_neg (by decide)).trans ?_))); (case zqzzb2 => (repeat (first | assumption | exact if_pos rfl | refine' (if_neg (by decide)).trans ?_))); (case zqzzb3 => (repeat (first | assumption | exact if_pos rfl | refine' (if_neg (by decide)).trans ?_))); (case zqzzb4 => (repeat (first | assumption | exact if_pos rfl | refine' (if_neg (by decide)).trans ?_))))))
  k_with "call ref" => ((k_here; (with_reducible show wpAny _ _ (call (Value.ref 71) [Value.ref _, Value.int _ _]) _ _ _); k_dflt (refine' Call1.use (bisL_call _ _ _ _ _ _ _ _ ?zqhl ?zqhi ?zqhn ?zqhs) ?zqk1 ?zqk2 ?zqk3 ?zqk4 ?zqk5 ?zqkK ?zqkd ?zqku ?_; (case zqk1 => k_asm); (case zqk2 => k_asm); (case zqk3 => k_asm); (case zqk4 => k_asm); (case zqk5 => k_asm); (case zqkK => first | exact rfl | assumption); (case zqhl => k_mem); (case zqhi => assumption); (case zqhn => omega); (case zqhs => assumption); (case zqkd => ktr_room); (case zqku => ktr_units); intro v9 news9 h9 tk9 hR9 F9 N9; obtain ⟨⟨t9, e9⟩, e9'⟩ := hR9; subst e9; subst e9'; (try dsimp only); (try k_fold))))
  k_with "subscriptTail" => ((k_here; first
  | ((with_reducible show wpAny _ _ (subscriptTail _ _ (Value.ref _) (Value.int (_ - _) _)) _ _ _); k_dflt (refine' my_itemP (hs := ?zqhs) (N := ?zqN) (hm := ?zqm) (hi := ?zqi) (hl := ?zqj) (h1 := ?zqr) ?_; (case zqhs => with_unfolding_all rfl); (case zqN => k_asm); (case zqm => k_mem); (case zqi => assumption); (case zqr => assumption); (case zqj => first | assumption | rfl); intro t9))
  | ((with_reducible show wpAny _ _ (subscriptTail _ _ (Value.ref _) (Value.int (Nat.cast _) _)) _ _ _); k_dflt (refine' my_itemK (hs := ?zqhs) (N := ?zqN) (hm := ?zqm) (hi := ?zqi) (h1 := ?zqj) (hz := ?zqz) ?_; (case zqhs => with_unfolding_all rfl); (case zqN => k_asm); (case zqm => k_mem); (case zqi => assumption); (case zqj => assumption); (case zqz => first | decide | omega); intro t9))))
  k_with "subscriptTail Name Name ref int" => ((k_here; first
  | ((with_reducible show wpAny _ _ (subscriptTail _ _ (Value.ref _) (Value.int (_ - _) _)) _ _ _); k_dflt (refine' my_itemP (hs := ?zqhs) (N := ?zqN) (hm := ?zqm) (hi := ?zqi) (hl := ?zqj) (h1 := ?zqr) ?_; (case zqhs => with_unfolding_all rfl); (case zqN => k_asm); (case zqm => k_mem); (case zqi => assumption); (case zqr => assumption); (case zqj => first | assumption | rfl); intro t9))
  | ((with_reducible show wpAny _ _ (subscriptTail _ _ (Value.ref _) (Value.int (Nat.cast _) _)) _ _ _); k_dflt (refine' my_itemK (hs := ?zqhs) (N := ?zqN) (hm := ?zqm) (hi := ?zqi) (h1 := ?zqj) (hz := ?zqz) ?_; (case zqhs => with_unfolding_all rfl); (case zqN => k_asm); (case zqm => k_mem); (case zqi => assumption); (case zqj => assumption); (case zqz => first | decide | omega); intro t9))))
  k_with "subscriptTail Name BinOp ref int" => ((k_here; first
  | ((with_reducible show wpAny _ _ (subscriptTail _ _ (Value.ref _) (Value.int (_ - _) _)) _ _ _); k_dflt (refine' my_itemP (hs := ?zqhs) (N := ?zqN) (hm := ?zqm) (hi := ?zqi) (hl := ?zqj) (h1 := ?zqr) ?_; (case zqhs => with_unfolding_all rfl); (case zqN => k_asm); (case zqm => k_mem); (case zqi => assumption); (case zqr => assumption); (case zqj => first | assumption | rfl); intro t9))
  | ((with_reducible show wpAny _ _ (subscriptTail _ _ (Value.ref _) (Value.int (Nat.cast _) _)) _ _ _); k_dflt (refine' my_itemK (hs := ?zqhs) (N := ?zqN) (hm := ?zqm) (hi := ?zqi) (h1 := ?zqj) (hz := ?zqz) ?_; (case zqhs => with_unfolding_all rfl); (case zqN => k_asm); (case zqm => k_mem); (case zqi => assumption); (case zqj => assumption); (case zqz => first | decide | omega); intro t9))))
  k_with "TurnEnd" => ((k_dflt (refine' TurnEnd.intro ?zqF ?zqN ?zqs ?zqj; (case zqF => k_asm); (case zqN => k_asm); (case zqs => (intro p9 hp9; k_ownIn)); (case zqj => first | exact ⟨fk_t (by assumption), _, rfl⟩ | exact fk_f (by assumption)))))
  k_with "ForPost" => ((k_dflt (refine' TurnsJ.end_ ?zqzzF ?zqzzN ?zqzzK ?zqzzI ?zqzzR ?zqzzo ?zqzza1 ?zqzzb1 ?zqzzb2 ?zqzzb3; (case zqzzF => k_asm); (case zqzzN => k_asm); (case zqzzo => assumption); (case zqzzK => k_mem); (case zqzzI => k_mem); (case zqzzR => (repeat (first | (refine List.forall_mem_cons.mpr ⟨(by k_mem), ?_⟩) | (intro p9 hp9; (repeat (first | exact hp9 | apply List.Mem.tail)))))); (case zqzza1 => assumption); (case zqzzb1 => (repeat (first | assumption | exact if_pos rfl | refine' (if_neg (by decide)).trans ?_))); (case zqzzb2 => (repeat (first | assumption | exact if_pos rfl | refine' (if_neg (by decide)).trans ?_))); (case zqzzb3 => (repeat (first | assumption | exact if_pos rfl | refine' (if_neg (by decide)).trans ?_))))))
  refine Mine.hd1 ?_
  k_go0
  (all_goals try k_fold)
  k_steps
  rename_i s1 _ _ _ _ _ _ _ _ _ _ _ _ _ _ _ _ _ _ _ _ _ _ _ _ _ _ _ _ _ _ _ _ _ _ _ _ _ _ _ _ _ _ _ _ _ _ _ _ oEnd oSp0 oX0 oE0 oK oD0 _ _ _ _ _ _ _ _
  (first | refine stop_elim ?_ | (rotate_left 1; refine stop_elim ?_) | (rotate_left 2; refine stop_elim ?_) | (rotate_left 3; refine stop_elim ?_) | (rotate_left 4; refine stop_elim ?_) | (rotate_left 5; refine stop_elim ?_) | (rotate_left 6; refine stop_elim ?_) | (rotate_left 7; refine stop_elim ?_) | (rotate_left 8; refine stop_elim ?_) | (rotate_left 9; refine stop_elim ?_) | (rotate_left 10; refine stop_elim ?_) | (rotate_left 11; refine stop_elim ?_))
  refine' CallH.use (draws_call _ _ _ _ _ ?hi ?hn) ?k1 ?k2 ?k3 ?k4 ?k5 ?kK ?kd ?ku ?hH ?_
  case k1 => k_asm
  case k2 => k_asm
  case k3 => k_asm
  case k4 => k_asm
  case k5 => k_asm
  case kK => first | exact rfl | assumption
  case hH => is_list
  case hi => assumption
  case hn => omega
  case kd => ktr_room
  case ku => ktr_units
  intro v9 news9 h9 tk9 hR9 F9 N9
  obtain ⟨Dd, ws, ds, e9, ltd, hids, hlds, e9'⟩ := hR9
  subst e9
  subst e9'
  simp only [AllLt, and_true] at ltd
  k_fold
  k_steps
  (first | refine stop_elim ?_ | (rotate_left 1; refine stop_elim ?_) | (rotate_left 2; refine stop_elim ?_) | (rotate_left 3; refine stop_elim ?_) | (rotate_left 4; refine stop_elim ?_) | (rotate_left 5; refine stop_elim ?_) | (rotate_left 6; refine stop_elim ?_) | (rotate_left 7; refine stop_elim ?_) | (rotate_left 8; refine stop_elim ?_) | (rotate_left 9; refine stop_elim ?_) | (rotate_left 10; refine stop_elim ?_) | (rotate_left 11; refine stop_elim ?_))
  rename_i hda oD Fda Nda dD hdb tkb ta tb tc r1 r2 r3 r4
  refine' src_range rfl ?F ?N ?hr ?sm ?hn ?_
  case F => k_asm
  case N => k_asm
  case hr => assumption
  case sm => decide
  case hn => exact rfl
  intro it9 s9 S9
  obtain ⟨g9, e9⟩ := SrcAt.same S9
  subst e9
  refine' CompOK.ints [0, 1, 2] (fun k => 85 * k + (ds.getD k.toNat 0).fmod 85) rfl rfl S9 rfl (by decide) ?hP ?turn ?_
  case hP =>
    rintro i v ⟨t, rfl⟩ hi
    match i, hi with
    | 0, _ => exact ⟨_, _, rfl, rfl⟩
    | 1, _ => exact ⟨_, _, rfl, rfl⟩
    | 2, _ => exact ⟨_, _, rfl, rfl⟩
  case turn =>
    intro y9 t9 ys9 I9 oI9 C9 oC9 D9 m9 h9 tk9 E9 hy9 hC9 hm9 F9 N9
    have hy := mem3 hy9
    (try k_fold)
    k_steps
  intro Dc yc hic ltc
  obtain ⟨c0, c1, c2, u0, u1, u2, rfl, hc0, hc1, hc2⟩ := cuts_of hic
  intro h9 tk9 F9 N9
  (try k_lt ltc)
  (try k_fold)
  k_steps
  (first | refine stop_elim ?_ | (rotate_left 1; refine stop_elim ?_) | (rotate_left 2; refine stop_elim ?_) | (rotate_left 3; refine stop_elim ?_) | (rotate_left 4; refine stop_elim ?_) | (rotate_left 5; refine stop_elim ?_) | (rotate_left 6; refine stop_elim ?_) | (rotate_left 7; refine stop_elim ?_) | (rotate_left 8; refine stop_elim ?_) | (rotate_left 9; refine stop_elim ?_) | (rotate_left 10; refine stop_elim ?_) | (rotate_left 11; refine stop_elim ?_))
  rename_i le hea Fea Nea lte0 heb oE Feb Neb dE
  refine' srcF_list rfl ?F ?N ?m ?_
  case F => k_asm
  case N => k_asm
  case m => k_mem
  intro it9 s9 S9
  obtain ⟨g9, e9⟩ := SrcF.same S9
  subst e9
  refine' ends_loop (cs := [c0, c1, c2]) S9 ?hcs ?hm ?hc ?turn ?_
  case hcs => exact .cons _ _ (.cons _ _ (.cons _ _ .nil))
  case hm => k_mem
  case hc => (repeat (first | assumption | exact if_pos rfl | refine' (if_neg (by decide)).trans ?_))
  case turn =>
    intro i c tc vs es n m1 I oI h tk E' hi9 hcc hie hse hle hpe hcu off hlt F9 N9
    have hle4 : i < 3 := hi9
    k_lt hlt
    (try k_fold)
    k_steps
    all_goals first | exact Str.ofString "" | exact (0 : Nat) | exact Value.none
  intro vE es nE h9 tk9 m1 hie hse hpe hcu F9 N9
  have hE := ends_lit hc0 hc1 hc2 hse hpe
  subst hE
  obtain ⟨n0, n1, n2, n3, n4, n5, rfl⟩ := ints6 hie
  (try k_fold)
  k_steps
  (first | refine stop_elim ?_ | (rotate_left 1; refine stop_elim ?_) | (rotate_left 2; refine stop_elim ?_) | (rotate_left 3; refine stop_elim ?_) | (rotate_left 4; refine stop_elim ?_) | (rotate_left 5; refine stop_elim ?_) | (rotate_left 6; refine stop_elim ?_) | (rotate_left 7; refine stop_elim ?_) | (rotate_left 8; refine stop_elim ?_) | (rotate_left 9; refine stop_elim ?_) | (rotate_left 10; refine stop_elim ?_) | (rotate_left 11; refine stop_elim ?_))
  refine' srcF_list rfl ?F ?N ?m ?_
  case F => k_asm
  case N => k_asm
  case m => k_mem
  intro it9 s9 S9
  obtain ⟨g9, e9⟩ := SrcF.same S9
  subst e9
  refine' spots_loop (c0 := c0) (c1 := c1) (c2 := c2) rfl S9 ?hxs ?hsp ?hox ?hc ?hh ?hw ?turn ?_
  case hxs => assumption
  case hsp => exact ⟨_, by assumption⟩
  case hox => exact ⟨_, by assumption⟩
  case hc => (repeat (first | assumption | exact if_pos rfl | refine' (if_neg (by decide)).trans ?_))
  case hh => (repeat (first | assumption | exact if_pos rfl | refine' (if_neg (by decide)).trans ?_))
  case hw => (repeat (first | assumption | exact if_pos rfl | refine' (if_neg (by decide)).trans ?_))
  case turn =>
    intro i x tx ts nW vH hs nH osp ox tob vsp vx m1 I oI h tk E' hi9 hx hosp hox hgt hih hsh hlh hph hwo hcu hhu hwd off hlt F9 N9
    obtain ⟨fm1, fm2, fm3⟩ := fm_bounds x
    have hls := hwo.1
    have hi5 : i < 5 := by have e9 : (ds.drop 3).length = ds.length - 3 := List.length_drop; omega
    k_lt hlt
    dsimp only at hgt
    (try k_fold)
    k_steps
    (first | refine stop_elim ?_ | (rotate_left 1; refine stop_elim ?_) | (rotate_left 2; refine stop_elim ?_) | (rotate_left 3; refine stop_elim ?_) | (rotate_left 4; refine stop_elim ?_) | (rotate_left 5; refine stop_elim ?_) | (rotate_left 6; refine stop_elim ?_) | (rotate_left 7; refine stop_elim ?_) | (rotate_left 8; refine stop_elim ?_) | (rotate_left 9; refine stop_elim ?_) | (rotate_left 10; refine stop_elim ?_) | (rotate_left 11; refine stop_elim ?_))
    refine' src_list rfl ?F ?N ?m ?_
    case F => k_asm
    case N => k_asm
    case m => k_mem
    intro it9 s9 S9
    obtain ⟨g9, e9⟩ := SrcAt.same S9
    subst e9
    refine' CompOK.ints [c0, c1, c2] (fun c => (x.fmod 512 - c) / 256 % 2) rfl rfl S9 rfl ?hz ?hP ?turn ?_
    case hz => show (3 : Nat) ≤ sizeLine; decide
    case hP => exact (ints_at (.cons _ _ (.cons _ _ (.cons _ _ .nil)))).2
    case turn =>
      intro y9 t9 ys9 I9 oI9 C9 oC9 D9 m9 h9 tk9 E9 hy9 hC9 hm9 F9 N9
      have hyc := memc hy9 hc0 hc1 hc2
      (try k_fold)
      k_steps
      all_goals first | exact Str.ofString "" | exact (0 : Nat) | exact Value.none | fail
    intro Dh yh hih3 lth
    obtain ⟨v0, v1, v2, rfl⟩ := ints3 hih3
    intro h9 tk9 F9 N9
    dsimp only at N9 hih3
    (try k_lt lth)
    (try k_fold)
    k_steps
    (first | refine stop_elim ?_ | (rotate_left 1; refine stop_elim ?_) | (rotate_left 2; refine stop_elim ?_) | (rotate_left 3; refine stop_elim ?_) | (rotate_left 4; refine stop_elim ?_) | (rotate_left 5; refine stop_elim ?_) | (rotate_left 6; refine stop_elim ?_) | (rotate_left 7; refine stop_elim ?_) | (rotate_left 8; refine stop_elim ?_) | (rotate_left 9; refine stop_elim ?_) | (rotate_left 10; refine stop_elim ?_) | (rotate_left 11; refine stop_elim ?_))
    refine' src_list rfl ?F ?N ?m ?_
    case F => k_asm
    case N => k_asm
    case m => k_mem
    intro it9 s9 S9
    obtain ⟨g9, e9⟩ := SrcAt.same S9
    subst e9
    refine' CompOK.ints [c0, c1, c2] (fun c => ((x.fmod 512 - c).fdiv 256).fmod 2) rfl rfl S9 rfl ?hz ?hP ?turn ?_
    case hz => show (3 : Nat) ≤ sizeLine; decide
    case hP => exact (ints_at (.cons _ _ (.cons _ _ (.cons _ _ .nil)))).2
    case turn =>
      intro y9 t9 ys9 I9 oI9 C9 oC9 D9 m9 h9 tk9 E9 hy9 hC9 hm9 F9 N9
      have hyc := memc hy9 hc0 hc1 hc2
      (try k_fold)
      k_steps
      all_goals first | exact Str.ofString "" | exact (0 : Nat) | exact Value.none | fail
    intro Dh2 yh2 hih4 lth2
    obtain ⟨v0, v1, v2, rfl⟩ := ints3 hih4
    intro h9 tk9 F9 N9
    dsimp only at N9 hih4
    (try k_lt lth2)
    (try k_fold)
    k_steps
    all_goals first | exact Str.ofString "" | exact (0 : Nat) | exact Value.none | fail
  intro ts nW vH hs nH osp ox tob vsp vx h9 tk9 m1 hosp hox hgt hih hsh hlh hph hwo hcu hhu hwd F9 N9
  dsimp only at hgt
  (try k_fold)
  k_steps
  (first | refine stop_elim ?_ | (rotate_left 1; refine stop_elim ?_) | (rotate_left 2; refine stop_elim ?_) | (rotate_left 3; refine stop_elim ?_) | (rotate_left 4; refine stop_elim ?_) | (rotate_left 5; refine stop_elim ?_) | (rotate_left 6; refine stop_elim ?_) | (rotate_left 7; refine stop_elim ?_) | (rotate_left 8; refine stop_elim ?_) | (rotate_left 9; refine stop_elim ?_) | (rotate_left 10; refine stop_elim ?_) | (rotate_left 11; refine stop_elim ?_))
  refine' src_list rfl ?F ?N ?m ?_
  case F => k_asm
  case N => k_asm
  case m => k_mem
  intro it9 s9 S9
  obtain ⟨g9, e9⟩ := SrcAt.same S9
  subst e9
  refine' CompOK.ints [c0, c1, c2] (fun c => c + 256) rfl rfl S9 rfl ?hz ?hP ?turn ?_
  case hz => show (3 : Nat) ≤ sizeLine; decide
  case hP => exact (ints_at (.cons _ _ (.cons _ _ (.cons _ _ .nil)))).2
  case turn =>
    intro y9 t9 ys9 I9 oI9 C9 oC9 D9 m9 h9 tk9 E9 hy9 hC9 hm9 F9 N9
    (try k_fold)
    k_steps
    all_goals first | exact Str.ofString "" | exact (0 : Nat) | exact Value.none
  intro De ye hie3 lte
  obtain ⟨v0, v1, v2, rfl⟩ := ints3 hie3
  intro h9 tk9 F9 N9
  dsimp only at N9 hie3
  (try k_lt lte)
  (try k_fold)
  k_steps
  (first | refine stop_elim ?_ | (rotate_left 1; refine stop_elim ?_) | (rotate_left 2; refine stop_elim ?_) | (rotate_left 3; refine stop_elim ?_) | (rotate_left 4; refine stop_elim ?_) | (rotate_left 5; refine stop_elim ?_) | (rotate_left 6; refine stop_elim ?_) | (rotate_left 7; refine stop_elim ?_) | (rotate_left 8; refine stop_elim ?_) | (rotate_left 9; refine stop_elim ?_) | (rotate_left 10; refine stop_elim ?_) | (rotate_left 11; refine stop_elim ?_))
  refine' src_list rfl ?F ?N ?m ?_
  case F => k_asm
  case N => k_asm
  case m => k_mem
  intro it9 s9 S9
  obtain ⟨g9, e9⟩ := SrcAt.same S9
  subst e9
  refine' CompOK.ints (ds.drop 3) (fun x => x.fmod 512) rfl rfl S9 ?hn ?hz ?hP ?turn ?_
  case hn => (have e9 := IntsAre.length (by assumption : IntsAre _ (ds.drop 3)); simpa using e9)
  case hz => (rw [sizeLine_eq, List.length_drop]; omega)
  case hP => exact (ints_at (its := List.toArray _) (by assumption)).2
  case turn =>
    intro y9 t9 ys9 I9 oI9 C9 oC9 D9 m9 h9 tk9 E9 hy9 hC9 hm9 F9 N9
    (try k_fold)
    k_steps
    all_goals first | exact Str.ofString "" | exact (0 : Nat) | exact Value.none
  intro Dq yq hiq ltq
  intro h9 tk9 F9 N9
  (try dsimp only at N9)
  (try k_lt ltq)
  (try k_fold)
  k_steps
  all_goals (try exact absurd (srt_uniq hsh (by assumption) (hph.trans (List.Perm.symm (by assumption)))) (by assumption))
  (first | refine stop_elim ?_ | (rotate_left 1; refine stop_elim ?_) | (rotate_left 2; refine stop_elim ?_) | (rotate_left 3; refine stop_elim ?_) | (rotate_left 4; refine stop_elim ?_) | (rotate_left 5; refine stop_elim ?_) | (rotate_left 6; refine stop_elim ?_) | (rotate_left 7; refine stop_elim ?_) | (rotate_left 8; refine stop_elim ?_) | (rotate_left 9; refine stop_elim ?_) | (rotate_left 10; refine stop_elim ?_) | (rotate_left 11; refine stop_elim ?_))
  have N10 := News.pick (by k_asm : News _ _ _ _) (List.forall_mem_cons.mpr ⟨(by k_mem : (_, W.listOf #[] 0) ∈ _), List.forall_mem_cons.mpr ⟨(by k_mem : (_, oEnd) ∈ _), List.forall_mem_cons.mpr ⟨(by k_mem : (_, osp) ∈ _), List.forall_mem_cons.mpr ⟨(by k_mem : (_, W.listOf (List.toArray (ts.map Value.ref)) nW) ∈ _), List.forall_mem_cons.mpr ⟨(by k_mem : (_, W.listOf vH.toArray nH) ∈ _), List.forall_mem_cons.mpr ⟨(by k_mem : (le, _) ∈ _), List.forall_mem_cons.mpr ⟨(by k_mem : (Dc, _) ∈ _), List.forall_mem_cons.mpr ⟨(by k_mem : (_, ox) ∈ _), List.forall_mem_cons.mpr ⟨(by k_mem : (_, oE) ∈ _), List.forall_mem_cons.mpr ⟨(by k_mem : (_, oK) ∈ _), List.forall_mem_cons.mpr ⟨(by k_mem : (_, oD) ∈ _), (fun p9 hp9 => (by repeat (first | exact hp9 | apply List.Mem.tail)) : ∀ p ∈ tob, p ∈ _)⟩⟩⟩⟩⟩⟩⟩⟩⟩⟩⟩)
  refine' srcF_list rfl ?F N10 ?m ?_
  case F => k_asm
  case m => k_mem
  intro it9 s9 S9
  obtain ⟨g9, e9⟩ := SrcF.same S9
  subst e9
  refine' sums_loop (c0 := c0) (c1 := c1) (c2 := c2) (sp := (ds.drop 3).map fun x => x.fmod 512) S9 ?hes ?hm ?ho1 ?ho2 ?hc ?hh ?hw ?hs ?turn ?_
  case hes => exact hie
  case hm => k_mem
  case ho1 => assumption
  case ho2 => exact hosp
  case hc => (repeat (first | assumption | exact if_pos rfl | refine' (if_neg (by decide)).trans ?_))
  case hh => (repeat (first | assumption | exact if_pos rfl | refine' (if_neg (by decide)).trans ?_))
  case hw => (repeat (first | assumption | exact if_pos rfl | refine' (if_neg (by decide)).trans ?_))
  case hs => (repeat (first | assumption | exact if_pos rfl | refine' (if_neg (by decide)).trans ?_))
  case turn =>
    intro i e te vS ss nS oEnd' oSp' vEnd vSp' m2 I oI h tk E' hi6 hie6 hemem hoe hos hiS hlS hsS hcu3 hhu3 hwd3 hsu3 off hlt F9 N9
    have heb := six_bounds hc0 hc1 hc2 hemem
    k_lt hlt
    (try k_fold)
    k_steps
    (first | refine stop_elim ?_ | (rotate_left 1; refine stop_elim ?_) | (rotate_left 2; refine stop_elim ?_) | (rotate_left 3; refine stop_elim ?_) | (rotate_left 4; refine stop_elim ?_) | (rotate_left 5; refine stop_elim ?_) | (rotate_left 6; refine stop_elim ?_) | (rotate_left 7; refine stop_elim ?_) | (rotate_left 8; refine stop_elim ?_) | (rotate_left 9; refine stop_elim ?_) | (rotate_left 10; refine stop_elim ?_) | (rotate_left 11; refine stop_elim ?_))
    refine' src_list rfl ?F ?N ?m ?_
    case F => k_asm
    case N => k_asm
    case m => k_mem
    intro it9 s9 S9
    obtain ⟨g9, e9⟩ := SrcAt.same S9
    subst e9
    refine' CompOK.ints [c0, c1, c2] (fun c => (e - c) / 256 % 2) rfl rfl S9 rfl ?hz ?hP ?turn ?_
    case hz => show (3 : Nat) ≤ sizeLine; decide
    case hP => exact (ints_at (.cons _ _ (.cons _ _ (.cons _ _ .nil)))).2
    case turn =>
      intro y9 t9 ys9 I9 oI9 C9 oC9 D9 m9 h9 tk9 E9 hy9 hC9 hm9 F9 N9
      have hyc := memc hy9 hc0 hc1 hc2
      have hfm : (e - y9).fmod 512 = (e - y9) % 512 := Int.fmod_eq_emod_of_nonneg _ (by decide)
      (try k_fold)
      k_steps
      all_goals first | exact Str.ofString "" | exact (0 : Nat) | exact Value.none
    intro Dh yh hih3 lth
    obtain ⟨v0, v1, v2, rfl⟩ := ints3 hih3
    intro h9 tk9 F9 N9
    dsimp only at N9 hih3
    (try k_lt lth)
    (try k_fold)
    k_steps
    (first | refine stop_elim ?_ | (rotate_left 1; refine stop_elim ?_) | (rotate_left 2; refine stop_elim ?_) | (rotate_left 3; refine stop_elim ?_) | (rotate_left 4; refine stop_elim ?_) | (rotate_left 5; refine stop_elim ?_) | (rotate_left 6; refine stop_elim ?_) | (rotate_left 7; refine stop_elim ?_) | (rotate_left 8; refine stop_elim ?_) | (rotate_left 9; refine stop_elim ?_) | (rotate_left 10; refine stop_elim ?_) | (rotate_left 11; refine stop_elim ?_))
    have N11 := News.pick (by k_asm : News _ _ _ _) (List.forall_mem_cons.mpr ⟨(by k_mem : (_, oSp') ∈ _), List.forall_mem_cons.mpr ⟨(by k_mem : (I, oI) ∈ _), List.forall_mem_cons.mpr ⟨(by k_mem : (_, W.listOf (List.toArray vS) nS) ∈ _), List.forall_mem_cons.mpr ⟨(by k_mem : (s1.heap.objs.size + 1 + 1 + 1 + 1 + 1 + 1, _) ∈ _), List.forall_mem_cons.mpr ⟨(by k_mem : (_, W.listOf (List.toArray (ts.map Value.ref)) nW) ∈ _), List.forall_mem_cons.mpr ⟨(by k_mem : (_, W.listOf vH.toArray nH) ∈ _), List.forall_mem_cons.mpr ⟨(by k_mem : (le, _) ∈ _), List.forall_mem_cons.mpr ⟨(by k_mem : (Dc, _) ∈ _), List.forall_mem_cons.mpr ⟨(by k_mem : (_, ox) ∈ _), List.forall_mem_cons.mpr ⟨(by k_mem : (_, oE) ∈ _), List.forall_mem_cons.mpr ⟨(by k_mem : (_, oK) ∈ _), List.forall_mem_cons.mpr ⟨(by k_mem : (_, oD) ∈ _), (fun p9 hp9 => (by repeat (first | exact hp9 | apply List.Mem.tail)) : ∀ p ∈ tob, p ∈ _)⟩⟩⟩⟩⟩⟩⟩⟩⟩⟩⟩⟩)
    refine' srcF_list rfl ?F N11 ?m ?_
    case F => k_asm
    case m => k_mem
    intro it9 s9 S9
    obtain ⟨g9, e9⟩ := SrcF.same S9
    subst e9
    refine' words_loop (c0 := c0) (c1 := c1) (c2 := c2) (e := e) (tob := tob) (xs := ds.drop 3) (sp := (ds.drop 3).map fun x => x.fmod 512) S9 hwo rfl ?hm ?htob hos ?hc ?hh ?hw ?hs ?hhe ?hto ?turn ?_
    case hm => k_mem
    case htob => (intro p9 hp9; repeat (first | exact hp9 | apply List.Mem.tail))
    case hc => (repeat (first | assumption | exact if_pos rfl | refine' (if_neg (by decide)).trans ?_))
    case hh => (repeat (first | assumption | exact if_pos rfl | refine' (if_neg (by decide)).trans ?_))
    case hw => (repeat (first | assumption | exact if_pos rfl | refine' (if_neg (by decide)).trans ?_))
    case hs => (repeat (first | assumption | exact if_pos rfl | refine' (if_neg (by decide)).trans ?_))
    case hhe => (rw [show Tx (wordOf c0 c1 c2 e) = wrd ((e - c0) / 256 % 2) ((e - c1) / 256 % 2) ((e - c2) / 256 % 2) from wrd_tx.symm]; (repeat (first | assumption | exact if_pos rfl | refine' (if_neg (by decide)).trans ?_)))
    case hto => (repeat (first | assumption | exact if_pos rfl | refine' (if_neg (by decide)).trans ?_))
    case turn =>
      intro j z T k t1 t2 oSp2 vSp2 tt m3 I2 oI2 h tk E2 hj hz hzb hos2 hTm hcu4 hhu4 hwd4 hsu4 hhe4 hto4 off2 hlt2 F9 N9
      have hT := ltN (hgt _ hTm)
      dsimp only at hT
      k_lt hlt2
      (try k_fold)
      k_steps
      (first | refine stop_elim ?_ | (rotate_left 1; refine stop_elim ?_) | (rotate_left 2; refine stop_elim ?_) | (rotate_left 3; refine stop_elim ?_) | (rotate_left 4; refine stop_elim ?_) | (rotate_left 5; refine stop_elim ?_) | (rotate_left 6; refine stop_elim ?_) | (rotate_left 7; refine stop_elim ?_) | (rotate_left 8; refine stop_elim ?_) | (rotate_left 9; refine stop_elim ?_) | (rotate_left 10; refine stop_elim ?_) | (rotate_left 11; refine stop_elim ?_))
      refine' src_list rfl ?F ?N ?m ?_
      case F => k_asm
      case N => k_asm
      case m => k_mem
      intro it9 s9 S9
      obtain ⟨g9, e9⟩ := SrcAt.same S9
      subst e9
      refine' CompOK.filter [c0, c1, c2] (fun c => decide (sd c e ≠ sd c z)) rfl rfl S9 rfl ?hz ?hP ?turn ?_
      case hz => show (3 : Nat) ≤ sizeLine; decide
      case hP => exact (ints_at (.cons _ _ (.cons _ _ (.cons _ _ .nil)))).2
      case turn =>
        intro y9 t9 ys9 I9 oI9 C9 oC9 D9 m9 h9 tk9 E9 hy9 hC9 hm9 F9 N9
        (try k_fold)
        k_steps
        all_goals first | exact Str.ofString "" | exact (0 : Nat) | exact Value.none
      intro Dp yp hip ltp
      have hlp := IntsAre.length hip
      have hdp : (yp.length : Int) = dif c0 c1 c2 e z := by rw [hlp]; exact dif_filter c0 c1 c2 e z
      have hd3 := dif_le c0 c1 c2 e z
      intro h9 tk9 F9 N9
      (try dsimp only at N9)
      (try k_lt ltp)
      (try k_fold)
      k_steps
      all_goals (try first | exact Str.ofString "" | exact (0 : Nat) | exact Value.none)
      all_goals (first | exact absurd (wcost_words c0 c1 c2 e z) (by assumption) | exact way_no hc0 hc1 hc2 hemem hzb (by assumption))
    intro oSp2 vSp2 tt h9 tk9 m3 hos2 hcu4 hhu4 hwd4 hsu4 hhe4 hto4 F9 N9
    (try k_fold)
    k_steps
    all_goals (try first | exact Str.ofString "" | exact (0 : Nat) | exact Value.none)
  intro vS ss nS oEnd' oSp' vEnd vSp' h9 tk9 m2 hoe hos hiS hsS hcu3 hhu3 hwd3 hsu3 F9 N9
  (try k_fold)
  k_steps
  have N12 := News.pick (by k_asm : News _ _ _ _) (List.forall_mem_cons.mpr ⟨(by k_mem : (_, oK) ∈ _), List.forall_mem_cons.mpr ⟨(by k_mem : (_, W.listOf (List.toArray vS) nS) ∈ _), List.forall_mem_cons.mpr ⟨(by k_mem : (_, oEnd') ∈ _), List.forall_mem_cons.mpr ⟨(by k_mem : (_, oSp') ∈ _), List.forall_mem_cons.mpr ⟨(by k_mem : (_, W.listOf (List.toArray (ts.map Value.ref)) nW) ∈ _), List.forall_mem_cons.mpr ⟨(by k_mem : (_, W.listOf vH.toArray nH) ∈ _), List.forall_mem_cons.mpr ⟨(by k_mem : (le, _) ∈ _), List.forall_mem_cons.mpr ⟨(by k_mem : (Dc, _) ∈ _), List.forall_mem_cons.mpr ⟨(by k_mem : (_, ox) ∈ _), List.forall_mem_cons.mpr ⟨(by k_mem : (_, oE) ∈ _), List.forall_mem_cons.mpr ⟨(by k_mem : (_, oD) ∈ _), (fun p9 hp9 => (by repeat (first | exact hp9 | apply List.Mem.tail)) : ∀ p ∈ tob, p ∈ _)⟩⟩⟩⟩⟩⟩⟩⟩⟩⟩⟩)
  (first | refine stop_elim ?_ | (rotate_left 1; refine stop_elim ?_) | (rotate_left 2; refine stop_elim ?_) | (rotate_left 3; refine stop_elim ?_) | (rotate_left 4; refine stop_elim ?_) | (rotate_left 5; refine stop_elim ?_) | (rotate_left 6; refine stop_elim ?_) | (rotate_left 7; refine stop_elim ?_) | (rotate_left 8; refine stop_elim ?_) | (rotate_left 9; refine stop_elim ?_) | (rotate_left 10; refine stop_elim ?_) | (rotate_left 11; refine stop_elim ?_))
  refine' srcF_range rfl ?F N12 ?hr ?sm (n := 6) ?hn ?_
  case F => k_asm
  case hr => assumption
  case sm => decide
  case hn => exact rfl
  intro it9 s9 S9
  obtain ⟨g9, e9⟩ := SrcF.same S9
  subst e9
  refine' turns_loop (n := 6) S9 ?ho ?hh ?hw ?hs ?turn ?_
  case ho => assumption
  case hh => (repeat (first | assumption | exact if_pos rfl | refine' (if_neg (by decide)).trans ?_))
  case hw => (repeat (first | assumption | exact if_pos rfl | refine' (if_neg (by decide)).trans ?_))
  case hs => (repeat (first | assumption | exact if_pos rfl | refine' (if_neg (by decide)).trans ?_))
  case turn =>
    intro i t oK' vK m4 I oI h tk E' hi6 hoK hhu5 hwd5 hsu5 off hlt F9 N9
    k_lt hlt
    (try k_fold)
    have hsix : IntsAre [Value.int c0 n0, Value.int c1 n1, Value.int c2 n2, Value.int (c0 + 256) n3, Value.int (c1 + 256) n4, Value.int (c2 + 256) n5] (sixE c0 c1 c2) := .cons _ _ (.cons _ _ (.cons _ _ (.cons _ _ (.cons _ _ (.cons _ _ .nil)))))
    have hi6s : i < (sixE c0 c1 c2).length := hi6
    have hss6 : ss.length = 6 := by rw [hsS]; rfl
    have hi6t : i < ss.length := by omega
    have hlh5 : hs.length ≤ 5 := by rw [hlh, List.length_drop]; omega
    have hE := six_bounds hc0 hc1 hc2 (getD_memK hi6s)
    have hb1 := cL_le hs ((sixE c0 c1 c2).getD i 0 + 256)
    have hb2 := cL_le hs ((sixE c0 c1 c2).getD i 0)
    have hb3 := cL_le hs ((sixE c0 c1 c2).getD i 0 - 256)
    have hlw : ((ts.map Value.ref).length : Int) = ((ds.drop 3).length : Int) := by rw [List.length_map, hwo.1]
    have hdr : ((ds.drop 3).length : Int) ≤ 5 := by rw [List.length_drop]; omega
    k_steps
    all_goals (try first | exact Str.ofString "" | exact (0 : Nat) | exact Value.none)
    all_goals (try exact absurd (sums_eq hc0 hc1 hc2 hsS hph hi6 hE) (by assumption))
    (first | refine stop_elim ?_ | (rotate_left 1; refine stop_elim ?_) | (rotate_left 2; refine stop_elim ?_) | (rotate_left 3; refine stop_elim ?_) | (rotate_left 4; refine stop_elim ?_) | (rotate_left 5; refine stop_elim ?_) | (rotate_left 6; refine stop_elim ?_) | (rotate_left 7; refine stop_elim ?_) | (rotate_left 8; refine stop_elim ?_) | (rotate_left 9; refine stop_elim ?_) | (rotate_left 10; refine stop_elim ?_) | (rotate_left 11; refine stop_elim ?_))
    refine' src_list rfl ?F ?N ?m ?_
    case F => k_asm
    case N => k_asm
    case m => k_mem
    intro it9 s9 S9
    obtain ⟨g9, e9⟩ := SrcAt.same S9
    subst e9
    refine' CompOK.pairFilter ((ds.drop 3).map fun x => x.fmod 512) (fun z => decide ((z - (sixE c0 c1 c2).getD i 0) % 512 < 256)) rfl rfl rfl (by decide) rfl S9 ?hn ?hz ?hP ?turn ?_
    case hn => simp [hwo.1]
    case hz => (rw [sizeLine_eq, List.length_map, List.length_drop]; omega)
    case hP => exact words_at hwo (fun p9 hp9 => (by repeat (first | exact hp9 | apply List.Mem.tail)))
    case turn =>
      intro y9 t9 ys9 I9 oI9 C9 oC9 D9 m9 h9 tk9 E9 hy9 hC9 hm9 F9 N9
      have hzb := fm_all _ _ hy9
      (try k_fold)
      k_steps
      all_goals first | exact Str.ofString "" | exact (0 : Nat) | exact Value.none
    intro Dp yp hip ltp
    have hlp := IntsAre.length hip
    have hdp := ahead_eq hph hE
    rw [← hlp] at hdp
    intro h9 tk9 F9 N9
    (try dsimp only at N9)
    (try k_lt ltp)
    (try k_fold)
    k_steps
    all_goals (try first | exact Str.ofString "" | exact (0 : Nat) | exact Value.none)
    all_goals (try exact absurd rfl (by assumption))
  intro oK' vK' h9 tk9 m4 hoK hhu5 hwd5 hsu5 F9 N9
  (try k_fold)
  k_steps
  all_goals (try first | exact Str.ofString "" | exact (0 : Nat) | exact Value.none)
end
theorem PySem.Challenge.cw_ty0036_01_holds : PySem.Challenge.rw_ty0036_01.Holds := by
  exact Mine.law_all trivial
