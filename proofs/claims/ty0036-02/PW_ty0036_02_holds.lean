import PyProof.Rows.All
import Wide.All
import OpenK.AllK
import Wide.FinOn
import PySem.Challenge.RW_ty0036_02
open PySem PySem.W PySem.Spec PySem.Calls PyProof.Rows
set_option Elab.async false
set_option rowWalk.seconds 0
section
open PySem PySem.W PyProof.Rows
namespace Mine
open PySem.Float64

/-- x is the float n / 2 ^ 20 (a zero of either sign where n = 0) -/
noncomputable def FQ (x : UInt64) (n : Int) : Prop := ∃ a m e, decode x = .fin a m e ∧ val x = n * ((2 ^ 1054 : Nat) : Int)

theorem V_hit {N : Nat} (h : N < 2 ^ 53) : ∃ t, V t = N * 2 ^ 1054 := by
  by_cases h0 : N = 0
  · exact ⟨0, by rw [V_zero, h0, Nat.zero_mul]⟩
  · have h1 : 2 ^ N.log2 ≤ N := Nat.log2_self_le h0
    have h2 : N < 2 ^ (N.log2 + 1) := Nat.lt_log2_self
    have h3 : N.log2 < 53 := (Nat.pow_lt_pow_iff_right (a := 2) (by decide)).mp (Nat.lt_of_le_of_lt h1 h)
    refine ⟨(1054 - (52 - N.log2)) * 2 ^ 52 + N * 2 ^ (52 - N.log2), ?_⟩
    have e1 : N.log2 + (52 - N.log2) = 52 := by (first | lia | omega)
    have e2 : 2 ^ N.log2 * 2 ^ (52 - N.log2) = 2 ^ 52 := by rw [← Nat.pow_add, e1]
    have e3 : 2 ^ (N.log2 + 1) * 2 ^ (52 - N.log2) = 2 ^ 53 := by rw [← Nat.pow_add]; congr 1; (first | lia | omega)
    rw [V_at (k := 1054 - (52 - N.log2)) (q := N * 2 ^ (52 - N.log2)), Nat.mul_assoc, ← Nat.pow_add]
    · congr 2; (first | lia | omega)
    · rw [← e3]; exact Nat.mul_le_mul_right _ (Nat.le_of_lt h2)
    · left; rw [← e2]; exact Nat.mul_le_mul_right _ h1

theorem exact_of {r : UInt64} {neg : Bool} {N D : Nat} (h : Right r neg (N * 2 ^ 1054 * D) D) (hD : 0 < D) (hN : N < 2 ^ 53) :
    ∃ m e, decode r = .fin neg m e ∧ val r = sgn neg (N * 2 ^ 1054) := by
  obtain ⟨t, rfl, hle, hinf, hn⟩ := h
  have ht : t < infMag := by
    rcases Nat.lt_or_eq_of_le hle with h | h
    · exact h
    · exfalso
      have h1 := hinf.mp h
      have h2 : D * ((2 ^ 54 - 1) * 2 ^ 2045) ≤ D * (2 * (N * 2 ^ 1054)) := by
        rw [show D * (2 * (N * 2 ^ 1054)) = 2 * (N * 2 ^ 1054 * D) by (generalize (2 : Nat) ^ 1054 = UU; ac_rfl)]; exact h1
      have h3 := Nat.le_of_mul_le_mul_left h2 hD
      have h4 : 2 * (N * 2 ^ 1054) ≤ 2 * (2 ^ 53 * 2 ^ 1054) := Nat.mul_le_mul_left _ (Nat.mul_le_mul_right _ (Nat.le_of_lt hN))
      have h5 := Nat.le_trans h3 h4
      revert h5
      decide +kernel
  obtain ⟨t0, ht0⟩ := V_hit hN
  have h1 := (hn ht t0).1
  rw [ht0, show D * (N * 2 ^ 1054) = N * 2 ^ 1054 * D by (generalize (2 : Nat) ^ 1054 = UU; ac_rfl)] at h1
  have h2 : dist (N * 2 ^ 1054 * D) (N * 2 ^ 1054 * D) = 0 := by unfold dist; omega
  rw [h2] at h1
  have h3 : D * V t = N * 2 ^ 1054 * D := by unfold dist at h1; omega
  have h4 : V t = N * 2 ^ 1054 := Nat.eq_of_mul_eq_mul_left hD (by (rw [h3]; generalize (2 : Nat) ^ 1054 = UU; ac_rfl))
  obtain ⟨m, e, hd, _⟩ := decode_pack neg ht
  exact ⟨m, e, hd, by rw [val_pack neg ht, h4]⟩

theorem sgn_decide (a : Int) (U : Nat) : sgn (decide (a < 0)) (a.natAbs * U) = a * (U : Int) := by
  unfold sgn
  by_cases h : a < 0
  · rw [decide_eq_true h]
    simp only [if_true, Int.natCast_mul]
    rw [← Int.neg_mul]; congr 1; (first | lia | omega)
  · rw [decide_eq_false h]
    simp only [Bool.false_eq_true, if_false, Int.natCast_mul]
    congr 1; (first | lia | omega)

theorem U_pos : (0 : Int) < ((2 ^ 1054 : Nat) : Int) := Int.ofNat_lt.mpr (Nat.two_pow_pos _)

theorem fq_of_right {r : UInt64} {neg : Bool} {c : Int} {D : Nat} (h : Right r neg (c.natAbs * 2 ^ 1054 * D) D) (hD : 0 < D) (hc : c.natAbs < 2 ^ 53) (hs : c ≠ 0 → neg = decide (c < 0)) : FQ r c := by
  obtain ⟨m, e, hd, hv⟩ := exact_of h hD hc
  refine ⟨neg, m, e, hd, ?_⟩
  by_cases h0 : c = 0
  · rw [hv, h0]; unfold sgn; cases neg <;> simp
  · rw [hv, hs h0, sgn_decide]

theorem natAbs_U (a : Int) : (a * ((2 ^ 1054 : Nat) : Int)).natAbs = a.natAbs * 2 ^ 1054 := by rw [Int.natAbs_mul, Int.natAbs_natCast]

theorem mulU_lt (a : Int) : a * ((2 ^ 1054 : Nat) : Int) < 0 ↔ a < 0 := by
  have h := U_pos
  generalize ((2 ^ 1054 : Nat) : Int) = U at h ⊢
  constructor
  · intro h1
    by_cases h2 : a < 0
    · exact h2
    · have := Int.mul_nonneg (show 0 ≤ a by (first | lia | omega)) (Int.le_of_lt h); (first | lia | omega)
  · intro h1; exact Int.mul_neg_of_neg_of_pos h1 h

theorem fq_ofInt {i : Int} (h : i.natAbs < 2 ^ 33) : FQ (ofInt i) (i * 2 ^ 20) := by
  have hr := ofInt_right i
  refine fq_of_right (neg := decide (i < 0)) (D := 1) ?_ (by decide) (by (first | lia | omega)) (fun h0 => ?_)
  · have e : i.natAbs * 2 ^ 1074 = (i * 2 ^ 20).natAbs * 2 ^ 1054 * 1 := by
      rw [Int.natAbs_mul, show ((2 : Int) ^ 20).natAbs = 2 ^ 20 by decide, Nat.mul_one, Nat.mul_assoc, ← Nat.pow_add]
    rw [← e]; exact hr
  · apply decide_eq_decide.mpr; (first | lia | omega)

theorem fq_zero (b : Bool) : FQ (zero b) 0 := by
  obtain ⟨m, e, hd, hv⟩ := decode_pack b (t := 0) (by decide)
  refine ⟨b, m, e, hd, ?_⟩
  show val (pack b 0) = _
  rw [val_pack b (by decide), V_zero]; unfold sgn; cases b <;> simp

theorem fq_add {x y : UInt64} {a b : Int} (hx : FQ x a) (hy : FQ y b) (h : (a + b).natAbs < 2 ^ 53) : FQ (add x y) (a + b) := by
  obtain ⟨sa, ma, ea, hdx, hvx⟩ := hx
  obtain ⟨sb, mb, eb, hdy, hvy⟩ := hy
  have hr := add_right hdx hdy
  have e : val x + val y = (a + b) * ((2 ^ 1054 : Nat) : Int) := by rw [hvx, hvy, Int.add_mul]
  rw [e] at hr
  by_cases h0 : a + b = 0
  · rw [hr.1 (by rw [h0, Int.zero_mul]), h0]; exact fq_zero _
  · have hne : (a + b) * ((2 ^ 1054 : Nat) : Int) ≠ 0 := fun q => by
      rcases Int.mul_eq_zero.mp q with q | q
      · exact h0 q
      · have := U_pos; omega
    have h1 := hr.2 hne
    rw [natAbs_U] at h1
    refine fq_of_right (D := 1) (by rw [Nat.mul_one]; exact h1) (by decide) h (fun _ => ?_)
    exact decide_eq_decide.mpr (mulU_lt _)

theorem fq_neg {y : UInt64} {b : Int} (hy : FQ y b) : FQ (neg y) (-b) := by
  obtain ⟨sb, mb, eb, hdy, hvy⟩ := hy
  exact ⟨_, _, _, neg_decode hdy, by rw [neg_val hdy, hvy, Int.neg_mul]⟩

theorem fq_sub {x y : UInt64} {a b : Int} (hx : FQ x a) (hy : FQ y b) (h : (a - b).natAbs < 2 ^ 53) : FQ (Float64.sub x y) (a - b) := by
  unfold Float64.sub
  have := fq_add hx (fq_neg hy) (by rw [← Int.sub_eq_add_neg]; exact h)
  rw [← Int.sub_eq_add_neg] at this
  exact this

theorem sign_of {x : UInt64} {s : Bool} {m : Nat} {e : Int} {a : Int} (hd : decode x = .fin s m e) (hv : val x = a * ((2 ^ 1054 : Nat) : Int)) (h0 : a ≠ 0) : s = decide (a < 0) := by
  rw [val_eq hd] at hv
  have hU := U_pos
  cases s
  · have h1 : ¬ a < 0 := by
      intro h
      have := (mulU_lt a).mpr h
      rw [← hv] at this
      unfold sgn at this
      simp only [Bool.false_eq_true, if_false] at this
      (first | lia | omega)
    rw [decide_eq_false h1]
  · have h1 : a < 0 := by
      by_cases h : a < 0
      · exact h
      · exfalso
        have h2 : 0 < a := by (first | lia | omega)
        have := Int.mul_pos h2 hU
        rw [← hv] at this
        unfold sgn at this
        simp only [if_true] at this
        (first | lia | omega)
    rw [decide_eq_true h1]

theorem fq_mul {x y : UInt64} {a b : Int} (c : Int) (hx : FQ x a) (hy : FQ y b) (hc : a * b = c * 2 ^ 20) (h : c.natAbs < 2 ^ 53) : FQ (mul x y) c := by
  obtain ⟨sa, ma, ea, hdx, hvx⟩ := hx
  obtain ⟨sb, mb, eb, hdy, hvy⟩ := hy
  have hr := mul_right hdx hdy
  rw [hvx, hvy, natAbs_U, natAbs_U] at hr
  have hn : a.natAbs * b.natAbs = c.natAbs * 2 ^ 20 := by
    rw [← Int.natAbs_mul, hc, Int.natAbs_mul]; rfl
  have e : a.natAbs * 2 ^ 1054 * (b.natAbs * 2 ^ 1054) = c.natAbs * 2 ^ 1054 * 2 ^ 1074 := by
    have e2 : (2 : Nat) ^ 1074 = 2 ^ 20 * 2 ^ 1054 := by rw [← Nat.pow_add]
    rw [e2]
    calc a.natAbs * 2 ^ 1054 * (b.natAbs * 2 ^ 1054) = a.natAbs * b.natAbs * (2 ^ 1054 * 2 ^ 1054) := by (generalize (2 : Nat) ^ 1054 = UU; ac_rfl)
      _ = c.natAbs * 2 ^ 20 * (2 ^ 1054 * 2 ^ 1054) := by rw [hn]
      _ = c.natAbs * 2 ^ 1054 * (2 ^ 20 * 2 ^ 1054) := by (generalize (2 : Nat) ^ 1054 = UU; ac_rfl)
  rw [e] at hr
  refine fq_of_right hr (Nat.two_pow_pos _) h (fun h0 => ?_)
  have ha0 : a ≠ 0 := by intro q; rw [q, Int.zero_mul] at hc; (first | lia | omega)
  have hb0 : b ≠ 0 := by intro q; rw [q, Int.mul_zero] at hc; (first | lia | omega)
  rw [sign_of hdx hvx ha0, sign_of hdy hvy hb0]
  have hlt : c < 0 ↔ a * b < 0 := by (first | lia | omega)
  rcases Int.lt_or_gt_of_ne ha0 with h1 | h1 <;> rcases Int.lt_or_gt_of_ne hb0 with h2 | h2
  · have := Int.mul_pos_of_neg_of_neg h1 h2
    rw [decide_eq_true h1, decide_eq_true h2, decide_eq_false (by (first | lia | omega))]; rfl
  · have := Int.mul_neg_of_neg_of_pos h1 h2
    rw [decide_eq_true h1, decide_eq_false (by (first | lia | omega) : ¬ b < 0), decide_eq_true (by (first | lia | omega) : c < 0)]; rfl
  · have := Int.mul_neg_of_pos_of_neg h1 h2
    rw [decide_eq_false (by (first | lia | omega) : ¬ a < 0), decide_eq_true h2, decide_eq_true (by (first | lia | omega) : c < 0)]; rfl
  · have := Int.mul_pos h1 h2
    rw [decide_eq_false (by (first | lia | omega) : ¬ a < 0), decide_eq_false (by (first | lia | omega) : ¬ b < 0), decide_eq_false (by (first | lia | omega) : ¬ c < 0)]; rfl

theorem fq_div {x y : UInt64} {a b : Int} (c : Int) (hx : FQ x a) (hy : FQ y b) (hb : b ≠ 0) (hc : a * 2 ^ 20 = c * b) (h : c.natAbs < 2 ^ 53) : FQ (div x y) c := by
  obtain ⟨sa, ma, ea, hdx, hvx⟩ := hx
  obtain ⟨sb, mb, eb, hdy, hvy⟩ := hy
  have hmb : mb ≠ 0 := by
    intro q
    rw [val_eq hdy, q, Nat.zero_mul] at hvy
    have h0 : b * ((2 ^ 1054 : Nat) : Int) = 0 := by rw [← hvy]; unfold sgn; cases sb <;> simp
    rcases Int.mul_eq_zero.mp h0 with q | q
    · exact hb q
    · have := U_pos; (first | lia | omega)
  have hr := div_right hdx hdy hmb
  rw [hvx, hvy, natAbs_U, natAbs_U] at hr
  have hn : a.natAbs * 2 ^ 20 = c.natAbs * b.natAbs := by
    have : (a * 2 ^ 20).natAbs = (c * b).natAbs := by rw [hc]
    rw [Int.natAbs_mul, Int.natAbs_mul] at this
    exact this
  have e : a.natAbs * 2 ^ 1054 * 2 ^ 1074 = c.natAbs * 2 ^ 1054 * (b.natAbs * 2 ^ 1054) := by
    have e2 : (2 : Nat) ^ 1074 = 2 ^ 20 * 2 ^ 1054 := by rw [← Nat.pow_add]
    rw [e2]
    calc a.natAbs * 2 ^ 1054 * (2 ^ 20 * 2 ^ 1054) = a.natAbs * 2 ^ 20 * (2 ^ 1054 * 2 ^ 1054) := by (generalize (2 : Nat) ^ 1054 = UU; ac_rfl)
      _ = c.natAbs * b.natAbs * (2 ^ 1054 * 2 ^ 1054) := by rw [hn]
      _ = c.natAbs * 2 ^ 1054 * (b.natAbs * 2 ^ 1054) := by (generalize (2 : Nat) ^ 1054 = UU; ac_rfl)
  rw [e] at hr
  refine fq_of_right hr (Nat.mul_pos (by (first | lia | omega)) (Nat.two_pow_pos _)) h (fun h0 => ?_)
  have ha0 : a ≠ 0 := by
    intro q; rw [q, Int.zero_mul] at hc
    rcases Int.mul_eq_zero.mp hc.symm with q | q
    · exact h0 q
    · exact hb q
  rw [sign_of hdx hvx ha0, sign_of hdy hvy hb]
  rcases Int.lt_or_gt_of_ne h0 with h1 | h1 <;> rcases Int.lt_or_gt_of_ne hb with h2 | h2
  · have := Int.mul_pos_of_neg_of_neg h1 h2
    rw [decide_eq_true h1, decide_eq_true h2, decide_eq_false (by (first | lia | omega) : ¬ a < 0)]; rfl
  · have := Int.mul_neg_of_neg_of_pos h1 h2
    rw [decide_eq_true h1, decide_eq_false (by (first | lia | omega) : ¬ b < 0), decide_eq_true (by (first | lia | omega) : a < 0)]; rfl
  · have := Int.mul_neg_of_pos_of_neg h1 h2
    rw [decide_eq_false (by (first | lia | omega) : ¬ c < 0), decide_eq_true h2, decide_eq_true (by (first | lia | omega) : a < 0)]; rfl
  · have := Int.mul_pos h1 h2
    rw [decide_eq_false (by (first | lia | omega) : ¬ c < 0), decide_eq_false (by (first | lia | omega) : ¬ b < 0), decide_eq_false (by (first | lia | omega) : ¬ a < 0)]; rfl

theorem cmpU (a b : Int) : compare (a * ((2 ^ 1054 : Nat) : Int)) (b * ((2 ^ 1054 : Nat) : Int)) = compare a b := by
  have hU := U_pos
  generalize ((2 ^ 1054 : Nat) : Int) = U at hU ⊢
  rcases Int.lt_trichotomy a b with h | h | h
  · rw [Int.compare_eq_lt.mpr h, Int.compare_eq_lt.mpr (Int.mul_lt_mul_of_pos_right h hU)]
  · subst h; simp
  · rw [Int.compare_eq_gt.mpr h, Int.compare_eq_gt.mpr (Int.mul_lt_mul_of_pos_right h hU)]

theorem fq_cmp {x y : UInt64} {a b : Int} (hx : FQ x a) (hy : FQ y b) : cmp x y = some (compare a b) := by
  obtain ⟨sa, ma, ea, hdx, hvx⟩ := hx
  obtain ⟨sb, mb, eb, hdy, hvy⟩ := hy
  rw [cmp_right hdx hdy, hvx, hvy, cmpU]

theorem cmp_eqT {a b : Int} : (some (compare a b) == some Ordering.eq) = decide (a = b) := by
  rcases Int.lt_trichotomy a b with h | h | h
  · rw [Int.compare_eq_lt.mpr h, decide_eq_false (by (first | lia | omega))]; rfl
  · subst h; simp
  · rw [Int.compare_eq_gt.mpr h, decide_eq_false (by (first | lia | omega))]; rfl
theorem cmp_ltT {a b : Int} : (some (compare a b) == some Ordering.lt) = decide (a < b) := by
  rcases Int.lt_trichotomy a b with h | h | h
  · rw [Int.compare_eq_lt.mpr h, decide_eq_true h]; rfl
  · subst h; simp
  · rw [Int.compare_eq_gt.mpr h, decide_eq_false (by (first | lia | omega))]; rfl
theorem fq_finite {x : UInt64} {a : Int} (hx : FQ x a) : Float64.isFinite x = true ∧ Float64.isNaN x = false ∧ Float64.isInf x = false := by
  obtain ⟨sa, ma, ea, hdx, _⟩ := hx
  unfold Float64.isFinite Float64.isNaN Float64.isInf
  rw [hdx]; exact ⟨rfl, rfl, rfl⟩

theorem fq_isZero {x : UInt64} {a : Int} (hx : FQ x a) : isZero x = decide (a = 0) := by
  obtain ⟨sa, ma, ea, hdx, hvx⟩ := hx
  have hU := U_pos
  unfold isZero
  rw [hdx]
  rw [val_eq hdx] at hvx
  cases ma with
  | zero =>
    have h0 : a * ((2 ^ 1054 : Nat) : Int) = 0 := by rw [← hvx, Nat.zero_mul]; unfold sgn; cases sa <;> simp
    rcases Int.mul_eq_zero.mp h0 with q | q
    · simp [q]
    · omega
  | succ k =>
    have : a ≠ 0 := by
      intro q
      rw [q, Int.zero_mul] at hvx
      have := congrArg Int.natAbs hvx
      rw [sgn_natAbs] at this
      have h2 := Nat.mul_pos (Nat.succ_pos k) (Nat.two_pow_pos (ea + 1074).toNat)
      have h3 : (k + 1) * 2 ^ (ea + 1074).toNat = 0 := this
      rw [Nat.succ_eq_add_one, h3] at h2
      exact absurd h2 (Nat.lt_irrefl 0)
    simp [this]

theorem nat_lo {e : Int} (h : 0 ≤ e) : (e + 1074).toNat = e.toNat + 1074 := by (first | lia | omega)
theorem nat_hi {e : Int} (h : ¬ 0 ≤ e) (hg : -1074 ≤ e) : 1054 + 20 = (e + 1074).toNat + (-e).toNat := by (first | lia | omega)
theorem abs_nat {a : Int} (h : 0 ≤ a) : a.natAbs = a.toNat := by (first | lia | omega)
theorem fq_trunc {x : UInt64} {a : Int} (hx : FQ x a) (ha : 0 ≤ a) : Flt.toInt truncOf x = a / 2 ^ 20 := by
  obtain ⟨sa, ma, ea, hdx, hvx⟩ := hx
  unfold Flt.toInt
  rw [hdx]
  show truncOf sa ma ea = _
  have hge := decode_ge hdx
  rw [val_eq hdx] at hvx
  have hnat : ma * 2 ^ (ea + 1074).toNat = a.toNat * 2 ^ 1054 := by
    have := congrArg Int.natAbs hvx
    rw [sgn_natAbs, natAbs_U] at this
    rw [this, abs_nat ha]
  have hz : sa = true → ma = 0 := by
    intro h
    subst h
    have hU := U_pos
    have h1 := Int.mul_nonneg ha (Int.le_of_lt hU)
    rw [← hvx] at h1
    unfold sgn at h1
    simp only [if_true] at h1
    have h2 : ma * 2 ^ (ea + 1074).toNat = 0 := by (first | lia | omega)
    rcases Nat.mul_eq_zero.mp h2 with q | q
    · exact q
    · exact absurd q (Nat.ne_of_gt (Nat.two_pow_pos _))
  have key : floorOf false ma ea = a / 2 ^ 20 := by
    unfold floorOf
    have ea' : (a.toNat : Int) = a := Int.toNat_of_nonneg ha
    split
    · rename_i h
      have e1 : (ea + 1074).toNat = ea.toNat + 1074 := nat_lo h
      rw [e1, Nat.pow_add, show (2 : Nat) ^ 1074 = 2 ^ 20 * 2 ^ 1054 by rw [← Nat.pow_add]] at hnat
      have h2 : ma * 2 ^ ea.toNat * 2 ^ 20 = a.toNat := Nat.eq_of_mul_eq_mul_right (Nat.two_pow_pos 1054) (by (rw [← hnat]; generalize (2 : Nat) ^ 1054 = UU; ac_rfl))
      unfold sgn
      simp only [Bool.false_eq_true, if_false]
      have h3 : ((ma : Int) * 2 ^ ea.toNat) * 2 ^ 20 = a := by
        rw [← ea', ← h2]; simp [Int.natCast_mul, Int.natCast_pow]
      rw [← h3]; (first | lia | omega)
    · rename_i h
      unfold sgn
      simp only [Bool.false_eq_true, if_false]
      have e1 : 1054 + 20 = (ea + 1074).toNat + (-ea).toNat := nat_hi h hge
      have h2 : ma * 2 ^ 20 = a.toNat * 2 ^ (-ea).toNat := by
        refine Nat.eq_of_mul_eq_mul_right (Nat.two_pow_pos (ea + 1074).toNat) ?_
        calc ma * 2 ^ 20 * 2 ^ (ea + 1074).toNat = ma * 2 ^ (ea + 1074).toNat * 2 ^ 20 := by (generalize (2 : Nat) ^ 1054 = UU; ac_rfl)
          _ = a.toNat * (2 ^ 1054 * 2 ^ 20) := by rw [hnat, Nat.mul_assoc]
          _ = a.toNat * (2 ^ (ea + 1074).toNat * 2 ^ (-ea).toNat) := by rw [← Nat.pow_add, e1, Nat.pow_add]
          _ = a.toNat * 2 ^ (-ea).toNat * 2 ^ (ea + 1074).toNat := by (generalize (2 : Nat) ^ 1054 = UU; ac_rfl)
      have h3 : ma / 2 ^ (-ea).toNat = a.toNat / 2 ^ 20 := by
        have hp := Nat.two_pow_pos (-ea).toNat
        have h4 : ma / 2 ^ (-ea).toNat = (ma * 2 ^ 20) / (2 ^ (-ea).toNat * 2 ^ 20) := by rw [Nat.mul_div_mul_right _ _ (by decide)]
        rw [h4, h2, Nat.mul_comm (2 ^ (-ea).toNat) (2 ^ 20), Nat.mul_div_mul_right _ _ hp]
      have h5 : ((ma : Int)).fdiv (2 ^ (-ea).toNat) = ((ma / 2 ^ (-ea).toNat : Nat) : Int) := by
        rw [show ((2 : Int) ^ (-ea).toNat) = ((2 ^ (-ea).toNat : Nat) : Int) by simp]
        exact (Int.ofNat_fdiv _ _).symm
      rw [h5, h3]
      (first | lia | omega)
  unfold truncOf
  cases hs : sa with
  | false => simpa using key
  | true =>
    have hm := hz hs
    subst hm
    have h0 : a.toNat * 2 ^ 1054 = 0 := by rw [← hnat, Nat.zero_mul]
    have h1 : a.toNat = 0 := by
      rcases Nat.mul_eq_zero.mp h0 with q | q
      · exact q
      · exact absurd q (Nat.ne_of_gt (Nat.two_pow_pos _))
    have h2 : a = 0 := by (first | lia | omega)
    simp only [if_true]
    unfold ceilOf floorOf
    rw [h2]
    simp [sgn]

theorem fq_ofFrac {a : Int} {d : Nat} (c : Int) (ha : 0 ≤ a) (hd : 0 < d) (hc : a * 2 ^ 20 = c * d) (h : c.natAbs < 2 ^ 53) : FQ (ofFrac false a.natAbs d) c := by
  have hc0 : 0 ≤ c := by
    by_cases q : 0 ≤ c
    · exact q
    · exfalso
      have := Int.mul_neg_of_neg_of_pos (show c < 0 by (first | lia | omega)) (show (0 : Int) < d by (first | lia | omega))
      (first | lia | omega)
  refine fq_of_right (D := 1) (neg := false) (ofFrac_right hd (W := c.natAbs * 2 ^ 1054 * 1) ?_ (by decide)) (by decide) h (fun _ => by rw [decide_eq_false (by (first | lia | omega))])
  have hn : a.natAbs * 2 ^ 20 = c.natAbs * d := by
    have : (a * 2 ^ 20).natAbs = (c * d).natAbs := by rw [hc]
    rw [Int.natAbs_mul, Int.natAbs_mul, Int.natAbs_natCast] at this
    exact this
  have e2 : (2 : Nat) ^ 1074 = 2 ^ 20 * 2 ^ 1054 := by rw [← Nat.pow_add]
  rw [e2]
  calc a.natAbs * (2 ^ 20 * 2 ^ 1054) * 1 = a.natAbs * 2 ^ 20 * 2 ^ 1054 := by (generalize (2 : Nat) ^ 1054 = UU; ac_rfl)
    _ = c.natAbs * d * 2 ^ 1054 := by rw [hn]
    _ = c.natAbs * 2 ^ 1054 * 1 * d := by (generalize (2 : Nat) ^ 1054 = UU; ac_rfl)

theorem min_pow {a m : Int} (h : m ≤ a) (hm : -1074 ≤ m) : (a - m).toNat + (m + 1074).toNat = (a + 1074).toNat := by (first | lia | omega)
theorem tmod_sign {a b : Int} (h0 : a.tmod b ≠ 0) (hb : 0 < b) : decide (a < 0) = decide (a.tmod b < 0) := by
  apply decide_eq_decide.mpr
  by_cases hp : 0 ≤ a
  · exact ⟨fun h => absurd hp (Int.not_le.mpr h), fun h => absurd (Int.tmod_nonneg b hp) (Int.not_le.mpr h)⟩
  · have h1 := Int.tmod_nonneg b (show 0 ≤ -a from Int.neg_nonneg.mpr (Int.le_of_lt (Int.not_le.mp hp)))
    rw [Int.neg_tmod] at h1
    have h2 : a.tmod b ≤ 0 := Int.neg_nonneg.mp h1
    exact ⟨fun _ => Int.lt_iff_le_and_ne.mpr ⟨h2, h0⟩, fun _ => Int.not_le.mp hp⟩
theorem fq_fmod {x y : UInt64} {a b : Int} (hx : FQ x a) (hy : FQ y b) (hb : 0 < b) (hab : a.natAbs < 2 ^ 53) : FQ (fmod x y) (a.tmod b) := by
  obtain ⟨sa, ma, ea, hdx, hvx⟩ := hx
  obtain ⟨sb, mb, eb, hdy, hvy⟩ := hy
  have hmb : mb ≠ 0 := by
    intro q
    rw [val_eq hdy, q, Nat.zero_mul] at hvy
    have h0 : b * ((2 ^ 1054 : Nat) : Int) = 0 := by rw [← hvy]; unfold sgn; cases sb <;> simp
    rcases Int.mul_eq_zero.mp h0 with q | q
    · (first | lia | omega)
    · have := U_pos; (first | lia | omega)
  have he := decode_ge hdx
  have hf := decode_ge hdy
  have h1 : fmod x y = ofBin sa ((ma * 2 ^ (ea - min ea eb).toNat) % (mb * 2 ^ (eb - min ea eb).toNat)) (min ea eb) := by
    unfold fmod
    rw [hdx, hdy]
    simp only
    rw [if_neg (by simpa using hmb)]
    unfold align sgn
    simp only [Bool.false_eq_true, if_false, Int.toNat_natCast]
  rw [h1]
  have hr := ofBin_right (neg := sa) (M := (ma * 2 ^ (ea - min ea eb).toNat) % (mb * 2 ^ (eb - min ea eb).toNat)) (g := min ea eb) (by (first | lia | omega))
  have hX : ma * 2 ^ (ea + 1074).toNat = a.natAbs * 2 ^ 1054 := by
    have := congrArg Int.natAbs hvx
    rw [val_natAbs hdx, natAbs_U] at this
    exact this
  have hY : mb * 2 ^ (eb + 1074).toNat = b.natAbs * 2 ^ 1054 := by
    have := congrArg Int.natAbs hvy
    rw [val_natAbs hdy, natAbs_U] at this
    exact this
  have eM : (ma * 2 ^ (ea - min ea eb).toNat) % (mb * 2 ^ (eb - min ea eb).toNat) * 2 ^ (min ea eb + 1074).toNat = (a.tmod b).natAbs * 2 ^ 1054 * 1 := by
    rw [← Nat.mul_mod_mul_right, Nat.mul_assoc, Nat.mul_assoc, ← Nat.pow_add, ← Nat.pow_add]
    have hm : -1074 ≤ min ea eb := Int.le_min.mpr ⟨he, hf⟩
    rw [min_pow (Int.min_le_left ea eb) hm, min_pow (Int.min_le_right ea eb) hm, hX, hY, Nat.mul_mod_mul_right, Int.natAbs_tmod, Nat.mul_one]
  rw [eM] at hr
  have hlt : (a.tmod b).natAbs ≤ a.natAbs := by rw [Int.natAbs_tmod]; exact Nat.mod_le _ _
  refine fq_of_right hr (by decide) (by (first | lia | omega)) (fun h0 => ?_)
  have ha0 : a ≠ 0 := by intro q; rw [q, Int.zero_tmod] at h0; exact h0 rfl
  rw [sign_of hdx hvx ha0]
  exact tmod_sign h0 hb

theorem fq_mod {x y : UInt64} {a b : Int} (hx : FQ x a) (hy : FQ y b) (hb : 0 < b) (hab : a.natAbs < 2 ^ 53) (hbb : b.natAbs < 2 ^ 53) : FQ (divmod x y).2 (a % b) := by
  have hm := fq_fmod hx hy hb hab
  have hz := fq_isZero hm
  have e0 : (divmod x y).2 = (if Float64.isZero (fmod x y) then copysign (zero false) y else if (Float64.lt y (zero false) != Float64.lt (fmod x y) (zero false)) = true then add (fmod x y) y else fmod x y) := by
    unfold divmod
    simp only
    split
    · rfl
    · split <;> rfl
  rw [e0, hz]
  have hab' : a.tmod b = if 0 ≤ a then a % b else if a % b = 0 then 0 else a % b - b := by
    split
    · rw [Int.tmod_eq_emod_of_nonneg (by assumption)]
    · have h2 : a.tmod b = -((-a).tmod b) := by rw [Int.neg_tmod]; (first | lia | omega)
      rw [h2, Int.tmod_eq_emod_of_nonneg (by (first | lia | omega))]
      have h3 := Int.emod_nonneg a (Int.ne_of_gt hb)
      have h4 := Int.emod_lt_of_pos a hb
      have h5 : (-a) % b = if a % b = 0 then 0 else b - a % b := by
        split
        · rename_i h6
          rw [Int.neg_emod, if_pos (Int.dvd_of_emod_eq_zero h6)]
        · rename_i h6
          rw [Int.neg_emod, if_neg (fun h7 => h6 (Int.emod_eq_zero_of_dvd h7))]; (first | lia | omega)
      rw [h5]
      split <;> (first | lia | omega)
  have h3 := Int.emod_nonneg a (Int.ne_of_gt hb)
  have h4 := Int.emod_lt_of_pos a hb
  by_cases h0 : a.tmod b = 0
  · rw [decide_eq_true h0, if_pos rfl]
    have h5 : a % b = 0 := by rw [h0] at hab'; split at hab' <;> (try split at hab') <;> (first | lia | omega)
    rw [h5]
    unfold copysign
    rw [if_neg (by rw [(fq_finite (fq_zero false)).2.1]; decide)]
    have h6 : (zero false).toNat % 2 ^ 63 = 0 := by decide +kernel
    rw [h6]
    exact fq_zero _
  · rw [decide_eq_false h0, if_neg (by decide)]
    have hl1 : Float64.lt y (zero false) = false := by
      unfold Float64.lt
      rw [fq_cmp hy (fq_zero false), cmp_ltT, decide_eq_false (by (first | lia | omega))]
    have hl2 : Float64.lt (fmod x y) (zero false) = decide (a.tmod b < 0) := by
      unfold Float64.lt
      rw [fq_cmp hm (fq_zero false), cmp_ltT]
    rw [hl1, hl2]
    by_cases hn : a.tmod b < 0
    · rw [decide_eq_true hn, if_pos (by decide)]
      have h5 : a % b = a.tmod b + b := by rw [hab'] at hn ⊢; split <;> (try split) <;> simp_all <;> (first | lia | omega)
      rw [h5]
      exact fq_add hm hy (by rw [← h5]; (first | lia | omega))
    · rw [decide_eq_false hn, if_neg (by decide)]
      have h5 : a % b = a.tmod b := by rw [hab'] at hn h0 ⊢; split <;> (try split) <;> simp_all <;> (first | lia | omega)
      rw [h5]
      exact hm

theorem fq_lit6 : FQ 4618441417868443648 (6 * 2 ^ 20) := by
  have e : (4618441417868443648 : UInt64) = ofInt 6 := by decide +kernel
  rw [e]; exact fq_ofInt (by decide)
theorem fq_lit1 : FQ 4607182418800017408 (1 * 2 ^ 20) := by
  have e : (4607182418800017408 : UInt64) = ofInt 1 := by decide +kernel
  rw [e]; exact fq_ofInt (by decide)
theorem fq_lit2 : FQ 4611686018427387904 (2 * 2 ^ 20) := by
  have e : (4611686018427387904 : UInt64) = ofInt 2 := by decide +kernel
  rw [e]; exact fq_ofInt (by decide)
theorem fq_lit4 : FQ 4616189618054758400 (4 * 2 ^ 20) := by
  have e : (4616189618054758400 : UInt64) = ofInt 4 := by decide +kernel
  rw [e]; exact fq_ofInt (by decide)
theorem fq_lit0 : FQ 0 0 := by
  have e : (0 : UInt64) = zero false := by decide +kernel
  rw [e]; exact fq_zero false
end Mine
end
section
open PySem PySem.W PyProof.Rows
namespace Mine
open PySem.Flt
noncomputable def fmax2 (x y : UInt64) : UInt64 := if (Float64.cmp x y == some .lt) = true then y else x
noncomputable def fmin2 (x y : UInt64) : UInt64 := if (Float64.cmp y x == some .lt) = true then y else x
noncomputable def fmax3 (x y z : UInt64) : UInt64 := fmax2 (fmax2 x y) z
noncomputable def fmin3 (x y z : UInt64) : UInt64 := fmin2 (fmin2 x y) z
theorem max_three_ff {prog : Program} {w : World} {A : Around} {E : Value → Shared → Prop} {s : Shared} {Q : Value → Shared → Prop} {x y z : UInt64} {t u v : Tok} {h₀ : Heap} {L : Addr} {m : Str → Option Value} {news : List (Addr × Obj)}
    (hh : A.handled = none) (F : Fr h₀ L s.heap m) (N : News h₀ L s.heap news)
    (h : ∀ h' tk r, (r = t ∨ r = u ∨ r = v) → Fr h₀ L h' m → News h₀ L h' news → Q (.float (fmax3 x y z) r) { s with heap := h', toks := tk }) :
    wpAny (model prog w) A (call (.builtin "max") [.float x t, .float y u, .float z v]) Q E s := by
  have hT : (s.heap.push { cls := .type "tuple", data := .seq #[.float x t, .float y u, .float z v] }).IsTuple s.heap.objs.size #[.float x t, .float y u, .float z v] := ⟨_, Heap.get?_push_size _ rfl, rfl, 0, rfl⟩
  refine call_max_three (wpAny_pyIter_tuple hT ?_)
  have hsz : (s.heap.push { cls := .type "tuple", data := .seq #[.float x t, .float y u, .float z v] }).objs.size = s.heap.objs.size + 1 := Heap.size_push ..
  refine ⟨_, [_, s.heap.objs.size], [_], _, _, _, _, rfl, Walks.tuple (A := A.in1) hh _ s.heap.objs.size (by rw [hsz]; exact Nat.ne_of_lt (Nat.lt_succ_self _)) #[.float x t, .float y u, .float z v],
    ⟨⟨_, Heap.get?_push_size _ rfl, rfl, rfl⟩, hT.push _⟩, fun c hc => ?_, by simp, cmpOf_gt #[.float x t, .float y u, .float z v] (by simp [NumV.float]), fun r h' tk hP hk => ?_⟩
  · show c < ((s.heap.push _).push _).objs.size
    rw [Heap.size_push, hsz]
    rcases List.mem_cons.mp hc with rfl | hc
    · rw [hsz]; exact Nat.lt_succ_self _
    · rcases List.mem_cons.mp hc with rfl | hc
      · exact Nat.lt_succ_of_lt (Nat.lt_succ_self _)
      · cases hc
  · have hold : ∀ c o, s.heap.get? c = some o → h'.get? c = some o := fun c o e => by
      refine hk c o (fun hm => ?_) (Heap.get?_push_of_some _ (Heap.get?_push_of_some _ e))
      rcases List.mem_cons.mp hm with e1 | hm
      · have := Heap.lt_size e; rw [e1, hsz] at this; exact Nat.lt_irrefl _ (Nat.lt_of_succ_lt this)
      · cases hm
    have hv : ∃ q, r = .float (fmax3 x y z) q ∧ (q = t ∨ q = u ∨ q = v) := by
      unfold fmax3 fmax2
      cases c1 : (Float64.cmp x y == some .lt) <;> cases c2 : (Float64.cmp x z == some .lt) <;> cases c3 : (Float64.cmp y z == some .lt) <;> simp [argBest, ltV, c1, c2, c3] at hP <;> simp [c1, c2, c3, ← hP]
    obtain ⟨q, rfl, hq⟩ := hv
    exact h h' tk q hq (F.grownK hold) (N.grown hold)
theorem min_three_ff {prog : Program} {w : World} {A : Around} {E : Value → Shared → Prop} {s : Shared} {Q : Value → Shared → Prop} {x y z : UInt64} {t u v : Tok} {h₀ : Heap} {L : Addr} {m : Str → Option Value} {news : List (Addr × Obj)}
    (hh : A.handled = none) (F : Fr h₀ L s.heap m) (N : News h₀ L s.heap news)
    (h : ∀ h' tk r, (r = t ∨ r = u ∨ r = v) → Fr h₀ L h' m → News h₀ L h' news → Q (.float (fmin3 x y z) r) { s with heap := h', toks := tk }) :
    wpAny (model prog w) A (call (.builtin "min") [.float x t, .float y u, .float z v]) Q E s := by
  have hT : (s.heap.push { cls := .type "tuple", data := .seq #[.float x t, .float y u, .float z v] }).IsTuple s.heap.objs.size #[.float x t, .float y u, .float z v] := ⟨_, Heap.get?_push_size _ rfl, rfl, 0, rfl⟩
  refine call_min_three (wpAny_pyIter_tuple hT ?_)
  have hsz : (s.heap.push { cls := .type "tuple", data := .seq #[.float x t, .float y u, .float z v] }).objs.size = s.heap.objs.size + 1 := Heap.size_push ..
  refine ⟨_, [_, s.heap.objs.size], [_], _, _, _, _, rfl, Walks.tuple (A := A.in1) hh _ s.heap.objs.size (by rw [hsz]; exact Nat.ne_of_lt (Nat.lt_succ_self _)) #[.float x t, .float y u, .float z v],
    ⟨⟨_, Heap.get?_push_size _ rfl, rfl, rfl⟩, hT.push _⟩, fun c hc => ?_, by simp, cmpOf_lt #[.float x t, .float y u, .float z v] (by simp [NumV.float]), fun r h' tk hP hk => ?_⟩
  · show c < ((s.heap.push _).push _).objs.size
    rw [Heap.size_push, hsz]
    rcases List.mem_cons.mp hc with rfl | hc
    · rw [hsz]; exact Nat.lt_succ_self _
    · rcases List.mem_cons.mp hc with rfl | hc
      · exact Nat.lt_succ_of_lt (Nat.lt_succ_self _)
      · cases hc
  · have hold : ∀ c o, s.heap.get? c = some o → h'.get? c = some o := fun c o e => by
      refine hk c o (fun hm => ?_) (Heap.get?_push_of_some _ (Heap.get?_push_of_some _ e))
      rcases List.mem_cons.mp hm with e1 | hm
      · have := Heap.lt_size e; rw [e1, hsz] at this; exact Nat.lt_irrefl _ (Nat.lt_of_succ_lt this)
      · cases hm
    have hv : ∃ q, r = .float (fmin3 x y z) q ∧ (q = t ∨ q = u ∨ q = v) := by
      unfold fmin3 fmin2
      cases c1 : (Float64.cmp y x == some .lt) <;> cases c2 : (Float64.cmp z x == some .lt) <;> cases c3 : (Float64.cmp z y == some .lt) <;> simp [argBest, ltV, c1, c2, c3] at hP <;> simp [c1, c2, c3, ← hP]
    obtain ⟨q, rfl, hq⟩ := hv
    exact h h' tk q hq (F.grownK hold) (N.grown hold)

theorem fq_max2 {x y : UInt64} {a b : Int} (hx : FQ x a) (hy : FQ y b) : FQ (fmax2 x y) (max a b) := by
  unfold fmax2
  rw [fq_cmp hx hy, cmp_ltT]
  by_cases h : a < b
  · rw [decide_eq_true h, if_pos rfl, Int.max_eq_right (by (first | lia | omega))]; exact hy
  · rw [decide_eq_false h, if_neg (by decide), Int.max_eq_left (by (first | lia | omega))]; exact hx
theorem fq_min2 {x y : UInt64} {a b : Int} (hx : FQ x a) (hy : FQ y b) : FQ (fmin2 x y) (min a b) := by
  unfold fmin2
  rw [fq_cmp hy hx, cmp_ltT]
  by_cases h : b < a
  · rw [decide_eq_true h, if_pos rfl, Int.min_eq_right (by (first | lia | omega))]; exact hy
  · rw [decide_eq_false h, if_neg (by decide), Int.min_eq_left (by (first | lia | omega))]; exact hx
theorem fq_max3 {x y z : UInt64} {a b c : Int} (hx : FQ x a) (hy : FQ y b) (hz : FQ z c) : FQ (fmax3 x y z) (max (max a b) c) := fq_max2 (fq_max2 hx hy) hz
theorem fq_min3 {x y z : UInt64} {a b c : Int} (hx : FQ x a) (hy : FQ y b) (hz : FQ z c) : FQ (fmin3 x y z) (min (min a b) c) := fq_min2 (fq_min2 hx hy) hz

/-- the colours' two functions as they reckon -/
noncomputable def hsvF (h s v : UInt64) : UInt64 × UInt64 × UInt64 :=
  let i := Flt.toInt Float64.truncOf (Float64.mul h 4618441417868443648)
  let f := Float64.sub (Float64.mul h 4618441417868443648) (Float64.ofInt i)
  let p := Float64.mul v (Float64.sub 4607182418800017408 s)
  let q := Float64.mul v (Float64.sub 4607182418800017408 (Float64.mul s f))
  let t := Float64.mul v (Float64.sub 4607182418800017408 (Float64.mul s (Float64.sub 4607182418800017408 f)))
  if i.fmod 6 = 0 then (v, t, p) else if i.fmod 6 = 1 then (q, v, p) else if i.fmod 6 = 2 then (p, v, t) else if i.fmod 6 = 3 then (p, q, v) else if i.fmod 6 = 4 then (t, p, v) else (v, p, q)
noncomputable def rgbF (r g b : UInt64) : UInt64 × UInt64 × UInt64 :=
  let maxc := fmax3 r g b
  let minc := fmin3 r g b
  let rangec := Float64.sub maxc minc
  let rc := Float64.div (Float64.sub maxc r) rangec
  let gc := Float64.div (Float64.sub maxc g) rangec
  let bc := Float64.div (Float64.sub maxc b) rangec
  let h := if (Float64.cmp r maxc == some .eq) = true then Float64.sub bc gc else if (Float64.cmp g maxc == some .eq) = true then Float64.sub (Float64.add 4611686018427387904 rc) bc else Float64.sub (Float64.add 4616189618054758400 gc) rc
  ((Float64.divmod (Float64.div h 4618441417868443648) 4607182418800017408).2, Float64.div rangec maxc, maxc)
end Mine
end
section
open PySem PySem.W PyProof.Rows
namespace Mine
theorem FQ.as {x : UInt64} {a : Int} (h : FQ x a) (b : Int) (e : a = b) : FQ x b := e ▸ h
theorem mulb {x y a b : Int} (hx : 0 ≤ x ∧ x ≤ a) (hy : 0 ≤ y ∧ y ≤ b) : 0 ≤ x * y ∧ x * y ≤ a * b :=
  ⟨Int.mul_nonneg hx.1 hy.1, Int.mul_le_mul hx.2 hy.2 hy.1 (by (first | lia | omega))⟩

theorem mmc (a b c d : Int) : a * b * (c * d) = a * c * (b * d) := by rw [Int.mul_assoc, Int.mul_left_comm b, ← Int.mul_assoc]
theorem nat53k {x a k : Int} (h : 0 ≤ x ∧ x ≤ a) (hk : 0 ≤ k) (hN : a * k < 2 ^ 53) : (x * k).natAbs < 2 ^ 53 := by
  have h1 := Int.mul_nonneg h.1 hk
  have h2 := Int.mul_le_mul_of_nonneg_right h.2 hk
  omega
/-- how far the three parts lie below the value, in 256ths of the saturation's share -/
noncomputable def colX (n : Int) : Int × Int × Int :=
  if 3 * n / 256 % 6 = 0 then (0, 256 - 3 * n % 256, 256) else if 3 * n / 256 % 6 = 1 then (3 * n % 256, 0, 256) else if 3 * n / 256 % 6 = 2 then (256, 0, 256 - 3 * n % 256)
  else if 3 * n / 256 % 6 = 3 then (256, 3 * n % 256, 0) else if 3 * n / 256 % 6 = 4 then (256 - 3 * n % 256, 256, 0) else (0, 256, 3 * n % 256)

theorem hsv_six {h : UInt64} {n : Int} (hh : FQ h (n * 2 ^ 11)) (hn : 0 ≤ n ∧ n < 1024) :
    FQ (Float64.mul h 4618441417868443648) (n * 12288) ∧ Flt.toInt Float64.truncOf (Float64.mul h 4618441417868443648) = 3 * n / 256 := by
  have h1 : FQ (Float64.mul h 4618441417868443648) (n * 12288) := fq_mul (n * 12288) hh fq_lit6 (by (first | lia | omega)) (by (first | lia | omega))
  exact ⟨h1, by rw [fq_trunc h1 (by (first | lia | omega))]; (first | lia | omega)⟩

theorem hsv_fq {h s v : UInt64} {n share val : Int} (hh : FQ h (n * 2 ^ 11)) (hs : FQ s (share * 2 ^ 18)) (hv : FQ v (val * 2 ^ 17)) (hn : 0 ≤ n ∧ n < 1024) (h1 : 1 ≤ share ∧ share ≤ 4) (h2 : 1 ≤ val ∧ val ≤ 8) :
    FQ (hsvF h s v).1 (val * (1024 - share * (colX n).1) * 2 ^ 7) ∧ FQ (hsvF h s v).2.1 (val * (1024 - share * (colX n).2.1) * 2 ^ 7) ∧ FQ (hsvF h s v).2.2 (val * (1024 - share * (colX n).2.2) * 2 ^ 7) := by
  obtain ⟨q1, e1⟩ := hsv_six hh hn
  have hi : FQ (Float64.ofInt (3 * n / 256)) (3 * n / 256 * 2 ^ 20) := fq_ofInt (by (first | lia | omega))
  have q2 : FQ (Float64.sub (Float64.mul h 4618441417868443648) (Float64.ofInt (3 * n / 256))) (3 * n % 256 * 4096) :=
    (fq_sub q1 hi (by (first | lia | omega))).as _ (by (first | lia | omega))
  have hg : 0 ≤ 3 * n % 256 ∧ 3 * n % 256 ≤ 256 := by (first | lia | omega)
  generalize hge : 3 * n % 256 = g at q2 hg
  have b1 := mulb (x := share) (y := g) (a := 4) (b := 256) (by (first | lia | omega)) hg
  have b2 := mulb (x := share) (y := 256 - g) (a := 4) (b := 256) (by (first | lia | omega)) (by (first | lia | omega))
  have b3 := mulb (x := val) (y := 1024 - share * g) (a := 8) (b := 1024) (by (first | lia | omega)) (by (first | lia | omega))
  have b4 := mulb (x := val) (y := 1024 - share * (256 - g)) (a := 8) (b := 1024) (by (first | lia | omega)) (by (first | lia | omega))
  have b5 := mulb (x := val) (y := 1024 - share * 256) (a := 8) (b := 1024) (by (first | lia | omega)) (by (first | lia | omega))
  have q3 : FQ (Float64.mul s (Float64.sub (Float64.mul h 4618441417868443648) (Float64.ofInt (3 * n / 256)))) (share * g * 1024) :=
    fq_mul _ hs q2 (by rw [mmc, Int.mul_assoc (share * g)]; rfl) (nat53k b1 (by decide) (by decide))
  have q4 : FQ (Float64.sub 4607182418800017408 (Float64.mul s (Float64.sub (Float64.mul h 4618441417868443648) (Float64.ofInt (3 * n / 256))))) ((1024 - share * g) * 1024) :=
    (fq_sub fq_lit1 q3 (by (first | lia | omega))).as _ (by rw [Int.sub_mul]; rfl)
  have q5 := fq_mul (val * (1024 - share * g) * 2 ^ 7) hv q4 (by rw [mmc, Int.mul_assoc (val * (1024 - share * g))]; rfl) (nat53k b3 (by decide) (by decide))
  have q6 : FQ (Float64.sub 4607182418800017408 (Float64.sub (Float64.mul h 4618441417868443648) (Float64.ofInt (3 * n / 256)))) ((256 - g) * 4096) :=
    (fq_sub fq_lit1 q2 (by (first | lia | omega))).as _ (by rw [Int.sub_mul]; rfl)
  have q7 : FQ (Float64.mul s (Float64.sub 4607182418800017408 (Float64.sub (Float64.mul h 4618441417868443648) (Float64.ofInt (3 * n / 256))))) (share * (256 - g) * 1024) :=
    fq_mul _ hs q6 (by rw [mmc, Int.mul_assoc (share * (256 - g))]; rfl) (nat53k b2 (by decide) (by decide))
  have q8 := (fq_sub fq_lit1 q7 (by (first | lia | omega))).as ((1024 - share * (256 - g)) * 1024) (by rw [Int.sub_mul]; rfl)
  have q9 := fq_mul (val * (1024 - share * (256 - g)) * 2 ^ 7) hv q8 (by rw [mmc, Int.mul_assoc (val * (1024 - share * (256 - g)))]; rfl) (nat53k b4 (by decide) (by decide))
  have p1 : FQ (Float64.sub 4607182418800017408 s) ((4 - share) * 2 ^ 18) := (fq_sub fq_lit1 hs (by (first | lia | omega))).as _ (by rw [Int.sub_mul]; rfl)
  have p2 := fq_mul (val * (1024 - share * 256) * 2 ^ 7) hv p1 (by grind) (nat53k b5 (by decide) (by decide))
  have p3 : FQ v (val * (1024 - share * 0) * 2 ^ 7) := hv.as _ (by (first | lia | omega))
  have ef : (3 * n / 256).fmod 6 = 3 * n / 256 % 6 := Int.fmod_eq_emod_of_nonneg _ (by decide)
  unfold hsvF colX
  simp only [e1, ef, hge]
  split
  · exact ⟨p3, q9, p2⟩
  · split
    · exact ⟨q5, p3, p2⟩
    · split
      · exact ⟨p2, p3, q9⟩
      · split
        · exact ⟨p2, q5, p3⟩
        · split
          · exact ⟨q9, p2, p3⟩
          · exact ⟨p3, p2, q5⟩

/-- the hue comes back by a whole turn -/
theorem colX_mod (n : Int) : colX n = colX (n % 512) := by
  have e0 : 3 * n / 256 = 3 * (n % 512) / 256 + 6 * (n / 512) := by (first | lia | omega)
  have e1 : 3 * n / 256 % 6 = 3 * (n % 512) / 256 % 6 := by rw [e0, Int.add_mul_emod_self_left]
  have e2 : 3 * n % 256 = 3 * (n % 512) % 256 := by (first | lia | omega)
  unfold colX
  rw [e1, e2]
noncomputable def zT (m : Int) : Int := if 3 * m / 256 = 5 then m - 512 else m
noncomputable def hueX (X Y Z : Int) : Int := if X = 0 then Z - Y else if Y = 0 then 512 + X - Z else 1024 + Y - X
/-- what the parts say of the hue, place by place -/
noncomputable def colOK (m : Int) : Bool :=
  let c := colX m
  decide (0 ≤ c.1) && decide (c.1 ≤ 256) && decide (0 ≤ c.2.1) && decide (c.2.1 ≤ 256) && decide (0 ≤ c.2.2) && decide (c.2.2 ≤ 256) && (decide (c.1 = 0) || decide (c.2.1 = 0) || decide (c.2.2 = 0)) && (decide (c.1 = 256) || decide (c.2.1 = 256) || decide (c.2.2 = 256)) &&
    decide (hueX c.1 c.2.1 c.2.2 = 3 * zT m) && decide (zT m % 512 = m) && decide (-512 ≤ zT m) && decide (zT m < 512)
theorem colOK_tab : ∀ m : Nat, m < 512 → colOK (m : Int) = true := by decide +kernel
theorem modN (n : Int) : ∃ m : Nat, m < 512 ∧ n % 512 = (m : Int) := ⟨(n % 512).toNat, by (first | lia | omega), by (first | lia | omega)⟩
theorem colX_box (n : Int) : (0 ≤ (colX n).1 ∧ (colX n).1 ≤ 256) ∧ (0 ≤ (colX n).2.1 ∧ (colX n).2.1 ≤ 256) ∧ (0 ≤ (colX n).2.2 ∧ (colX n).2.2 ≤ 256) ∧ ((colX n).1 = 0 ∨ (colX n).2.1 = 0 ∨ (colX n).2.2 = 0) ∧ ((colX n).1 = 256 ∨ (colX n).2.1 = 256 ∨ (colX n).2.2 = 256) ∧
    ∃ z, hueX (colX n).1 (colX n).2.1 (colX n).2.2 = 3 * z ∧ z % 512 = n % 512 ∧ -512 ≤ z ∧ z < 512 := by
  obtain ⟨m, hm, e⟩ := modN n
  have h := colOK_tab m hm
  rw [colX_mod n, e]
  unfold colOK at h
  simp only [Bool.and_eq_true, Bool.or_eq_true, decide_eq_true_eq, or_assoc] at h
  obtain ⟨⟨⟨⟨⟨⟨⟨⟨⟨⟨⟨h1, h2⟩, h3⟩, h4⟩, h5⟩, h6⟩, h7⟩, h8⟩, h9⟩, h10⟩, h11⟩, h12⟩ := h
  exact ⟨⟨h1, h2⟩, ⟨h3, h4⟩, ⟨h5, h6⟩, h7, h8, zT m, h9, h10, h11, h12⟩

theorem fq_neZero {x : UInt64} {a : Int} (hx : FQ x a) (h : a ≠ 0) : Float64.isZero x = false := by rw [fq_isZero hx, decide_eq_false h]

theorem max_hit {V T x y z : Int} (hx : 0 ≤ x) (hy : 0 ≤ y) (hz : 0 ≤ z) (h : x = 0 ∨ y = 0 ∨ z = 0) : max (max ((V - x) * 2 ^ 7) ((V - y) * 2 ^ 7)) ((V - z) * 2 ^ 7) = V * 2 ^ 7 := by
  have _ := T
  have e : ∀ a : Int, 0 ≤ a → (V - a) * 2 ^ 7 ≤ V * 2 ^ 7 := fun a h => Int.mul_le_mul_of_nonneg_right (Int.sub_le_self V h) (by decide)
  have z0 : V * 2 ^ 7 = (V - 0) * 2 ^ 7 := by rw [Int.sub_zero]
  refine Int.le_antisymm (Int.max_le.mpr ⟨Int.max_le.mpr ⟨e x hx, e y hy⟩, e z hz⟩) ?_
  rcases h with rfl | rfl | rfl
  · rw [z0]; exact Int.le_trans (Int.le_max_left _ _) (Int.le_max_left _ _)
  · rw [z0]; exact Int.le_trans (Int.le_max_right _ _) (Int.le_max_left _ _)
  · rw [z0]; exact Int.le_max_right _ _
theorem min_hit {V T x y z : Int} (hx : x ≤ T) (hy : y ≤ T) (hz : z ≤ T) (h : x = T ∨ y = T ∨ z = T) : min (min ((V - x) * 2 ^ 7) ((V - y) * 2 ^ 7)) ((V - z) * 2 ^ 7) = (V - T) * 2 ^ 7 := by
  have e : ∀ a : Int, a ≤ T → (V - T) * 2 ^ 7 ≤ (V - a) * 2 ^ 7 := fun a h => Int.mul_le_mul_of_nonneg_right (Int.sub_le_sub_left h V) (by decide)
  refine Int.le_antisymm ?_ (Int.le_min.mpr ⟨Int.le_min.mpr ⟨e x hx, e y hy⟩, e z hz⟩)
  rcases h with rfl | rfl | rfl
  · exact Int.le_trans (Int.min_le_left _ _) (Int.min_le_left _ _)
  · exact Int.le_trans (Int.min_le_left _ _) (Int.min_le_right _ _)
  · exact Int.min_le_right _ _
theorem nb53 {x : Int} (a : -9007199254740992 < x) (b : x < 9007199254740992) : x.natAbs < 2 ^ 53 := by omega
theorem rgb_core {r g b : UInt64} {V T x y z : Int} (hr : FQ r ((V - x) * 2 ^ 7)) (hg : FQ g ((V - y) * 2 ^ 7)) (hb : FQ b ((V - z) * 2 ^ 7)) (hV : V ≤ 8192) (hT : 0 ≤ T ∧ T ≤ V)
    (hx : 0 ≤ x ∧ x ≤ T) (hy : 0 ≤ y ∧ y ≤ T) (hz : 0 ≤ z ∧ z ≤ T) (h0 : x = 0 ∨ y = 0 ∨ z = 0) (hM : x = T ∨ y = T ∨ z = T) :
    FQ (fmax3 r g b) (V * 2 ^ 7) ∧ FQ (fmin3 r g b) ((V - T) * 2 ^ 7) ∧ FQ (Float64.sub (fmax3 r g b) (fmin3 r g b)) (T * 2 ^ 7) ∧ FQ (Float64.sub (fmax3 r g b) r) (x * 2 ^ 7) ∧ FQ (Float64.sub (fmax3 r g b) g) (y * 2 ^ 7) ∧ FQ (Float64.sub (fmax3 r g b) b) (z * 2 ^ 7) := by
  have qM : FQ (fmax3 r g b) (V * 2 ^ 7) := (fq_max3 hr hg hb).as _ (max_hit (T := T) hx.1 hy.1 hz.1 h0)
  have qm : FQ (fmin3 r g b) ((V - T) * 2 ^ 7) := (fq_min3 hr hg hb).as _ (min_hit hx.2 hy.2 hz.2 hM)
  have key : ∀ (u : UInt64) (a : Int), FQ u ((V - a) * 2 ^ 7) → 0 ≤ a ∧ a ≤ T → FQ (Float64.sub (fmax3 r g b) u) (a * 2 ^ 7) := fun u a hu ha =>
    have e : V * 2 ^ 7 - (V - a) * 2 ^ 7 = a * 2 ^ 7 := by rw [← Int.sub_mul]; congr 1; (first | assumption | decide | exact nb53 (by first | lia | omega) (by first | lia | omega) | lia | omega)
    (fq_sub qM hu (by rw [e]; (first | assumption | decide | exact nb53 (by first | lia | omega) (by first | lia | omega) | lia | omega))).as _ e
  exact ⟨qM, qm, key _ T qm ⟨hT.1, Int.le_refl _⟩, key _ x hr hx, key _ y hg hy, key _ z hb hz⟩
/-- a colour's three parts, as far below the value as X Y Z tell -/
theorem rgb_parts {r g b : UInt64} {share val X Y Z : Int} (hr : FQ r (val * (1024 - share * X) * 2 ^ 7)) (hg : FQ g (val * (1024 - share * Y) * 2 ^ 7)) (hb : FQ b (val * (1024 - share * Z) * 2 ^ 7))
    (h1 : 1 ≤ share ∧ share ≤ 4) (h2 : 1 ≤ val ∧ val ≤ 8) (hX : 0 ≤ X ∧ X ≤ 256) (hY : 0 ≤ Y ∧ Y ≤ 256) (hZ : 0 ≤ Z ∧ Z ≤ 256) (h0 : X = 0 ∨ Y = 0 ∨ Z = 0) (hM : X = 256 ∨ Y = 256 ∨ Z = 256) :
    FQ (fmax3 r g b) (val * 2 ^ 17) ∧ FQ (fmin3 r g b) (val * (1024 - share * 256) * 2 ^ 7) ∧ FQ (Float64.sub (fmax3 r g b) (fmin3 r g b)) (val * share * 256 * 2 ^ 7) ∧
    FQ (Float64.div (Float64.sub (fmax3 r g b) (fmin3 r g b)) (fmax3 r g b)) (share * 2 ^ 18) ∧
    FQ (Float64.div (Float64.sub (fmax3 r g b) r) (Float64.sub (fmax3 r g b) (fmin3 r g b))) (X * 4096) ∧
    FQ (Float64.div (Float64.sub (fmax3 r g b) g) (Float64.sub (fmax3 r g b) (fmin3 r g b))) (Y * 4096) ∧
    FQ (Float64.div (Float64.sub (fmax3 r g b) b) (Float64.sub (fmax3 r g b) (fmin3 r g b))) (Z * 4096) := by
  have e : ∀ a : Int, val * (1024 - share * a) = val * 1024 - val * share * a := fun a => by rw [Int.mul_sub, Int.mul_assoc]
  rw [e] at hr hg hb
  rw [e]
  have hP : 1 ≤ val * share := Int.mul_le_mul h2.1 h1.1 (by decide) (Int.le_trans (by decide) h2.1)
  have hPv : val * share ≤ val * 4 := Int.mul_le_mul_of_nonneg_left h1.2 (Int.le_trans (by decide) h2.1)
  generalize hPe : val * share = P at *
  have p0 : 0 ≤ P := Int.le_trans (by decide) hP
  have bx : ∀ a : Int, 0 ≤ a ∧ a ≤ 256 → 0 ≤ P * a ∧ P * a ≤ P * 256 := fun a h => ⟨Int.mul_nonneg p0 h.1, Int.mul_le_mul_of_nonneg_left h.2 p0⟩
  obtain ⟨qM, qm, qd, qr, qg, qb⟩ := rgb_core (V := val * 1024) (T := P * 256) hr hg hb (by (first | assumption | decide | exact nb53 (by first | lia | omega) (by first | lia | omega) | lia | omega)) (by (first | assumption | decide | exact nb53 (by first | lia | omega) (by first | lia | omega) | lia | omega)) (bx X hX) (bx Y hY) (bx Z hZ)
    (h0.imp (fun h => by rw [h, Int.mul_zero]) fun h => h.imp (fun h => by rw [h, Int.mul_zero]) fun h => by rw [h, Int.mul_zero])
    (hM.imp (fun h => by rw [h]) fun h => h.imp (fun h => by rw [h]) fun h => by rw [h])
  have d0 : P * 256 * 2 ^ 7 ≠ 0 := by (first | assumption | decide | exact nb53 (by first | lia | omega) (by first | lia | omega) | lia | omega)
  have key : ∀ (u : UInt64) (a : Int), FQ u (P * a * 2 ^ 7) → 0 ≤ a ∧ a ≤ 256 → FQ (Float64.div u (Float64.sub (fmax3 r g b) (fmin3 r g b))) (a * 4096) := fun u a hu ha =>
    fq_div _ hu qd d0 (by rw [Int.mul_assoc (P * a), Int.mul_assoc P 256, mmc a, Int.mul_comm a P]; rfl) (by (first | assumption | decide | exact nb53 (by first | lia | omega) (by first | lia | omega) | lia | omega))
  refine ⟨qM.as _ (by (first | assumption | decide | exact nb53 (by first | lia | omega) (by first | lia | omega) | lia | omega)), qm, qd, fq_div _ qd qM (by (first | assumption | decide | exact nb53 (by first | lia | omega) (by first | lia | omega) | lia | omega)) ?_ (by (first | assumption | decide | exact nb53 (by first | lia | omega) (by first | lia | omega) | lia | omega)), key _ X qr hX, key _ Y qg hY, key _ Z qb hZ⟩
  rw [← hPe, Int.mul_assoc (val * share), Int.mul_assoc (val * share), Int.mul_assoc val 1024, mmc share, Int.mul_comm share val]
  rfl

theorem rgb_fq {r g b : UInt64} {n share val : Int} (hr : FQ r (val * (1024 - share * (colX n).1) * 2 ^ 7)) (hg : FQ g (val * (1024 - share * (colX n).2.1) * 2 ^ 7)) (hb : FQ b (val * (1024 - share * (colX n).2.2) * 2 ^ 7))
    (hn : 0 ≤ n) (h1 : 1 ≤ share ∧ share ≤ 4) (h2 : 1 ≤ val ∧ val ≤ 8) :
    FQ (rgbF r g b).1 (n % 512 * 2 ^ 11) ∧ FQ (rgbF r g b).2.1 (share * 2 ^ 18) ∧ FQ (rgbF r g b).2.2 (val * 2 ^ 17) ∧
    (Float64.cmp (fmin3 r g b) (fmax3 r g b) == some .eq) = false ∧ Float64.isZero (fmax3 r g b) = false ∧ Float64.isZero (Float64.sub (fmax3 r g b) (fmin3 r g b)) = false := by
  have hP : 1 ≤ val * share := by have := Int.mul_le_mul h2.1 h1.1 (by decide) (by (first | assumption | decide | exact nb53 (by first | lia | omega) (by first | lia | omega) | lia | omega)); (first | assumption | decide | exact nb53 (by first | lia | omega) (by first | lia | omega) | lia | omega)
  have key : ∀ X Y Z : Int, FQ r (val * (1024 - share * X) * 2 ^ 7) → FQ g (val * (1024 - share * Y) * 2 ^ 7) → FQ b (val * (1024 - share * Z) * 2 ^ 7) →
      (0 ≤ X ∧ X ≤ 256) → (0 ≤ Y ∧ Y ≤ 256) → (0 ≤ Z ∧ Z ≤ 256) → (X = 0 ∨ Y = 0 ∨ Z = 0) → (X = 256 ∨ Y = 256 ∨ Z = 256) →
      (∃ z, (if X = 0 then Z - Y else if Y = 0 then 512 + X - Z else 1024 + Y - X) = 3 * z ∧ z % 512 = n % 512 ∧ -512 ≤ z ∧ z < 512) →
      FQ (rgbF r g b).1 (n % 512 * 2 ^ 11) ∧ FQ (rgbF r g b).2.1 (share * 2 ^ 18) ∧ FQ (rgbF r g b).2.2 (val * 2 ^ 17) ∧
      (Float64.cmp (fmin3 r g b) (fmax3 r g b) == some .eq) = false ∧ Float64.isZero (fmax3 r g b) = false ∧ Float64.isZero (Float64.sub (fmax3 r g b) (fmin3 r g b)) = false := by
    intro X Y Z hr hg hb hX hY hZ h0 hM ⟨z, hz, hz2, hz3, hz4⟩
    obtain ⟨qM, qm, qd, qs, qr, qg, qb⟩ := rgb_parts hr hg hb h1 h2 hX hY hZ h0 hM
    have eX : val * (1024 - share * X) = val * 1024 - val * share * X := by grind
    have eY : val * (1024 - share * Y) = val * 1024 - val * share * Y := by grind
    have cX : val * share * X = 0 ↔ X = 0 := ⟨fun h => (Int.mul_eq_zero.mp h).resolve_left (by (first | assumption | decide | exact nb53 (by first | lia | omega) (by first | lia | omega) | lia | omega)), fun h => by rw [h, Int.mul_zero]⟩
    have cY : val * share * Y = 0 ↔ Y = 0 := ⟨fun h => (Int.mul_eq_zero.mp h).resolve_left (by (first | assumption | decide | exact nb53 (by first | lia | omega) (by first | lia | omega) | lia | omega)), fun h => by rw [h, Int.mul_zero]⟩
    have c1 : (Float64.cmp r (fmax3 r g b) == some .eq) = decide (X = 0) := by
      rw [fq_cmp hr qM, cmp_eqT]; apply decide_eq_decide.mpr; rw [eX, ← cX]; (first | assumption | decide | exact nb53 (by first | lia | omega) (by first | lia | omega) | lia | omega)
    have c2 : (Float64.cmp g (fmax3 r g b) == some .eq) = decide (Y = 0) := by
      rw [fq_cmp hg qM, cmp_eqT]; apply decide_eq_decide.mpr; rw [eY, ← cY]; (first | assumption | decide | exact nb53 (by first | lia | omega) (by first | lia | omega) | lia | omega)
    refine ⟨?_, qs, qM, ?_, fq_neZero qM (by (first | assumption | decide | exact nb53 (by first | lia | omega) (by first | lia | omega) | lia | omega)), fq_neZero qd (by (first | assumption | decide | exact nb53 (by first | lia | omega) (by first | lia | omega) | lia | omega))⟩
    · show FQ (Float64.divmod (Float64.div _ 4618441417868443648) 4607182418800017408).2 _
      refine (fq_mod (a := z * 2 ^ 11) (fq_div (a := 3 * z * 4096) (z * 2 ^ 11) ?_ fq_lit6 (by decide) (by (first | assumption | decide | exact nb53 (by first | lia | omega) (by first | lia | omega) | lia | omega)) (by (first | assumption | decide | exact nb53 (by first | lia | omega) (by first | lia | omega) | lia | omega))) fq_lit1 (by decide) (by (first | assumption | decide | exact nb53 (by first | lia | omega) (by first | lia | omega) | lia | omega)) (by decide)).as _ (by (first | assumption | decide | exact nb53 (by first | lia | omega) (by first | lia | omega) | lia | omega))
      simp only [c1, c2, decide_eq_true_eq]
      rw [← hz]
      by_cases hx0 : X = 0
      · rw [if_pos hx0, if_pos hx0]
        exact (fq_sub qb qg (by (first | assumption | decide | exact nb53 (by first | lia | omega) (by first | lia | omega) | lia | omega))).as _ (by (first | assumption | decide | exact nb53 (by first | lia | omega) (by first | lia | omega) | lia | omega))
      · rw [if_neg hx0, if_neg hx0]
        by_cases hy0 : Y = 0
        · rw [if_pos hy0, if_pos hy0]
          exact (fq_sub (fq_add fq_lit2 qr (by (first | assumption | decide | exact nb53 (by first | lia | omega) (by first | lia | omega) | lia | omega))) qb (by (first | assumption | decide | exact nb53 (by first | lia | omega) (by first | lia | omega) | lia | omega))).as _ (by (first | assumption | decide | exact nb53 (by first | lia | omega) (by first | lia | omega) | lia | omega))
        · rw [if_neg hy0, if_neg hy0]
          exact (fq_sub (fq_add fq_lit4 qg (by (first | assumption | decide | exact nb53 (by first | lia | omega) (by first | lia | omega) | lia | omega))) qr (by (first | assumption | decide | exact nb53 (by first | lia | omega) (by first | lia | omega) | lia | omega))).as _ (by (first | assumption | decide | exact nb53 (by first | lia | omega) (by first | lia | omega) | lia | omega))
    · rw [fq_cmp qm qM, cmp_eqT, decide_eq_false]
      have e3 : val * (1024 - share * 256) = val * 1024 - val * share * 256 := by grind
      rw [e3]; (first | assumption | decide | exact nb53 (by first | lia | omega) (by first | lia | omega) | lia | omega)
  obtain ⟨b1, b2, b3, b4, b5, z, b6, b7, b8, b9⟩ := colX_box n
  exact key _ _ _ hr hg hb b1 b2 b3 b4 b5 ⟨z, b6, b7, b8, b9⟩
end Mine
end
section
open PySem PySem.W PyProof.Rows
namespace Mine
theorem fq_divI {a d : Int} (c : Int) (ha : 0 ≤ a) (hd : 0 < d) (hc : a * 2 ^ 20 = c * d) (h : c.natAbs < 2 ^ 53) : FQ (Float64.ofFrac (decide (a < 0) != decide (d < 0)) a.natAbs d.natAbs) c := by
  rw [decide_eq_false (by (first | lia | omega) : ¬ a < 0), decide_eq_false (by (first | lia | omega) : ¬ d < 0)]
  exact fq_ofFrac c ha (by (first | lia | omega)) (by rw [show ((d.natAbs : Nat) : Int) = d by (first | lia | omega)]; exact hc) h
theorem fq_d512 {a : Int} (ha : 0 ≤ a ∧ a < 100000) : FQ (Float64.ofFrac (decide (a < 0) != decide ((512 : Int) < 0)) a.natAbs (512 : Int).natAbs) (a * 2 ^ 11) := fq_divI _ ha.1 (by decide) (by (first | lia | omega)) (by (first | lia | omega))
theorem fq_d4s {a : Int} (ha : 0 ≤ a ∧ a < 100000) : FQ (Float64.ofFrac (decide (a < 0) != decide ((4 : Int) < 0)) a.natAbs (4 : Int).natAbs) (a * 2 ^ 18) := fq_divI _ ha.1 (by decide) (by (first | lia | omega)) (by (first | lia | omega))
end Mine
end
section
open PySem PySem.W PyProof.Rows
namespace Mine
open PySem.SeqAt
section
variable {A : Around} {s : Shared}
theorem same_floats {M : Model} {A : Around} {E : Value → Shared → Prop} {s : Shared} {x y : UInt64} {t u : Tok} {Q : Bool → Shared → Prop} (hb : NoneBooked s.heap) (ht : (t : Nat) ≠ 0) (hu : (u : Nat) ≠ 0) (hq : ∀ b, Q b s) :
    wpAny M A (isSame (.float x t) (.float y u)) Q E s := by
  show wpAny M A (isSame.created (x == y && !Float64.isNaN x) t u) Q E s
  have h0 : (t == 0 || u == 0) = false := by
    have e1 : (t == 0) = false := beq_eq_false_iff_ne.mpr ht
    have e2 : (u == 0) = false := beq_eq_false_iff_ne.mpr hu
    rw [e1, e2]; rfl
  unfold isSame.created
  rw [h0]
  simp only [Bool.false_eq_true, if_false]
  refine wpAny_ite_split (fun _ => wpAny_pure (hq _)) (fun _ => wpAny_ite_split (fun _ => wpAny_pure (hq _)) (fun _ => ?_))
  refine wpAny_bind (wpAny_sharingNotTold_none hb ?_)
  simp only [Bool.false_eq_true, if_false]
  refine wpAny_bind (wpAny_sharingNotTold_none hb ?_)
  simp only [Bool.false_eq_true, if_false]
  exact wpAny_bind (wpAny_rule (wpAny_bind (wpAny_askSetting (wpAny_pure (hq _)))))
theorem eq_fq_fq {x y : UInt64} {a b : Int} {t u : Tok} (hb : NoneBooked s.heap) (ht : (t : Nat) ≠ 0) (hu : (u : Nat) ≠ 0) (hx : FQ x a) (hy : FQ y b) (h : a = b) : EqAt A s (.float x t) (.float y u) true := fun prog w E Q hq => by
  unfold eqBool
  refine wpAny_holding ?_
  refine wpAny_ite_split (fun hab => ?_) (fun _ => ?_)
  · exact wpAny_bind (wpAny_rule (wpAny_pure hq))
  · refine wpAny_bind (same_floats hb ht hu fun b' => ?_)
    cases b' with
    | true => exact wpAny_pure hq
    | false =>
      refine wpAny_bind (AutoFloatOps.eq_0 (wpAny_truthy_bool ?_))
      rw [fq_cmp hx hy, cmp_eqT, decide_eq_true h]; exact hq
theorem booked_of {K : Frag} {h : Heap} (X : K.In h) (T : h.NoLimit) (e : nsIn K cStatics sharingNotToldKey = some none) : NoneBooked h := by
  obtain ⟨mc, hn, _⟩ := T
  refine ⟨mc, hn, ?_⟩
  obtain ⟨o, es, ep, ho, hd, _, hf⟩ := hn
  unfold nsIn at e
  split at e
  · rename_i c d es' n' sl q
    have := X _ _ q
    rw [ho] at this
    cases this
    cases hd
    split at e
    · cases e
    · rename_i he
      rw [← hf]
      unfold nsFind findBy
      rw [← Array.find?_toList, he]
      rfl
  · cases e
theorem NoneBooked.keeps {h h' : Heap} (x : NoneBooked h) (hk : ∀ b o, h.get? b = some o → h'.get? b = some o) : NoneBooked h' := let ⟨mc, hn, e⟩ := x; ⟨mc, hn.keeps hk, e⟩
theorem eq_ints {a b : Int} {t u : Tok} (h : a = b) : EqAt A s (.int a t) (.int b u) true := by
  have := EqAt.int_int (A := A) (s := s) a t b u
  rw [h, beq_self_eq_true] at this
  rw [h]; exact this

/-- item by item equal -/
inductive EqAll (A : Around) (s : Shared) : List Value → List Value → Prop
  | nil : EqAll A s [] []
  | cons {x y xs ys} : EqAt A s x y true → EqAll A s xs ys → EqAll A s (x :: xs) (y :: ys)
theorem EqAll.length {xs ys : List Value} (h : EqAll A s xs ys) : xs.length = ys.length := by
  induction h with
  | nil => rfl
  | cons _ _ ih => simp [ih]
theorem EqAll.get {xs ys : List Value} (h : EqAll A s xs ys) : ∀ j (h1 : j < xs.length) (h2 : j < ys.length), EqAt A s xs[j] ys[j] true := by
  induction h with
  | nil => intro j h1; simp at h1
  | cons hx _ ih =>
    intro j h1 h2
    cases j with
    | zero => exact hx
    | succ j => exact ih j (by simpa using h1) (by simpa using h2)
end
section
variable {prog : Program} {w : World} {A : Around} {E : Value → Shared → Prop} {s : Shared}
theorem ne_lists {l b : Addr} {xs ys : List Value} {Q : Value → Shared → Prop} (hl : s.heap.IsList l xs.toArray) (hb : s.heap.IsList b ys.toArray) (hu : A.units < cLine) (he : EqAll A.in1 s xs ys) (h : Q (.bool false) s) :
    wpAny (model prog w) A (compareOp .NotEq (.ref l) (.ref b)) Q E s := by
  refine RcNeAt.lists (e := fun _ => true) hl hb (by simpa using he.length) hu (fun j h1 h2 => ?_) prog w E Q ?_
  · exact he.get j (by simpa using h1) (by simpa using h2)
  · have : (!(List.range xs.toArray.size).all fun _ => true) = false := by simp
    rw [this]; exact h
end

section
variable {α : Type} {M : Model} {A : Around} {t : Sem α} {Q : α → Shared → Prop} {E : Value → Shared → Prop} {h : Heap} {g : Array GenState} {d : Drawn} {k n : Nat} {os : OsState}
theorem gen_toks1 (hq : ∀ tk : Nat, tk ≠ 0 → wpAny M A t Q E ⟨h, g, d, tk, os⟩) : wpAny M A t Q E ⟨h, g, d, k + 1, os⟩ := hq _ (Nat.succ_ne_zero _)
end
end Mine
end
section
open PySem PySem.W PyProof.Rows
namespace Mine

/-- a row of ints that rises -/
noncomputable def Srt (ns : List Int) : Prop := ns.Pairwise (· ≤ ·)
theorem Srt.at {ns : List Int} (h : Srt ns) (i j : Nat) (hij : i ≤ j) (hj : j < ns.length) : ns.getD i 0 ≤ ns.getD j 0 := by
  rcases Nat.lt_or_eq_of_le hij with h1 | h1
  · have := List.pairwise_iff_getElem.mp h i j (by (first | lia | omega)) hj h1
    simpa [List.getD_eq_getElem?_getD, List.getElem?_eq_getElem hj, List.getElem?_eq_getElem (show i < ns.length by (first | lia | omega))] using this
  · rw [h1]; exact Int.le_refl _
noncomputable def cL (ns : List Int) (x : Int) : Nat := ns.countP (fun y => decide (y < x))
noncomputable def cR (ns : List Int) (x : Int) : Nat := ns.countP (fun y => decide (y ≤ x))
/-- what lies below lo is less than x, what lies from hi on is not -/
noncomputable def BL (x : Int) (ns : List Int) (lo hi : Int) : Prop := (∀ i : Nat, (i : Int) < lo → ns.getD i 0 < x) ∧ ∀ i : Nat, hi ≤ (i : Int) → i < ns.length → x ≤ ns.getD i 0
noncomputable def BR (x : Int) (ns : List Int) (lo hi : Int) : Prop := (∀ i : Nat, (i : Int) < lo → ns.getD i 0 ≤ x) ∧ ∀ i : Nat, hi ≤ (i : Int) → i < ns.length → x < ns.getD i 0

theorem mid_eq (lo hi : Int) : (lo + hi).fdiv 2 = (lo + hi) / 2 := by rw [Int.fdiv_eq_ediv_of_nonneg _ (by decide)]

theorem bl_start (x : Int) (ns : List Int) : 0 ≤ (0 : Int) ∧ (0 : Int) ≤ (ns.length : Int) ∧ (ns.length : Int) ≤ ns.length ∧ BL x ns 0 ns.length :=
  ⟨by (first | lia | omega), by (first | lia | omega), by (first | lia | omega), fun i h => by (first | lia | omega), fun i h h' => by (first | lia | omega)⟩
theorem bl_up {x : Int} {ns : List Int} {lo hi : Int} (hs : Srt ns) (h1 : 0 ≤ lo) (_h2 : lo ≤ hi) (h3 : hi ≤ (ns.length : Int)) (h : BL x ns lo hi) (hlt : lo < hi) (hx : ns.getD ((lo + hi).fdiv 2).toNat 0 < x) :
    0 ≤ (lo + hi).fdiv 2 + 1 ∧ (lo + hi).fdiv 2 + 1 ≤ hi ∧ hi ≤ (ns.length : Int) ∧ BL x ns ((lo + hi).fdiv 2 + 1) hi := by
  rw [mid_eq] at *
  refine ⟨by (first | lia | omega), by (first | lia | omega), h3, fun i hi' => ?_, h.2⟩
  exact Int.lt_of_le_of_lt (hs.at i _ (by (first | lia | omega)) (by (first | lia | omega))) hx
theorem bl_dn {x : Int} {ns : List Int} {lo hi : Int} (hs : Srt ns) (h1 : 0 ≤ lo) (_h2 : lo ≤ hi) (h3 : hi ≤ (ns.length : Int)) (h : BL x ns lo hi) (hlt : lo < hi) (hx : ¬ ns.getD ((lo + hi).fdiv 2).toNat 0 < x) :
    0 ≤ lo ∧ lo ≤ (lo + hi).fdiv 2 ∧ (lo + hi).fdiv 2 ≤ (ns.length : Int) ∧ BL x ns lo ((lo + hi).fdiv 2) := by
  rw [mid_eq] at *
  refine ⟨h1, by (first | lia | omega), by (first | lia | omega), h.1, fun i hi' hl => ?_⟩
  have h5 := hs.at ((lo + hi) / 2).toNat i (by (first | lia | omega)) hl
  (first | lia | omega)
theorem br_start (x : Int) (ns : List Int) : 0 ≤ (0 : Int) ∧ (0 : Int) ≤ (ns.length : Int) ∧ (ns.length : Int) ≤ ns.length ∧ BR x ns 0 ns.length :=
  ⟨by omega, by omega, by omega, fun i h => by omega, fun i h h' => by omega⟩
theorem br_up {x : Int} {ns : List Int} {lo hi : Int} (hs : Srt ns) (h1 : 0 ≤ lo) (_h2 : lo ≤ hi) (h3 : hi ≤ (ns.length : Int)) (h : BR x ns lo hi) (hlt : lo < hi) (hx : ¬ x < ns.getD ((lo + hi).fdiv 2).toNat 0) :
    0 ≤ (lo + hi).fdiv 2 + 1 ∧ (lo + hi).fdiv 2 + 1 ≤ hi ∧ hi ≤ (ns.length : Int) ∧ BR x ns ((lo + hi).fdiv 2 + 1) hi := by
  rw [mid_eq] at *
  refine ⟨by (first | lia | omega), by (first | lia | omega), h3, fun i hi' => ?_, h.2⟩
  have := hs.at i ((lo + hi) / 2).toNat (by (first | lia | omega)) (by (first | lia | omega))
  (first | lia | omega)
theorem br_dn {x : Int} {ns : List Int} {lo hi : Int} (hs : Srt ns) (h1 : 0 ≤ lo) (_h2 : lo ≤ hi) (h3 : hi ≤ (ns.length : Int)) (h : BR x ns lo hi) (hlt : lo < hi) (hx : x < ns.getD ((lo + hi).fdiv 2).toNat 0) :
    0 ≤ lo ∧ lo ≤ (lo + hi).fdiv 2 ∧ (lo + hi).fdiv 2 ≤ (ns.length : Int) ∧ BR x ns lo ((lo + hi).fdiv 2) := by
  rw [mid_eq] at *
  refine ⟨h1, by (first | lia | omega), by (first | lia | omega), h.1, fun i hi' hl => ?_⟩
  have h5 := hs.at ((lo + hi) / 2).toNat i (by (first | lia | omega)) hl
  (first | lia | omega)
theorem mid_less1 {lo hi : Int} (hlt : lo < hi) : (hi - ((lo + hi).fdiv 2 + 1)).toNat < (hi - lo).toNat := by rw [mid_eq]; omega
theorem mid_less2 {lo hi : Int} (hlt : lo < hi) : ((lo + hi).fdiv 2 - lo).toNat < (hi - lo).toNat := by rw [mid_eq]; (first | lia | omega)

theorem countP_at {q : Int → Bool} {ns : List Int} {p : Nat} (hp : p ≤ ns.length) (h1 : ∀ i, i < p → q (ns.getD i 0) = true) (h2 : ∀ i, p ≤ i → i < ns.length → q (ns.getD i 0) = false) : ns.countP q = p := by
  induction ns generalizing p with
  | nil => simp at hp; simp [hp]
  | cons y r ih =>
    cases p with
    | zero =>
      rw [List.countP_eq_zero]
      intro z hz
      obtain ⟨i, hi, he⟩ := List.getElem_of_mem hz
      have := h2 i (by (first | lia | omega)) hi
      rw [List.getD_eq_getElem?_getD, List.getElem?_eq_getElem hi] at this
      simp only [Option.getD_some, he] at this
      simp [this]
    | succ p =>
      have h0 := h1 0 (by (first | lia | omega))
      simp only [List.getD_cons_zero] at h0
      rw [List.countP_cons_of_pos h0, ih (p := p) (by simpa using hp) (fun i hi => by simpa using h1 (i + 1) (by (first | lia | omega))) (fun i hi hl => by simpa using h2 (i + 1) (by (first | lia | omega)) (by simpa using hl))]

theorem bl_end {x : Int} {ns : List Int} {lo hi : Int} (h1 : 0 ≤ lo) (h2 : lo ≤ hi) (h3 : hi ≤ (ns.length : Int)) (h : BL x ns lo hi) (hlt : ¬ lo < hi) : lo = (cL ns x : Int) := by
  have : lo = hi := by (first | lia | omega)
  subst this
  have := countP_at (q := fun y => decide (y < x)) (ns := ns) (p := lo.toNat) (by (first | lia | omega)) (fun i hi' => by simpa using h.1 i (by (first | lia | omega))) (fun i hi' hl => by simpa using h.2 i (by (first | lia | omega)) hl)
  unfold cL
  rw [this]; (first | lia | omega)
theorem br_end {x : Int} {ns : List Int} {lo hi : Int} (h1 : 0 ≤ lo) (h2 : lo ≤ hi) (h3 : hi ≤ (ns.length : Int)) (h : BR x ns lo hi) (hlt : ¬ lo < hi) : lo = (cR ns x : Int) := by
  have : lo = hi := by (first | lia | omega)
  subst this
  have := countP_at (q := fun y => decide (y ≤ x)) (ns := ns) (p := lo.toNat) (by (first | lia | omega)) (fun i hi' => by simpa using h.1 i (by (first | lia | omega))) (fun i hi' hl => by simpa using h.2 i (by (first | lia | omega)) hl)
  unfold cR
  rw [this]; (first | lia | omega)

/-- an int laid into a row at place k -/
noncomputable def insI (ns : List Int) (k : Nat) (x : Int) : List Int := ns.take k ++ x :: ns.drop k
noncomputable def insV (vs : List Value) (k : Nat) (v : Value) : List Value := vs.take k ++ v :: vs.drop k
theorem IntsAre.takeM {vs : List Value} {ns : List Int} (h : IntsAre vs ns) (k : Nat) : IntsAre (vs.take k) (ns.take k) := by
  induction h generalizing k with
  | nil => simp; exact .nil
  | cons n t _ ih => cases k with
    | zero => exact .nil
    | succ k => exact .cons n t (ih k)
theorem IntsAre.dropM {vs : List Value} {ns : List Int} (h : IntsAre vs ns) (k : Nat) : IntsAre (vs.drop k) (ns.drop k) := by
  induction h generalizing k with
  | nil => simp; exact .nil
  | cons n t h ih => cases k with
    | zero => exact .cons n t h
    | succ k => exact ih k
theorem ints_ins {vs : List Value} {ns : List Int} (h : IntsAre vs ns) (k : Nat) (x : Int) (t : Tok) : IntsAre (insV vs k (.int x t)) (insI ns k x) :=
  PyProof.Rows.IntsAre.append (IntsAre.takeM h k) (.cons x t (IntsAre.dropM h k))
theorem insI_length (ns : List Int) (k : Nat) (x : Int) : (insI ns k x).length = ns.length + 1 := by
  unfold insI; rw [List.length_append, List.length_cons, List.length_take, List.length_drop]; omega
theorem insI_perm (ns : List Int) (k : Nat) (x : Int) : (insI ns k x).Perm (x :: ns) := by
  unfold insI
  refine List.perm_middle.trans ?_
  rw [List.take_append_drop]
theorem cL_le (ns : List Int) (x : Int) : cL ns x ≤ ns.length := List.countP_le_length
theorem cR_le (ns : List Int) (x : Int) : cR ns x ≤ ns.length := List.countP_le_length
theorem insL_cons (y : Int) (r : List Int) (x : Int) (h : Srt (y :: r)) : insI (y :: r) (cL (y :: r) x) x = if y < x then y :: insI r (cL r x) x else x :: y :: r := by
  split
  · rename_i h1
    have e : cL (y :: r) x = cL r x + 1 := by unfold cL; rw [List.countP_cons_of_pos (by simpa using h1)]
    rw [e]; rfl
  · rename_i h1
    have e : cL (y :: r) x = 0 := by
      unfold cL; rw [List.countP_eq_zero]
      intro z hz
      rcases List.mem_cons.mp hz with rfl | hz
      · simpa using h1
      · have := (List.pairwise_cons.mp h).1 z hz
        simp; (first | lia | omega)
    rw [e]; rfl
theorem insR_cons (y : Int) (r : List Int) (x : Int) (h : Srt (y :: r)) : insI (y :: r) (cR (y :: r) x) x = if y ≤ x then y :: insI r (cR r x) x else x :: y :: r := by
  split
  · rename_i h1
    have e : cR (y :: r) x = cR r x + 1 := by unfold cR; rw [List.countP_cons_of_pos (by simpa using h1)]
    rw [e]; rfl
  · rename_i h1
    have e : cR (y :: r) x = 0 := by
      unfold cR; rw [List.countP_eq_zero]
      intro z hz
      rcases List.mem_cons.mp hz with rfl | hz
      · simpa using h1
      · have := (List.pairwise_cons.mp h).1 z hz
        simp; (first | lia | omega)
    rw [e]; rfl
theorem srt_insL {ns : List Int} (h : Srt ns) (x : Int) : Srt (insI ns (cL ns x) x) := by
  induction ns with
  | nil => unfold insI; simp [Srt]
  | cons y r ih =>
    rw [insL_cons y r x h]
    have h2 := List.pairwise_cons.mp h
    split
    · refine List.pairwise_cons.mpr ⟨fun z hz => ?_, ih h2.2⟩
      rcases List.mem_cons.mp ((insI_perm r _ x).mem_iff.mp hz) with rfl | hz
      · (first | lia | omega)
      · exact h2.1 z hz
    · refine List.pairwise_cons.mpr ⟨fun z hz => ?_, h⟩
      rcases List.mem_cons.mp hz with rfl | hz
      · (first | lia | omega)
      · have := h2.1 z hz; (first | lia | omega)
theorem srt_insR {ns : List Int} (h : Srt ns) (x : Int) : Srt (insI ns (cR ns x) x) := by
  induction ns with
  | nil => unfold insI; simp [Srt]
  | cons y r ih =>
    rw [insR_cons y r x h]
    have h2 := List.pairwise_cons.mp h
    split
    · refine List.pairwise_cons.mpr ⟨fun z hz => ?_, ih h2.2⟩
      rcases List.mem_cons.mp ((insI_perm r _ x).mem_iff.mp hz) with rfl | hz
      · (first | lia | omega)
      · exact h2.1 z hz
    · refine List.pairwise_cons.mpr ⟨fun z hz => ?_, h⟩
      rcases List.mem_cons.mp hz with rfl | hz
      · (first | lia | omega)
      · have := h2.1 z hz; (first | lia | omega)
theorem srt_uniq {a b : List Int} (ha : Srt a) (hb : Srt b) (h : a.Perm b) : a = b := by
  induction a generalizing b with
  | nil => exact (List.nil_perm.mp h).symm
  | cons x r ih =>
    cases b with
    | nil => exact absurd (List.perm_nil.mp h) (by simp)
    | cons y q =>
      have e : x = y := by
        have hx : x ∈ y :: q := h.mem_iff.mp (.head _)
        have hy : y ∈ x :: r := h.mem_iff.mpr (.head _)
        have h1 := List.pairwise_cons.mp ha
        have h2 := List.pairwise_cons.mp hb
        rcases List.mem_cons.mp hx with e | hx
        · exact e
        · rcases List.mem_cons.mp hy with e | hy
          · exact e.symm
          · have := h1.1 y hy; have := h2.1 x hx; (first | lia | omega)
      subst e
      rw [ih (List.pairwise_cons.mp ha).2 (List.pairwise_cons.mp hb).2 (List.perm_cons x |>.mp h)]

section
open PySem.Calls PySem.Spec
theorem my_insert {prog : Program} {w : World} {A : Around} {E : Value → Shared → Prop} {s : Shared} {h₀ : Heap} {L D : Addr} {m : Str → Option Value} {news news' : List (Addr × Obj)} {n : Nat} {vs : List Value} {k : Nat} {u : Tok} {y : Value} {Q : Value → Shared → Prop}
    (F : Fr h₀ L s.heap m) (N : News h₀ L s.heap news) (hm : (D, listOf vs.toArray n) ∈ news) (hk : k ≤ vs.length) (hv : vs.length < 1000)
    (U : Upd D (listOf vs.toArray n) (listOf (insV vs k y).toArray (n + 1)) news news') (h : ∀ h', Fr h₀ L h' m → News h₀ L h' news' → Q .none { s with heap := h' }) :
    wpAny (model prog w) A (call (.builtin "list.insert") [.ref D, .int (k : Int) u, y]) Q E s := by
  have _ := hm
  refine kl_insert (its := vs.toArray) (n := n) (l := insV vs k y) (news' := news') F N ?_ ?_ U ?_ h
  · unfold Builtin.List.listFitsIndex
    simp only [Bool.and_eq_true, decide_eq_true_eq]
    (first | lia | omega)
  · unfold kl_ins insV
    rw [if_neg (by (first | lia | omega))]
    have : min (k : Int).toNat vs.length = k := by (first | lia | omega)
    simp only [this]
  · simp only []
    rw [sizeLine_eq]; (first | lia | omega)
end
end Mine
end
section
namespace Mine
noncomputable def goNames : List String := ["enumerate", "zip", "dict_itemiterator", "dict_reverseitemiterator", "odict_iterator", "itertools.zip_longest", "itertools.pairwise"]
/-- an iterator that is no pair-giving one is left alone by the loop's unpacking -/
theorem letGo_plain {prog : Program} {w : World} {A : Around} {E : Value → Shared → Prop} {s : Shared} {target : Expr} {I : Addr} {v : Value} {o : Obj} {n : String} {Q : Unit → Shared → Prop} (ho : s.heap.get? I = some o) (hc : o.cls = .type n) (hn : goNames.contains n = false) (hQ : Q () s) : wpAny (model prog w) A (letOwnedTupleGo target (.ref I) v) Q E s := by
  have key : ∀ a : Addr, wpAny (model prog w) A (do
      let o ← load I
      match o.cls, o.data with
      | .type n, .fields vs =>
        if goNames.contains n && vs[0]? == some (rawInt a) then
          rule "for.unpacks-the-owned-tuple"
          updateField I 0 .none
      | _, _ => pure ()) Q E s := by
    intro a
    refine wpAny_bind (wpAny_load ho ?_)
    rw [hc]
    cases o.data <;> first | exact wpAny_pure hQ | (simp only [hn, Bool.false_and, Bool.false_eq_true, if_false]; exact wpAny_pure hQ)
  cases target <;> first | exact wpAny_pure hQ | (cases v <;> first | exact wpAny_pure hQ | exact key _)

/-- a comprehension's source: how its iterator goes, whatever else is turned meanwhile but what the ledger holds -/
structure SrcAt (prog : Program) (w : World) (A : Around) (h₀ : Heap) (L : Addr) (m : Str → Option Value) (news : List (Addr × Obj)) (n : Nat) (P : Nat → Value → Prop) (s₁ : Shared) (it : Value) (s₂ : Shared) : Prop where
  ex : ∃ (I : Addr) (fp : List Addr) (St : Nat → Heap → Prop), it = .ref I ∧ Walks prog w A I fp [I] n P St ∧ (∀ i h, St i h → ∃ o n, h.get? I = some o ∧ o.cls = .type n ∧ goNames.contains n = false) ∧
    (∀ i h h' o, St i h → h.get? I = some o → h'.get? I = some o → (∀ b o, h₀.get? b = some o → h'.get? b = some o) → News h₀ L h' news → St i h') ∧
    St 0 s₂.heap ∧ (∀ b ∈ fp, b < s₂.heap.objs.size) ∧ L ≠ I ∧ h₀.get? I = none ∧ (∀ p ∈ news, p.1 ≠ I) ∧ Fr h₀ L s₂.heap m ∧ News h₀ L s₂.heap news ∧ ∃ h, s₂ = { s₁ with heap := h }

section
variable {prog : Program} {w : World} {A : Around} {E : Value → Shared → Prop} {s : Shared} {h₀ : Heap} {L : Addr} {m : Str → Option Value} {news : List (Addr × Obj)}
theorem src_pushed {I : Addr} {oI : Obj} (F : Fr h₀ L s.heap m) (N : News h₀ L s.heap news) (hI : I = s.heap.objs.size) :
    L ≠ I ∧ h₀.get? I = none ∧ (∀ p ∈ news, p.1 ≠ I) ∧ Fr h₀ L (s.heap.push oI) m ∧ News h₀ L (s.heap.push oI) news := by
  subst hI
  exact ⟨Nat.ne_of_lt F.ns.lt, next_is_new F, fun p hp => Nat.ne_of_lt (Heap.lt_size (N p hp).1), F.push _, fun p hp => ⟨Heap.get?_push_of_some _ (N p hp).1, (N p hp).2⟩⟩

theorem src_list {ax : Addr} {its : Array Value} {k : Nat} {Q : Value → Shared → Prop} (hh : A.handled = none) (F : Fr h₀ L s.heap m) (N : News h₀ L s.heap news) (hm : (ax, ({ cls := .type "list", data := .seq its k } : Obj)) ∈ news)
    (h : ∀ it s₂, SrcAt prog w A h₀ L m news its.size (fun i v => its[i]? = some v) s it s₂ → Q it s₂) : wpAny (model prog w) A (pyIter (.ref ax)) Q E s := by
  have hg := (N _ hm).1
  have hl : s.heap.IsList ax its := ⟨_, hg, rfl, k, rfl⟩
  have hlt : ax < s.heap.objs.size := Heap.lt_size hg
  refine wpAny_pyIter_list hl (h _ _ ⟨s.heap.objs.size, _, _, rfl, Walks.list hh s.heap.objs.size ax (Nat.ne_of_lt hlt) its, fun i h st => ?_, fun i h h' o st e e' hk N' => ?_, ⟨⟨_, Heap.get?_push_size _ rfl, rfl, rfl⟩, hl.push _⟩, fun b hb => ?_, ?_⟩)
  · obtain ⟨o, e, hc, _⟩ := st.1; exact ⟨o, "list_iterator", e, hc, by decide⟩
  · refine ⟨?_, ⟨_, (N' _ hm).1, rfl, k, rfl⟩⟩
    obtain ⟨o', q, r⟩ := st.1; rw [e] at q; cases q; exact ⟨o, e', r⟩
  · show b < (s.heap.push _).objs.size
    rw [Heap.size_push]
    rcases List.mem_cons.mp hb with rfl | hb
    · exact Nat.lt_succ_self _
    · rw [List.mem_singleton.mp hb]; exact Nat.lt_succ_of_lt hlt
  · obtain ⟨a1, a2, a3, a4, a5⟩ := src_pushed (oI := { cls := .type "list_iterator", data := .fields #[.ref ax, .int 0 0] }) F N rfl
    exact ⟨a1, a2, a3, a4, a5, _, rfl⟩
theorem src_range {r : Addr} {a b : Int} {t u v : Tok} {n : Nat} {Q : Value → Shared → Prop} (hh : A.handled = none) (F : Fr h₀ L s.heap m) (N : News h₀ L s.heap news) (hr : IsRange s.heap r a b 1 t u v) (hsm : Builtin.Range.small a b 1 = true) (hn : Builtin.Range.rangeSize a b 1 = ((n : Nat) : Int))
    (h : ∀ it s₂, SrcAt prog w A h₀ L m news n (fun i v => ∃ t, v = .int (a + (i : Int)) t) s it s₂ → Q it s₂) : wpAny (model prog w) A (pyIter (.ref r)) Q E s := by
  refine wpAny_pyIter_range hr hsm (h _ _ ⟨s.heap.objs.size, _, _, rfl, LCg.range_walks hh a n, fun i h st => ⟨_, "range_iterator", st, rfl, by decide⟩, fun i h h' o st e e' hk N' => ?_, by show IsRangeIter _ _ _ _ _; rw [hn]; simpa using Heap.get?_push_size _ rfl, fun b hb => ?_, ?_⟩)
  · have st' : h.get? s.heap.objs.size = some _ := st
    show h'.get? s.heap.objs.size = some _
    rw [e', ← e]; exact st'
  · show b < (s.heap.push _).objs.size
    rw [Heap.size_push, List.mem_singleton.mp hb]
    exact Nat.lt_succ_self _
  · obtain ⟨a1, a2, a3, a4, a5⟩ := src_pushed (oI := _) F N rfl
    exact ⟨a1, a2, a3, a4, a5, _, rfl⟩

noncomputable abbrev testsOf (ifs : List Expr) (env : Env) : Sem Bool := forIn ifs true fun c r => if r = true then do let ok ← isTrue c env (eval c env); pure (ForInStep.yield ok) else pure (ForInStep.yield r)

noncomputable def CFinE (Q : Value → Shared → Prop) (h₀ : Heap) (L : Addr) (m : Str → Option Value) (led : List (Addr × Obj)) (D : Addr) (s₂ : Shared) : Prop :=
  ∀ h tk, Fr h₀ L h m → News h₀ L h led → Q (.ref D) { s₂ with heap := h, toks := tk }
noncomputable def CFinA (y : Str) (Q : Flow → Shared → Prop) (h₀ : Heap) (L : Addr) (m : Str → Option Value) (led : List (Addr × Obj)) (D : Addr) (s₂ : Shared) : Prop :=
  ∀ h tk, Fr h₀ L h (fun z => if z = y then some (.ref D) else m z) → News h₀ L h led → Q .next { s₂ with heap := h, toks := tk }
end
end Mine
end
section
namespace Mine
theorem a2 {P0 P1 : Prop} {G : Prop} (h : P0 ∧ P1) (k : P0 → P1 → G) : G := k h.1 h.2
theorem a3 {P0 P1 P2 : Prop} {G : Prop} (h : P0 ∧ P1 ∧ P2) (k : P0 → P1 → P2 → G) : G := k h.1 h.2.1 h.2.2
theorem a4 {P0 P1 P2 P3 : Prop} {G : Prop} (h : P0 ∧ P1 ∧ P2 ∧ P3) (k : P0 → P1 → P2 → P3 → G) : G := k h.1 h.2.1 h.2.2.1 h.2.2.2
theorem a5 {P0 P1 P2 P3 P4 : Prop} {G : Prop} (h : P0 ∧ P1 ∧ P2 ∧ P3 ∧ P4) (k : P0 → P1 → P2 → P3 → P4 → G) : G := k h.1 h.2.1 h.2.2.1 h.2.2.2.1 h.2.2.2.2
theorem e1a1 {T0 : Type} {P0 : T0 → Prop} {G : Prop} (h : ∃ (x0 : T0), P0 x0) (k : ∀ (x0 : T0), P0 x0 → G) : G := Exists.elim h fun x0 h0 => k x0 h0
theorem e1a2 {T0 : Type} {P0 P1 : T0 → Prop} {G : Prop} (h : ∃ (x0 : T0), P0 x0 ∧ P1 x0) (k : ∀ (x0 : T0), P0 x0 → P1 x0 → G) : G := Exists.elim h fun x0 h0 => k x0 h0.1 h0.2
theorem e1a3 {T0 : Type} {P0 P1 P2 : T0 → Prop} {G : Prop} (h : ∃ (x0 : T0), P0 x0 ∧ P1 x0 ∧ P2 x0) (k : ∀ (x0 : T0), P0 x0 → P1 x0 → P2 x0 → G) : G := Exists.elim h fun x0 h0 => k x0 h0.1 h0.2.1 h0.2.2
theorem e1a4 {T0 : Type} {P0 P1 P2 P3 : T0 → Prop} {G : Prop} (h : ∃ (x0 : T0), P0 x0 ∧ P1 x0 ∧ P2 x0 ∧ P3 x0) (k : ∀ (x0 : T0), P0 x0 → P1 x0 → P2 x0 → P3 x0 → G) : G := Exists.elim h fun x0 h0 => k x0 h0.1 h0.2.1 h0.2.2.1 h0.2.2.2
theorem e1a5 {T0 : Type} {P0 P1 P2 P3 P4 : T0 → Prop} {G : Prop} (h : ∃ (x0 : T0), P0 x0 ∧ P1 x0 ∧ P2 x0 ∧ P3 x0 ∧ P4 x0) (k : ∀ (x0 : T0), P0 x0 → P1 x0 → P2 x0 → P3 x0 → P4 x0 → G) : G := Exists.elim h fun x0 h0 => k x0 h0.1 h0.2.1 h0.2.2.1 h0.2.2.2.1 h0.2.2.2.2
theorem e2a2 {T0 T1 : Type} {P0 P1 : T0 → T1 → Prop} {G : Prop} (h : ∃ (x0 : T0) (x1 : T1), P0 x0 x1 ∧ P1 x0 x1) (k : ∀ (x0 : T0) (x1 : T1), P0 x0 x1 → P1 x0 x1 → G) : G := Exists.elim h fun x0 h0 => Exists.elim h0 fun x1 h1 => k x0 x1 h1.1 h1.2
theorem e2a3 {T0 T1 : Type} {P0 P1 P2 : T0 → T1 → Prop} {G : Prop} (h : ∃ (x0 : T0) (x1 : T1), P0 x0 x1 ∧ P1 x0 x1 ∧ P2 x0 x1) (k : ∀ (x0 : T0) (x1 : T1), P0 x0 x1 → P1 x0 x1 → P2 x0 x1 → G) : G := Exists.elim h fun x0 h0 => Exists.elim h0 fun x1 h1 => k x0 x1 h1.1 h1.2.1 h1.2.2
theorem e2a4 {T0 T1 : Type} {P0 P1 P2 P3 : T0 → T1 → Prop} {G : Prop} (h : ∃ (x0 : T0) (x1 : T1), P0 x0 x1 ∧ P1 x0 x1 ∧ P2 x0 x1 ∧ P3 x0 x1) (k : ∀ (x0 : T0) (x1 : T1), P0 x0 x1 → P1 x0 x1 → P2 x0 x1 → P3 x0 x1 → G) : G := Exists.elim h fun x0 h0 => Exists.elim h0 fun x1 h1 => k x0 x1 h1.1 h1.2.1 h1.2.2.1 h1.2.2.2
theorem e2a5 {T0 T1 : Type} {P0 P1 P2 P3 P4 : T0 → T1 → Prop} {G : Prop} (h : ∃ (x0 : T0) (x1 : T1), P0 x0 x1 ∧ P1 x0 x1 ∧ P2 x0 x1 ∧ P3 x0 x1 ∧ P4 x0 x1) (k : ∀ (x0 : T0) (x1 : T1), P0 x0 x1 → P1 x0 x1 → P2 x0 x1 → P3 x0 x1 → P4 x0 x1 → G) : G := Exists.elim h fun x0 h0 => Exists.elim h0 fun x1 h1 => k x0 x1 h1.1 h1.2.1 h1.2.2.1 h1.2.2.2.1 h1.2.2.2.2
theorem e2a6 {T0 T1 : Type} {P0 P1 P2 P3 P4 P5 : T0 → T1 → Prop} {G : Prop} (h : ∃ (x0 : T0) (x1 : T1), P0 x0 x1 ∧ P1 x0 x1 ∧ P2 x0 x1 ∧ P3 x0 x1 ∧ P4 x0 x1 ∧ P5 x0 x1) (k : ∀ (x0 : T0) (x1 : T1), P0 x0 x1 → P1 x0 x1 → P2 x0 x1 → P3 x0 x1 → P4 x0 x1 → P5 x0 x1 → G) : G := Exists.elim h fun x0 h0 => Exists.elim h0 fun x1 h1 => k x0 x1 h1.1 h1.2.1 h1.2.2.1 h1.2.2.2.1 h1.2.2.2.2.1 h1.2.2.2.2.2
theorem e3a2 {T0 T1 T2 : Type} {P0 P1 : T0 → T1 → T2 → Prop} {G : Prop} (h : ∃ (x0 : T0) (x1 : T1) (x2 : T2), P0 x0 x1 x2 ∧ P1 x0 x1 x2) (k : ∀ (x0 : T0) (x1 : T1) (x2 : T2), P0 x0 x1 x2 → P1 x0 x1 x2 → G) : G := Exists.elim h fun x0 h0 => Exists.elim h0 fun x1 h1 => Exists.elim h1 fun x2 h2 => k x0 x1 x2 h2.1 h2.2
theorem e3a3 {T0 T1 T2 : Type} {P0 P1 P2 : T0 → T1 → T2 → Prop} {G : Prop} (h : ∃ (x0 : T0) (x1 : T1) (x2 : T2), P0 x0 x1 x2 ∧ P1 x0 x1 x2 ∧ P2 x0 x1 x2) (k : ∀ (x0 : T0) (x1 : T1) (x2 : T2), P0 x0 x1 x2 → P1 x0 x1 x2 → P2 x0 x1 x2 → G) : G := Exists.elim h fun x0 h0 => Exists.elim h0 fun x1 h1 => Exists.elim h1 fun x2 h2 => k x0 x1 x2 h2.1 h2.2.1 h2.2.2
theorem e3a4 {T0 T1 T2 : Type} {P0 P1 P2 P3 : T0 → T1 → T2 → Prop} {G : Prop} (h : ∃ (x0 : T0) (x1 : T1) (x2 : T2), P0 x0 x1 x2 ∧ P1 x0 x1 x2 ∧ P2 x0 x1 x2 ∧ P3 x0 x1 x2) (k : ∀ (x0 : T0) (x1 : T1) (x2 : T2), P0 x0 x1 x2 → P1 x0 x1 x2 → P2 x0 x1 x2 → P3 x0 x1 x2 → G) : G := Exists.elim h fun x0 h0 => Exists.elim h0 fun x1 h1 => Exists.elim h1 fun x2 h2 => k x0 x1 x2 h2.1 h2.2.1 h2.2.2.1 h2.2.2.2
theorem e3a5 {T0 T1 T2 : Type} {P0 P1 P2 P3 P4 : T0 → T1 → T2 → Prop} {G : Prop} (h : ∃ (x0 : T0) (x1 : T1) (x2 : T2), P0 x0 x1 x2 ∧ P1 x0 x1 x2 ∧ P2 x0 x1 x2 ∧ P3 x0 x1 x2 ∧ P4 x0 x1 x2) (k : ∀ (x0 : T0) (x1 : T1) (x2 : T2), P0 x0 x1 x2 → P1 x0 x1 x2 → P2 x0 x1 x2 → P3 x0 x1 x2 → P4 x0 x1 x2 → G) : G := Exists.elim h fun x0 h0 => Exists.elim h0 fun x1 h1 => Exists.elim h1 fun x2 h2 => k x0 x1 x2 h2.1 h2.2.1 h2.2.2.1 h2.2.2.2.1 h2.2.2.2.2
theorem e3a6 {T0 T1 T2 : Type} {P0 P1 P2 P3 P4 P5 : T0 → T1 → T2 → Prop} {G : Prop} (h : ∃ (x0 : T0) (x1 : T1) (x2 : T2), P0 x0 x1 x2 ∧ P1 x0 x1 x2 ∧ P2 x0 x1 x2 ∧ P3 x0 x1 x2 ∧ P4 x0 x1 x2 ∧ P5 x0 x1 x2) (k : ∀ (x0 : T0) (x1 : T1) (x2 : T2), P0 x0 x1 x2 → P1 x0 x1 x2 → P2 x0 x1 x2 → P3 x0 x1 x2 → P4 x0 x1 x2 → P5 x0 x1 x2 → G) : G := Exists.elim h fun x0 h0 => Exists.elim h0 fun x1 h1 => Exists.elim h1 fun x2 h2 => k x0 x1 x2 h2.1 h2.2.1 h2.2.2.1 h2.2.2.2.1 h2.2.2.2.2.1 h2.2.2.2.2.2
theorem e3a11 {T0 T1 T2 : Type} {P0 P1 P2 P3 P4 P5 P6 P7 P8 P9 P10 : T0 → T1 → T2 → Prop} {G : Prop} (h : ∃ (x0 : T0) (x1 : T1) (x2 : T2), P0 x0 x1 x2 ∧ P1 x0 x1 x2 ∧ P2 x0 x1 x2 ∧ P3 x0 x1 x2 ∧ P4 x0 x1 x2 ∧ P5 x0 x1 x2 ∧ P6 x0 x1 x2 ∧ P7 x0 x1 x2 ∧ P8 x0 x1 x2 ∧ P9 x0 x1 x2 ∧ P10 x0 x1 x2) (k : ∀ (x0 : T0) (x1 : T1) (x2 : T2), P0 x0 x1 x2 → P1 x0 x1 x2 → P2 x0 x1 x2 → P3 x0 x1 x2 → P4 x0 x1 x2 → P5 x0 x1 x2 → P6 x0 x1 x2 → P7 x0 x1 x2 → P8 x0 x1 x2 → P9 x0 x1 x2 → P10 x0 x1 x2 → G) : G := Exists.elim h fun x0 h0 => Exists.elim h0 fun x1 h1 => Exists.elim h1 fun x2 h2 => k x0 x1 x2 h2.1 h2.2.1 h2.2.2.1 h2.2.2.2.1 h2.2.2.2.2.1 h2.2.2.2.2.2.1 h2.2.2.2.2.2.2.1 h2.2.2.2.2.2.2.2.1 h2.2.2.2.2.2.2.2.2.1 h2.2.2.2.2.2.2.2.2.2.1 h2.2.2.2.2.2.2.2.2.2.2
theorem e3a12 {T0 T1 T2 : Type} {P0 P1 P2 P3 P4 P5 P6 P7 P8 P9 P10 P11 : T0 → T1 → T2 → Prop} {G : Prop} (h : ∃ (x0 : T0) (x1 : T1) (x2 : T2), P0 x0 x1 x2 ∧ P1 x0 x1 x2 ∧ P2 x0 x1 x2 ∧ P3 x0 x1 x2 ∧ P4 x0 x1 x2 ∧ P5 x0 x1 x2 ∧ P6 x0 x1 x2 ∧ P7 x0 x1 x2 ∧ P8 x0 x1 x2 ∧ P9 x0 x1 x2 ∧ P10 x0 x1 x2 ∧ P11 x0 x1 x2) (k : ∀ (x0 : T0) (x1 : T1) (x2 : T2), P0 x0 x1 x2 → P1 x0 x1 x2 → P2 x0 x1 x2 → P3 x0 x1 x2 → P4 x0 x1 x2 → P5 x0 x1 x2 → P6 x0 x1 x2 → P7 x0 x1 x2 → P8 x0 x1 x2 → P9 x0 x1 x2 → P10 x0 x1 x2 → P11 x0 x1 x2 → G) : G := Exists.elim h fun x0 h0 => Exists.elim h0 fun x1 h1 => Exists.elim h1 fun x2 h2 => k x0 x1 x2 h2.1 h2.2.1 h2.2.2.1 h2.2.2.2.1 h2.2.2.2.2.1 h2.2.2.2.2.2.1 h2.2.2.2.2.2.2.1 h2.2.2.2.2.2.2.2.1 h2.2.2.2.2.2.2.2.2.1 h2.2.2.2.2.2.2.2.2.2.1 h2.2.2.2.2.2.2.2.2.2.2.1 h2.2.2.2.2.2.2.2.2.2.2.2
theorem e4a1 {T0 T1 T2 T3 : Type} {P0 : T0 → T1 → T2 → T3 → Prop} {G : Prop} (h : ∃ (x0 : T0) (x1 : T1) (x2 : T2) (x3 : T3), P0 x0 x1 x2 x3) (k : ∀ (x0 : T0) (x1 : T1) (x2 : T2) (x3 : T3), P0 x0 x1 x2 x3 → G) : G := Exists.elim h fun x0 h0 => Exists.elim h0 fun x1 h1 => Exists.elim h1 fun x2 h2 => Exists.elim h2 fun x3 h3 => k x0 x1 x2 x3 h3
theorem e4a2 {T0 T1 T2 T3 : Type} {P0 P1 : T0 → T1 → T2 → T3 → Prop} {G : Prop} (h : ∃ (x0 : T0) (x1 : T1) (x2 : T2) (x3 : T3), P0 x0 x1 x2 x3 ∧ P1 x0 x1 x2 x3) (k : ∀ (x0 : T0) (x1 : T1) (x2 : T2) (x3 : T3), P0 x0 x1 x2 x3 → P1 x0 x1 x2 x3 → G) : G := Exists.elim h fun x0 h0 => Exists.elim h0 fun x1 h1 => Exists.elim h1 fun x2 h2 => Exists.elim h2 fun x3 h3 => k x0 x1 x2 x3 h3.1 h3.2
theorem e4a3 {T0 T1 T2 T3 : Type} {P0 P1 P2 : T0 → T1 → T2 → T3 → Prop} {G : Prop} (h : ∃ (x0 : T0) (x1 : T1) (x2 : T2) (x3 : T3), P0 x0 x1 x2 x3 ∧ P1 x0 x1 x2 x3 ∧ P2 x0 x1 x2 x3) (k : ∀ (x0 : T0) (x1 : T1) (x2 : T2) (x3 : T3), P0 x0 x1 x2 x3 → P1 x0 x1 x2 x3 → P2 x0 x1 x2 x3 → G) : G := Exists.elim h fun x0 h0 => Exists.elim h0 fun x1 h1 => Exists.elim h1 fun x2 h2 => Exists.elim h2 fun x3 h3 => k x0 x1 x2 x3 h3.1 h3.2.1 h3.2.2
theorem e4a4 {T0 T1 T2 T3 : Type} {P0 P1 P2 P3 : T0 → T1 → T2 → T3 → Prop} {G : Prop} (h : ∃ (x0 : T0) (x1 : T1) (x2 : T2) (x3 : T3), P0 x0 x1 x2 x3 ∧ P1 x0 x1 x2 x3 ∧ P2 x0 x1 x2 x3 ∧ P3 x0 x1 x2 x3) (k : ∀ (x0 : T0) (x1 : T1) (x2 : T2) (x3 : T3), P0 x0 x1 x2 x3 → P1 x0 x1 x2 x3 → P2 x0 x1 x2 x3 → P3 x0 x1 x2 x3 → G) : G := Exists.elim h fun x0 h0 => Exists.elim h0 fun x1 h1 => Exists.elim h1 fun x2 h2 => Exists.elim h2 fun x3 h3 => k x0 x1 x2 x3 h3.1 h3.2.1 h3.2.2.1 h3.2.2.2
theorem e4a5 {T0 T1 T2 T3 : Type} {P0 P1 P2 P3 P4 : T0 → T1 → T2 → T3 → Prop} {G : Prop} (h : ∃ (x0 : T0) (x1 : T1) (x2 : T2) (x3 : T3), P0 x0 x1 x2 x3 ∧ P1 x0 x1 x2 x3 ∧ P2 x0 x1 x2 x3 ∧ P3 x0 x1 x2 x3 ∧ P4 x0 x1 x2 x3) (k : ∀ (x0 : T0) (x1 : T1) (x2 : T2) (x3 : T3), P0 x0 x1 x2 x3 → P1 x0 x1 x2 x3 → P2 x0 x1 x2 x3 → P3 x0 x1 x2 x3 → P4 x0 x1 x2 x3 → G) : G := Exists.elim h fun x0 h0 => Exists.elim h0 fun x1 h1 => Exists.elim h1 fun x2 h2 => Exists.elim h2 fun x3 h3 => k x0 x1 x2 x3 h3.1 h3.2.1 h3.2.2.1 h3.2.2.2.1 h3.2.2.2.2
theorem e4a8 {T0 T1 T2 T3 : Type} {P0 P1 P2 P3 P4 P5 P6 P7 : T0 → T1 → T2 → T3 → Prop} {G : Prop} (h : ∃ (x0 : T0) (x1 : T1) (x2 : T2) (x3 : T3), P0 x0 x1 x2 x3 ∧ P1 x0 x1 x2 x3 ∧ P2 x0 x1 x2 x3 ∧ P3 x0 x1 x2 x3 ∧ P4 x0 x1 x2 x3 ∧ P5 x0 x1 x2 x3 ∧ P6 x0 x1 x2 x3 ∧ P7 x0 x1 x2 x3) (k : ∀ (x0 : T0) (x1 : T1) (x2 : T2) (x3 : T3), P0 x0 x1 x2 x3 → P1 x0 x1 x2 x3 → P2 x0 x1 x2 x3 → P3 x0 x1 x2 x3 → P4 x0 x1 x2 x3 → P5 x0 x1 x2 x3 → P6 x0 x1 x2 x3 → P7 x0 x1 x2 x3 → G) : G := Exists.elim h fun x0 h0 => Exists.elim h0 fun x1 h1 => Exists.elim h1 fun x2 h2 => Exists.elim h2 fun x3 h3 => k x0 x1 x2 x3 h3.1 h3.2.1 h3.2.2.1 h3.2.2.2.1 h3.2.2.2.2.1 h3.2.2.2.2.2.1 h3.2.2.2.2.2.2.1 h3.2.2.2.2.2.2.2
theorem e4a10 {T0 T1 T2 T3 : Type} {P0 P1 P2 P3 P4 P5 P6 P7 P8 P9 : T0 → T1 → T2 → T3 → Prop} {G : Prop} (h : ∃ (x0 : T0) (x1 : T1) (x2 : T2) (x3 : T3), P0 x0 x1 x2 x3 ∧ P1 x0 x1 x2 x3 ∧ P2 x0 x1 x2 x3 ∧ P3 x0 x1 x2 x3 ∧ P4 x0 x1 x2 x3 ∧ P5 x0 x1 x2 x3 ∧ P6 x0 x1 x2 x3 ∧ P7 x0 x1 x2 x3 ∧ P8 x0 x1 x2 x3 ∧ P9 x0 x1 x2 x3) (k : ∀ (x0 : T0) (x1 : T1) (x2 : T2) (x3 : T3), P0 x0 x1 x2 x3 → P1 x0 x1 x2 x3 → P2 x0 x1 x2 x3 → P3 x0 x1 x2 x3 → P4 x0 x1 x2 x3 → P5 x0 x1 x2 x3 → P6 x0 x1 x2 x3 → P7 x0 x1 x2 x3 → P8 x0 x1 x2 x3 → P9 x0 x1 x2 x3 → G) : G := Exists.elim h fun x0 h0 => Exists.elim h0 fun x1 h1 => Exists.elim h1 fun x2 h2 => Exists.elim h2 fun x3 h3 => k x0 x1 x2 x3 h3.1 h3.2.1 h3.2.2.1 h3.2.2.2.1 h3.2.2.2.2.1 h3.2.2.2.2.2.1 h3.2.2.2.2.2.2.1 h3.2.2.2.2.2.2.2.1 h3.2.2.2.2.2.2.2.2.1 h3.2.2.2.2.2.2.2.2.2
theorem e5a2 {T0 T1 T2 T3 T4 : Type} {P0 P1 : T0 → T1 → T2 → T3 → T4 → Prop} {G : Prop} (h : ∃ (x0 : T0) (x1 : T1) (x2 : T2) (x3 : T3) (x4 : T4), P0 x0 x1 x2 x3 x4 ∧ P1 x0 x1 x2 x3 x4) (k : ∀ (x0 : T0) (x1 : T1) (x2 : T2) (x3 : T3) (x4 : T4), P0 x0 x1 x2 x3 x4 → P1 x0 x1 x2 x3 x4 → G) : G := Exists.elim h fun x0 h0 => Exists.elim h0 fun x1 h1 => Exists.elim h1 fun x2 h2 => Exists.elim h2 fun x3 h3 => Exists.elim h3 fun x4 h4 => k x0 x1 x2 x3 x4 h4.1 h4.2
theorem e5a4 {T0 T1 T2 T3 T4 : Type} {P0 P1 P2 P3 : T0 → T1 → T2 → T3 → T4 → Prop} {G : Prop} (h : ∃ (x0 : T0) (x1 : T1) (x2 : T2) (x3 : T3) (x4 : T4), P0 x0 x1 x2 x3 x4 ∧ P1 x0 x1 x2 x3 x4 ∧ P2 x0 x1 x2 x3 x4 ∧ P3 x0 x1 x2 x3 x4) (k : ∀ (x0 : T0) (x1 : T1) (x2 : T2) (x3 : T3) (x4 : T4), P0 x0 x1 x2 x3 x4 → P1 x0 x1 x2 x3 x4 → P2 x0 x1 x2 x3 x4 → P3 x0 x1 x2 x3 x4 → G) : G := Exists.elim h fun x0 h0 => Exists.elim h0 fun x1 h1 => Exists.elim h1 fun x2 h2 => Exists.elim h2 fun x3 h3 => Exists.elim h3 fun x4 h4 => k x0 x1 x2 x3 x4 h4.1 h4.2.1 h4.2.2.1 h4.2.2.2
theorem e5a8 {T0 T1 T2 T3 T4 : Type} {P0 P1 P2 P3 P4 P5 P6 P7 : T0 → T1 → T2 → T3 → T4 → Prop} {G : Prop} (h : ∃ (x0 : T0) (x1 : T1) (x2 : T2) (x3 : T3) (x4 : T4), P0 x0 x1 x2 x3 x4 ∧ P1 x0 x1 x2 x3 x4 ∧ P2 x0 x1 x2 x3 x4 ∧ P3 x0 x1 x2 x3 x4 ∧ P4 x0 x1 x2 x3 x4 ∧ P5 x0 x1 x2 x3 x4 ∧ P6 x0 x1 x2 x3 x4 ∧ P7 x0 x1 x2 x3 x4) (k : ∀ (x0 : T0) (x1 : T1) (x2 : T2) (x3 : T3) (x4 : T4), P0 x0 x1 x2 x3 x4 → P1 x0 x1 x2 x3 x4 → P2 x0 x1 x2 x3 x4 → P3 x0 x1 x2 x3 x4 → P4 x0 x1 x2 x3 x4 → P5 x0 x1 x2 x3 x4 → P6 x0 x1 x2 x3 x4 → P7 x0 x1 x2 x3 x4 → G) : G := Exists.elim h fun x0 h0 => Exists.elim h0 fun x1 h1 => Exists.elim h1 fun x2 h2 => Exists.elim h2 fun x3 h3 => Exists.elim h3 fun x4 h4 => k x0 x1 x2 x3 x4 h4.1 h4.2.1 h4.2.2.1 h4.2.2.2.1 h4.2.2.2.2.1 h4.2.2.2.2.2.1 h4.2.2.2.2.2.2.1 h4.2.2.2.2.2.2.2
theorem e5a10 {T0 T1 T2 T3 T4 : Type} {P0 P1 P2 P3 P4 P5 P6 P7 P8 P9 : T0 → T1 → T2 → T3 → T4 → Prop} {G : Prop} (h : ∃ (x0 : T0) (x1 : T1) (x2 : T2) (x3 : T3) (x4 : T4), P0 x0 x1 x2 x3 x4 ∧ P1 x0 x1 x2 x3 x4 ∧ P2 x0 x1 x2 x3 x4 ∧ P3 x0 x1 x2 x3 x4 ∧ P4 x0 x1 x2 x3 x4 ∧ P5 x0 x1 x2 x3 x4 ∧ P6 x0 x1 x2 x3 x4 ∧ P7 x0 x1 x2 x3 x4 ∧ P8 x0 x1 x2 x3 x4 ∧ P9 x0 x1 x2 x3 x4) (k : ∀ (x0 : T0) (x1 : T1) (x2 : T2) (x3 : T3) (x4 : T4), P0 x0 x1 x2 x3 x4 → P1 x0 x1 x2 x3 x4 → P2 x0 x1 x2 x3 x4 → P3 x0 x1 x2 x3 x4 → P4 x0 x1 x2 x3 x4 → P5 x0 x1 x2 x3 x4 → P6 x0 x1 x2 x3 x4 → P7 x0 x1 x2 x3 x4 → P8 x0 x1 x2 x3 x4 → P9 x0 x1 x2 x3 x4 → G) : G := Exists.elim h fun x0 h0 => Exists.elim h0 fun x1 h1 => Exists.elim h1 fun x2 h2 => Exists.elim h2 fun x3 h3 => Exists.elim h3 fun x4 h4 => k x0 x1 x2 x3 x4 h4.1 h4.2.1 h4.2.2.1 h4.2.2.2.1 h4.2.2.2.2.1 h4.2.2.2.2.2.1 h4.2.2.2.2.2.2.1 h4.2.2.2.2.2.2.2.1 h4.2.2.2.2.2.2.2.2.1 h4.2.2.2.2.2.2.2.2.2
theorem e6a6 {T0 T1 T2 T3 T4 T5 : Type} {P0 P1 P2 P3 P4 P5 : T0 → T1 → T2 → T3 → T4 → T5 → Prop} {G : Prop} (h : ∃ (x0 : T0) (x1 : T1) (x2 : T2) (x3 : T3) (x4 : T4) (x5 : T5), P0 x0 x1 x2 x3 x4 x5 ∧ P1 x0 x1 x2 x3 x4 x5 ∧ P2 x0 x1 x2 x3 x4 x5 ∧ P3 x0 x1 x2 x3 x4 x5 ∧ P4 x0 x1 x2 x3 x4 x5 ∧ P5 x0 x1 x2 x3 x4 x5) (k : ∀ (x0 : T0) (x1 : T1) (x2 : T2) (x3 : T3) (x4 : T4) (x5 : T5), P0 x0 x1 x2 x3 x4 x5 → P1 x0 x1 x2 x3 x4 x5 → P2 x0 x1 x2 x3 x4 x5 → P3 x0 x1 x2 x3 x4 x5 → P4 x0 x1 x2 x3 x4 x5 → P5 x0 x1 x2 x3 x4 x5 → G) : G := Exists.elim h fun x0 h0 => Exists.elim h0 fun x1 h1 => Exists.elim h1 fun x2 h2 => Exists.elim h2 fun x3 h3 => Exists.elim h3 fun x4 h4 => Exists.elim h4 fun x5 h5 => k x0 x1 x2 x3 x4 x5 h5.1 h5.2.1 h5.2.2.1 h5.2.2.2.1 h5.2.2.2.2.1 h5.2.2.2.2.2
theorem e6a8 {T0 T1 T2 T3 T4 T5 : Type} {P0 P1 P2 P3 P4 P5 P6 P7 : T0 → T1 → T2 → T3 → T4 → T5 → Prop} {G : Prop} (h : ∃ (x0 : T0) (x1 : T1) (x2 : T2) (x3 : T3) (x4 : T4) (x5 : T5), P0 x0 x1 x2 x3 x4 x5 ∧ P1 x0 x1 x2 x3 x4 x5 ∧ P2 x0 x1 x2 x3 x4 x5 ∧ P3 x0 x1 x2 x3 x4 x5 ∧ P4 x0 x1 x2 x3 x4 x5 ∧ P5 x0 x1 x2 x3 x4 x5 ∧ P6 x0 x1 x2 x3 x4 x5 ∧ P7 x0 x1 x2 x3 x4 x5) (k : ∀ (x0 : T0) (x1 : T1) (x2 : T2) (x3 : T3) (x4 : T4) (x5 : T5), P0 x0 x1 x2 x3 x4 x5 → P1 x0 x1 x2 x3 x4 x5 → P2 x0 x1 x2 x3 x4 x5 → P3 x0 x1 x2 x3 x4 x5 → P4 x0 x1 x2 x3 x4 x5 → P5 x0 x1 x2 x3 x4 x5 → P6 x0 x1 x2 x3 x4 x5 → P7 x0 x1 x2 x3 x4 x5 → G) : G := Exists.elim h fun x0 h0 => Exists.elim h0 fun x1 h1 => Exists.elim h1 fun x2 h2 => Exists.elim h2 fun x3 h3 => Exists.elim h3 fun x4 h4 => Exists.elim h4 fun x5 h5 => k x0 x1 x2 x3 x4 x5 h5.1 h5.2.1 h5.2.2.1 h5.2.2.2.1 h5.2.2.2.2.1 h5.2.2.2.2.2.1 h5.2.2.2.2.2.2.1 h5.2.2.2.2.2.2.2
theorem e7a5 {T0 T1 T2 T3 T4 T5 T6 : Type} {P0 P1 P2 P3 P4 : T0 → T1 → T2 → T3 → T4 → T5 → T6 → Prop} {G : Prop} (h : ∃ (x0 : T0) (x1 : T1) (x2 : T2) (x3 : T3) (x4 : T4) (x5 : T5) (x6 : T6), P0 x0 x1 x2 x3 x4 x5 x6 ∧ P1 x0 x1 x2 x3 x4 x5 x6 ∧ P2 x0 x1 x2 x3 x4 x5 x6 ∧ P3 x0 x1 x2 x3 x4 x5 x6 ∧ P4 x0 x1 x2 x3 x4 x5 x6) (k : ∀ (x0 : T0) (x1 : T1) (x2 : T2) (x3 : T3) (x4 : T4) (x5 : T5) (x6 : T6), P0 x0 x1 x2 x3 x4 x5 x6 → P1 x0 x1 x2 x3 x4 x5 x6 → P2 x0 x1 x2 x3 x4 x5 x6 → P3 x0 x1 x2 x3 x4 x5 x6 → P4 x0 x1 x2 x3 x4 x5 x6 → G) : G := Exists.elim h fun x0 h0 => Exists.elim h0 fun x1 h1 => Exists.elim h1 fun x2 h2 => Exists.elim h2 fun x3 h3 => Exists.elim h3 fun x4 h4 => Exists.elim h4 fun x5 h5 => Exists.elim h5 fun x6 h6 => k x0 x1 x2 x3 x4 x5 x6 h6.1 h6.2.1 h6.2.2.1 h6.2.2.2.1 h6.2.2.2.2
theorem e7a7 {T0 T1 T2 T3 T4 T5 T6 : Type} {P0 P1 P2 P3 P4 P5 P6 : T0 → T1 → T2 → T3 → T4 → T5 → T6 → Prop} {G : Prop} (h : ∃ (x0 : T0) (x1 : T1) (x2 : T2) (x3 : T3) (x4 : T4) (x5 : T5) (x6 : T6), P0 x0 x1 x2 x3 x4 x5 x6 ∧ P1 x0 x1 x2 x3 x4 x5 x6 ∧ P2 x0 x1 x2 x3 x4 x5 x6 ∧ P3 x0 x1 x2 x3 x4 x5 x6 ∧ P4 x0 x1 x2 x3 x4 x5 x6 ∧ P5 x0 x1 x2 x3 x4 x5 x6 ∧ P6 x0 x1 x2 x3 x4 x5 x6) (k : ∀ (x0 : T0) (x1 : T1) (x2 : T2) (x3 : T3) (x4 : T4) (x5 : T5) (x6 : T6), P0 x0 x1 x2 x3 x4 x5 x6 → P1 x0 x1 x2 x3 x4 x5 x6 → P2 x0 x1 x2 x3 x4 x5 x6 → P3 x0 x1 x2 x3 x4 x5 x6 → P4 x0 x1 x2 x3 x4 x5 x6 → P5 x0 x1 x2 x3 x4 x5 x6 → P6 x0 x1 x2 x3 x4 x5 x6 → G) : G := Exists.elim h fun x0 h0 => Exists.elim h0 fun x1 h1 => Exists.elim h1 fun x2 h2 => Exists.elim h2 fun x3 h3 => Exists.elim h3 fun x4 h4 => Exists.elim h4 fun x5 h5 => Exists.elim h5 fun x6 h6 => k x0 x1 x2 x3 x4 x5 x6 h6.1 h6.2.1 h6.2.2.1 h6.2.2.2.1 h6.2.2.2.2.1 h6.2.2.2.2.2.1 h6.2.2.2.2.2.2
theorem e7a8 {T0 T1 T2 T3 T4 T5 T6 : Type} {P0 P1 P2 P3 P4 P5 P6 P7 : T0 → T1 → T2 → T3 → T4 → T5 → T6 → Prop} {G : Prop} (h : ∃ (x0 : T0) (x1 : T1) (x2 : T2) (x3 : T3) (x4 : T4) (x5 : T5) (x6 : T6), P0 x0 x1 x2 x3 x4 x5 x6 ∧ P1 x0 x1 x2 x3 x4 x5 x6 ∧ P2 x0 x1 x2 x3 x4 x5 x6 ∧ P3 x0 x1 x2 x3 x4 x5 x6 ∧ P4 x0 x1 x2 x3 x4 x5 x6 ∧ P5 x0 x1 x2 x3 x4 x5 x6 ∧ P6 x0 x1 x2 x3 x4 x5 x6 ∧ P7 x0 x1 x2 x3 x4 x5 x6) (k : ∀ (x0 : T0) (x1 : T1) (x2 : T2) (x3 : T3) (x4 : T4) (x5 : T5) (x6 : T6), P0 x0 x1 x2 x3 x4 x5 x6 → P1 x0 x1 x2 x3 x4 x5 x6 → P2 x0 x1 x2 x3 x4 x5 x6 → P3 x0 x1 x2 x3 x4 x5 x6 → P4 x0 x1 x2 x3 x4 x5 x6 → P5 x0 x1 x2 x3 x4 x5 x6 → P6 x0 x1 x2 x3 x4 x5 x6 → P7 x0 x1 x2 x3 x4 x5 x6 → G) : G := Exists.elim h fun x0 h0 => Exists.elim h0 fun x1 h1 => Exists.elim h1 fun x2 h2 => Exists.elim h2 fun x3 h3 => Exists.elim h3 fun x4 h4 => Exists.elim h4 fun x5 h5 => Exists.elim h5 fun x6 h6 => k x0 x1 x2 x3 x4 x5 x6 h6.1 h6.2.1 h6.2.2.1 h6.2.2.2.1 h6.2.2.2.2.1 h6.2.2.2.2.2.1 h6.2.2.2.2.2.2.1 h6.2.2.2.2.2.2.2
theorem e7a13 {T0 T1 T2 T3 T4 T5 T6 : Type} {P0 P1 P2 P3 P4 P5 P6 P7 P8 P9 P10 P11 P12 : T0 → T1 → T2 → T3 → T4 → T5 → T6 → Prop} {G : Prop} (h : ∃ (x0 : T0) (x1 : T1) (x2 : T2) (x3 : T3) (x4 : T4) (x5 : T5) (x6 : T6), P0 x0 x1 x2 x3 x4 x5 x6 ∧ P1 x0 x1 x2 x3 x4 x5 x6 ∧ P2 x0 x1 x2 x3 x4 x5 x6 ∧ P3 x0 x1 x2 x3 x4 x5 x6 ∧ P4 x0 x1 x2 x3 x4 x5 x6 ∧ P5 x0 x1 x2 x3 x4 x5 x6 ∧ P6 x0 x1 x2 x3 x4 x5 x6 ∧ P7 x0 x1 x2 x3 x4 x5 x6 ∧ P8 x0 x1 x2 x3 x4 x5 x6 ∧ P9 x0 x1 x2 x3 x4 x5 x6 ∧ P10 x0 x1 x2 x3 x4 x5 x6 ∧ P11 x0 x1 x2 x3 x4 x5 x6 ∧ P12 x0 x1 x2 x3 x4 x5 x6) (k : ∀ (x0 : T0) (x1 : T1) (x2 : T2) (x3 : T3) (x4 : T4) (x5 : T5) (x6 : T6), P0 x0 x1 x2 x3 x4 x5 x6 → P1 x0 x1 x2 x3 x4 x5 x6 → P2 x0 x1 x2 x3 x4 x5 x6 → P3 x0 x1 x2 x3 x4 x5 x6 → P4 x0 x1 x2 x3 x4 x5 x6 → P5 x0 x1 x2 x3 x4 x5 x6 → P6 x0 x1 x2 x3 x4 x5 x6 → P7 x0 x1 x2 x3 x4 x5 x6 → P8 x0 x1 x2 x3 x4 x5 x6 → P9 x0 x1 x2 x3 x4 x5 x6 → P10 x0 x1 x2 x3 x4 x5 x6 → P11 x0 x1 x2 x3 x4 x5 x6 → P12 x0 x1 x2 x3 x4 x5 x6 → G) : G := Exists.elim h fun x0 h0 => Exists.elim h0 fun x1 h1 => Exists.elim h1 fun x2 h2 => Exists.elim h2 fun x3 h3 => Exists.elim h3 fun x4 h4 => Exists.elim h4 fun x5 h5 => Exists.elim h5 fun x6 h6 => k x0 x1 x2 x3 x4 x5 x6 h6.1 h6.2.1 h6.2.2.1 h6.2.2.2.1 h6.2.2.2.2.1 h6.2.2.2.2.2.1 h6.2.2.2.2.2.2.1 h6.2.2.2.2.2.2.2.1 h6.2.2.2.2.2.2.2.2.1 h6.2.2.2.2.2.2.2.2.2.1 h6.2.2.2.2.2.2.2.2.2.2.1 h6.2.2.2.2.2.2.2.2.2.2.2.1 h6.2.2.2.2.2.2.2.2.2.2.2.2
theorem e8a4 {T0 T1 T2 T3 T4 T5 T6 T7 : Type} {P0 P1 P2 P3 : T0 → T1 → T2 → T3 → T4 → T5 → T6 → T7 → Prop} {G : Prop} (h : ∃ (x0 : T0) (x1 : T1) (x2 : T2) (x3 : T3) (x4 : T4) (x5 : T5) (x6 : T6) (x7 : T7), P0 x0 x1 x2 x3 x4 x5 x6 x7 ∧ P1 x0 x1 x2 x3 x4 x5 x6 x7 ∧ P2 x0 x1 x2 x3 x4 x5 x6 x7 ∧ P3 x0 x1 x2 x3 x4 x5 x6 x7) (k : ∀ (x0 : T0) (x1 : T1) (x2 : T2) (x3 : T3) (x4 : T4) (x5 : T5) (x6 : T6) (x7 : T7), P0 x0 x1 x2 x3 x4 x5 x6 x7 → P1 x0 x1 x2 x3 x4 x5 x6 x7 → P2 x0 x1 x2 x3 x4 x5 x6 x7 → P3 x0 x1 x2 x3 x4 x5 x6 x7 → G) : G := Exists.elim h fun x0 h0 => Exists.elim h0 fun x1 h1 => Exists.elim h1 fun x2 h2 => Exists.elim h2 fun x3 h3 => Exists.elim h3 fun x4 h4 => Exists.elim h4 fun x5 h5 => Exists.elim h5 fun x6 h6 => Exists.elim h6 fun x7 h7 => k x0 x1 x2 x3 x4 x5 x6 x7 h7.1 h7.2.1 h7.2.2.1 h7.2.2.2
theorem e8a5 {T0 T1 T2 T3 T4 T5 T6 T7 : Type} {P0 P1 P2 P3 P4 : T0 → T1 → T2 → T3 → T4 → T5 → T6 → T7 → Prop} {G : Prop} (h : ∃ (x0 : T0) (x1 : T1) (x2 : T2) (x3 : T3) (x4 : T4) (x5 : T5) (x6 : T6) (x7 : T7), P0 x0 x1 x2 x3 x4 x5 x6 x7 ∧ P1 x0 x1 x2 x3 x4 x5 x6 x7 ∧ P2 x0 x1 x2 x3 x4 x5 x6 x7 ∧ P3 x0 x1 x2 x3 x4 x5 x6 x7 ∧ P4 x0 x1 x2 x3 x4 x5 x6 x7) (k : ∀ (x0 : T0) (x1 : T1) (x2 : T2) (x3 : T3) (x4 : T4) (x5 : T5) (x6 : T6) (x7 : T7), P0 x0 x1 x2 x3 x4 x5 x6 x7 → P1 x0 x1 x2 x3 x4 x5 x6 x7 → P2 x0 x1 x2 x3 x4 x5 x6 x7 → P3 x0 x1 x2 x3 x4 x5 x6 x7 → P4 x0 x1 x2 x3 x4 x5 x6 x7 → G) : G := Exists.elim h fun x0 h0 => Exists.elim h0 fun x1 h1 => Exists.elim h1 fun x2 h2 => Exists.elim h2 fun x3 h3 => Exists.elim h3 fun x4 h4 => Exists.elim h4 fun x5 h5 => Exists.elim h5 fun x6 h6 => Exists.elim h6 fun x7 h7 => k x0 x1 x2 x3 x4 x5 x6 x7 h7.1 h7.2.1 h7.2.2.1 h7.2.2.2.1 h7.2.2.2.2
end Mine
end
section
namespace Mine

/-- a for loop's source: how its iterator goes as long as the ledger is S -/
structure SrcF (prog : Program) (w : World) (A : Around) (h₀ : Heap) (L : Addr) (m : Str → Option Value) (news : List (Addr × Obj)) (S : List (Addr × Obj) → Prop) (n : Nat) (P : Nat → Value → Prop) (s₁ : Shared) (it : Value) (s₂ : Shared) : Prop where
  ex : ∃ (I : Addr) (fp : List Addr) (St : Nat → Heap → Prop), it = .ref I ∧ Walks prog w A I fp [I] n P St ∧ (∀ i h, St i h → ∃ o n, h.get? I = some o ∧ o.cls = .type n ∧ goNames.contains n = false) ∧
    (∀ i h h' o nw, St i h → h.get? I = some o → h'.get? I = some o → (∀ b o, h₀.get? b = some o → h'.get? b = some o) → News h₀ L h' nw → S nw → St i h') ∧
    St 0 s₂.heap ∧ L ≠ I ∧ h₀.get? I = none ∧ (∀ p ∈ news, p.1 < I) ∧ Fr h₀ L s₂.heap m ∧ News h₀ L s₂.heap news ∧ ∃ h, s₂ = { s₁ with heap := h }

section
variable {prog : Program} {w : World} {A : Around} {E : Value → Shared → Prop} {s : Shared} {h₀ : Heap} {L : Addr} {m : Str → Option Value} {news : List (Addr × Obj)}
theorem srcF_list {ax : Addr} {its : Array Value} {k : Nat} {Q : Value → Shared → Prop} (hh : A.handled = none) (F : Fr h₀ L s.heap m) (N : News h₀ L s.heap news) (hm : (ax, ({ cls := .type "list", data := .seq its k } : Obj)) ∈ news)
    (h : ∀ it s₂, SrcF prog w A h₀ L m news (fun nw => (ax, ({ cls := .type "list", data := .seq its k } : Obj)) ∈ nw) its.size (fun i v => its[i]? = some v) s it s₂ → Q it s₂) : wpAny (model prog w) A (pyIter (.ref ax)) Q E s := by
  have hg := (N _ hm).1
  have hl : s.heap.IsList ax its := ⟨_, hg, rfl, k, rfl⟩
  have hlt : ax < s.heap.objs.size := Heap.lt_size hg
  refine wpAny_pyIter_list hl (h _ _ ⟨s.heap.objs.size, _, _, rfl, Walks.list hh s.heap.objs.size ax (Nat.ne_of_lt hlt) its, fun i h st => ?_, fun i h h' o nw st e e' hk N' hS => ?_, ⟨⟨_, Heap.get?_push_size _ rfl, rfl, rfl⟩, hl.push _⟩, ?_⟩)
  · obtain ⟨o, e, hc, _⟩ := st.1; exact ⟨o, "list_iterator", e, hc, by decide⟩
  · refine ⟨?_, ⟨_, (N' _ hS).1, rfl, k, rfl⟩⟩
    obtain ⟨o', q, r⟩ := st.1; rw [e] at q; cases q; exact ⟨o, e', r⟩
  · refine a5 (src_pushed (oI := { cls := .type "list_iterator", data := .fields #[.ref ax, .int 0 0] }) F N rfl) fun a1 a2 a3 a4 a5 => ?_
    exact ⟨a1, a2, fun p hp => Heap.lt_size (N p hp).1, a4, a5, _, rfl⟩
theorem srcF_range {r : Addr} {a b : Int} {t u v : Tok} {n : Nat} {Q : Value → Shared → Prop} (hh : A.handled = none) (F : Fr h₀ L s.heap m) (N : News h₀ L s.heap news) (hr : IsRange s.heap r a b 1 t u v) (hsm : Builtin.Range.small a b 1 = true) (hn : Builtin.Range.rangeSize a b 1 = ((n : Nat) : Int))
    (h : ∀ it s₂, SrcF prog w A h₀ L m news (fun _ => True) n (fun i v => ∃ t, v = .int (a + (i : Int)) t) s it s₂ → Q it s₂) : wpAny (model prog w) A (pyIter (.ref r)) Q E s := by
  refine wpAny_pyIter_range hr hsm (h _ _ ⟨s.heap.objs.size, _, _, rfl, LCg.range_walks hh a n, fun i h st => ⟨_, "range_iterator", st, rfl, by decide⟩, fun i h h' o nw st e e' hk N' _ => ?_, by show IsRangeIter _ _ _ _ _; rw [hn]; simpa using Heap.get?_push_size _ rfl, ?_⟩)
  · have st' : h.get? s.heap.objs.size = some _ := st
    show h'.get? s.heap.objs.size = some _
    rw [e', ← e]; exact st'
  · obtain ⟨a1, a2, a3, a4, a5⟩ := src_pushed (oI := _) F N rfl
    exact ⟨a1, a2, fun p hp => Heap.lt_size (N p hp).1, a4, a5, _, rfl⟩

/-- behind a turn of a loop -/
noncomputable def ForEnd (h₀ : Heap) (L I : Addr) (oI : Obj) (s₁ : Shared) (J : (Str → Option Value) → List (Addr × Obj) → Prop) (s₂ : Shared) : Prop :=
  ∃ h' tk m' news', s₂ = { s₁ with heap := h', toks := tk } ∧ Fr h₀ L h' m' ∧ News h₀ L h' ((I, oI) :: news') ∧ (∀ p ∈ news', p.1 ≠ I) ∧ J m' news'
noncomputable def ForPost (h₀ : Heap) (L I : Addr) (oI : Obj) (s₁ : Shared) (J : (Str → Option Value) → List (Addr × Obj) → Prop) (Q : Flow → Shared → Prop) (f : Flow) (s₂ : Shared) : Prop :=
  match f with
  | .ret v => Q (.ret v) s₂
  | .brk => Q .next s₂
  | _ => ForEnd h₀ L I oI s₁ J s₂
theorem ForEnd.intro {I : Addr} {oI : Obj} {s₁ : Shared} {J : (Str → Option Value) → List (Addr × Obj) → Prop} {h' : Heap} {tk : Nat} {m' : Str → Option Value} {all : List (Addr × Obj)} (news' : List (Addr × Obj)) (F : Fr h₀ L h' m') (N : News h₀ L h' all)
    (hs : ∀ p ∈ (I, oI) :: news', p ∈ all) (off : ∀ p ∈ news', p.1 ≠ I) (j : J m' news') : ForEnd h₀ L I oI s₁ J { s₁ with heap := h', toks := tk } :=
  ⟨h', tk, m', news', rfl, F, fun p hp => N p (hs p hp), off, j⟩

noncomputable def LoopOK (prog : Program) (w : World) (A : Around) (L : Addr) (env : Env) (target : Expr) (body : List Stmt) (Q : Flow → Shared → Prop) (s₁ : Shared) (it : Value) (s₂ : Shared) : Prop :=
  ∃ (h₀ : Heap) (m : Str → Option Value) (news : List (Addr × Obj)) (S : List (Addr × Obj) → Prop) (n : Nat) (P : Nat → Value → Prop) (J : Nat → (Str → Option Value) → List (Addr × Obj) → Prop),
    SrcF prog w A h₀ L m news S n P s₁ it s₂ ∧ J 0 m news ∧ (∀ i m' news', J i m' news' → S news') ∧
    (∀ i v m₁ news₁ I oI h tk (E' : Value → Shared → Prop), i < n → P i v → J i m₁ news₁ → (∀ p ∈ news₁, p.1 ≠ I) → (∀ p ∈ news, p.1 < I) → Fr h₀ L h m₁ → News h₀ L h ((I, oI) :: news₁) →
      wpAny (model prog w) A (assign target env v) (fun _ s' => wpAny (model prog w) A (execs body env) (ForPost h₀ L I oI { s₂ with heap := h, toks := tk } (J (i + 1)) Q) E' s') E' { s₂ with heap := h, toks := tk }) ∧
    (∀ h tk m' news', J n m' news' → Fr h₀ L h m' → News h₀ L h news' → Q .next { s₂ with heap := h, toks := tk })

theorem LoopOK.put {env : Env} {target : Expr} {body : List Stmt} {Q : Flow → Shared → Prop} {s₁ s₂ : Shared} {it : Value} {S : List (Addr × Obj) → Prop} {n : Nat} {P : Nat → Value → Prop} (J : Nat → (Str → Option Value) → List (Addr × Obj) → Prop)
    (src : SrcF prog w A h₀ L m news S n P s₁ it s₂) (j0 : J 0 m news) (hJS : ∀ i m' news', J i m' news' → S news')
    (turn : ∀ i v m₁ news₁ I oI h tk (E' : Value → Shared → Prop), i < n → P i v → J i m₁ news₁ → (∀ p ∈ news₁, p.1 ≠ I) → (∀ p ∈ news, p.1 < I) → Fr h₀ L h m₁ → News h₀ L h ((I, oI) :: news₁) →
      wpAny (model prog w) A (assign target env v) (fun _ s' => wpAny (model prog w) A (execs body env) (ForPost h₀ L I oI { s₂ with heap := h, toks := tk } (J (i + 1)) Q) E' s') E' { s₂ with heap := h, toks := tk })
    (done : ∀ h tk m' news', J n m' news' → Fr h₀ L h m' → News h₀ L h news' → Q .next { s₂ with heap := h, toks := tk }) : LoopOK prog w A L env target body Q s₁ it s₂ :=
  ⟨h₀, m, news, S, n, P, J, src, j0, hJS, turn, done⟩

theorem for_rule {target iter : Expr} {body : List Stmt} {env : Env} {pos : Pos} {Q : Flow → Shared → Prop} (hs : ∀ x, foldedSetIterable iter env x = pure x)
    (h : wpAny (model prog w) A (eval iter env) (fun xv s₁ => wpAny (model prog w) A (pyIter xv) (LoopOK prog w A L env target body Q s₁) E s₁) E s) :
    wpAny (model prog w) A (exec (.For target iter body [] pos) env) Q E s := by
  refine wpAny_For (wpAny_mono h (fun xv s₁ h₁ => wpAny_mono h₁ (fun it s₂ h₂ => ?_) fun _ _ e => e) fun _ _ e => e) hs
  refine e7a5 (h₂) fun h₀ m news S n P J src j0 hJS turn done => ?_
  clear h₂
  refine e3a11 (src.ex) fun I fp St ze0 W hIo hSt hst hIL hI₀ hltI F N zt1 => ?_
  subst ze0
  refine e1a1 (zt1) fun g ze2 => ?_
  clear zt1
  subst ze2
  have off : ∀ p ∈ news, p.1 ≠ I := fun p hp => Nat.ne_of_lt (hltI p hp)
  refine codeAny_forLoop_any
    (fun k s' => ∃ h' tk m' news' i, s' = { s₁ with heap := h', toks := tk } ∧ St i h' ∧ Fr h₀ L h' m' ∧ News h₀ L h' news' ∧ (∀ p ∈ news', p.1 ≠ I) ∧ J i m' news' ∧ i ≤ n ∧ k = n + 1 - i) ?_ (n + 1)
    ⟨g, _, m, news, 0, rfl, hst, F, N, off, j0, Nat.zero_le _, rfl⟩
  intro k s' zr0
  refine e5a8 (zr0) fun h' tk m' news' i ze0 hst' F' N' off' hJ hi ze1 => ?_
  clear zr0
  subst ze0
  subst ze1
  have next : ∀ h₁ : Heap, (∀ b o, b ∉ [I] → h'.get? b = some o → h₁.get? b = some o) → Fr h₀ L h₁ m' ∧ News h₀ L h₁ news' := fun h₁ hk₁ =>
    ⟨⟨F'.ns.at' fun o e => hk₁ _ o (by simpa using hIL) e, fun b o e => hk₁ b o (fun q => by rw [List.mem_singleton.mp q, hI₀] at e; cases e) (F'.keep b o e), F'.above⟩, fun p hp => ⟨hk₁ _ _ (by simpa using off' p hp) (N' p hp).1, (N' p hp).2⟩⟩
  by_cases hlt : i < n
  · refine W.item i _ _ _ hlt hst' fun v h₁ tk₁ hP hst₁ hk₁ => ?_
    refine a2 (next h₁ hk₁) fun F₁ N₁ => ?_
    refine e2a3 (hIo _ _ hst₁) fun oI nI heI hcI hnI => ?_
    refine letGo_plain heI hcI hnI ?_
    refine wpAny_mono (turn i v m' news' I oI h₁ tk₁ _ hlt hP hJ off' hltI F₁ (fun p hp => ?_)) (fun _ s₃ h₃ => wpAny_mono h₃ (fun f s₄ h₄ => ?_) fun _ _ e => e) fun _ _ e => e
    · rcases List.mem_cons.mp hp with rfl | hp
      · exact ⟨heI, Ne.symm hIL, hI₀⟩
      · exact N₁ p hp
    · have fin : ForEnd h₀ L I oI { s₁ with heap := h₁, toks := tk₁ } (J (i + 1)) s₄ → ∃ m'', m'' < n + 1 - i ∧ ∃ h' tk m' news' j, s₄ = { s₁ with heap := h', toks := tk } ∧ St j h' ∧ Fr h₀ L h' m' ∧ News h₀ L h' news' ∧ (∀ p ∈ news', p.1 ≠ I) ∧ J j m' news' ∧ j ≤ n ∧ m'' = n + 1 - j := by
        intro zr0
        refine e4a5 (zr0) fun h₅ tk₄ m₄ news₄ ze0 F₄ N₄ off₄ hJ₄ => ?_
        clear zr0
        subst ze0
        have N₄' : News h₀ L h₅ news₄ := fun p hp => N₄ p (List.mem_cons_of_mem _ hp)
        exact ⟨n + 1 - (i + 1), by (first | lia | omega), h₅, tk₄, m₄, news₄, i + 1, rfl, hSt _ _ _ _ _ hst₁ heI (N₄ _ List.mem_cons_self).1 F₄.keep N₄' (hJS _ _ _ hJ₄), F₄, N₄', off₄, hJ₄, hlt, rfl⟩
      cases f with
      | ret v => exact h₄
      | brk => exact h₄
      | next => exact fin h₄
      | cont => exact fin h₄
  · have hin : i = n := by (first | lia | omega)
    subst hin
    refine W.done _ _ _ hst' fun h₁ tk₁ hk₁ => wpAny_execs_nil ?_
    refine a2 (next h₁ hk₁) fun F₁ N₁ => ?_
    exact done h₁ tk₁ m' news' hJ F₁ N₁
end
end Mine
end
section
namespace Mine
section
variable {prog : Program} {w : World} {A : Around} {E : Value → Shared → Prop} {s : Shared} {h₀ : Heap} {L : Addr} {m : Str → Option Value} {news : List (Addr × Obj)}

theorem ints_at {its : Array Value} {xs : List Int} (hi : IntsAre its.toList xs) : its.size = xs.length ∧ ∀ i v, its[i]? = some v → i < its.size → ∃ y t, xs[i]? = some y ∧ v = .int y t := by
  have hl := hi.length
  refine ⟨by simpa using hl, fun i v hv hlt => ?_⟩
  have hx : i < xs.length := by rw [← hl]; simpa using hlt
  obtain ⟨t, ht⟩ := hi.get i xs[i] (by simp [hx])
  refine ⟨xs[i], t, by simp [hx], ?_⟩
  rw [← Array.getElem?_toList, ht] at hv
  exact (Option.some.inj hv).symm
end
end Mine
namespace Mine
end Mine
end
section
namespace Mine
/-- a text by its signs' numbers -/
noncomputable def Tx (l : List Nat) : Str := ⟨l.toArray⟩
theorem Tx_len (l : List Nat) : (Tx l).length = l.length := by simp [Tx, Str.length]
theorem Tx_list (l : List Nat) : (Tx l).cps.toList = l := by simp [Tx]
theorem Tx_inj {a b : List Nat} : (Tx a == Tx b) = decide (a = b) := by
  by_cases h : a = b
  · subst h; simp
  · rw [decide_eq_false h]
    have hne : Tx a ≠ Tx b := fun q => h (by have := congrArg (fun x => x.cps.toList) q; simpa [Tx] using this)
    simpa using hne
theorem Tx_from {l : List Nat} {p : Nat} (h : p ≤ l.length) : Txt.slice (Tx l) (some (p : Int)) none = Tx (l.drop p) := by
  have := slice_closes_from (x := Tx l) (i := (p : Int)) (by rw [Tx_list]; omega)
  rw [eq_of_beq this, Tx_list]
  unfold Tx
  congr 2
  rw [Int.toNat_natCast, List.take_of_length_le (by rw [List.length_drop]; omega)]
theorem Tx_to {l : List Nat} {q : Nat} (h0 : 0 < q) (h : q ≤ l.length) : Txt.slice (Tx l) none (some (-(q : Int))) = Tx (l.take (l.length - q)) := by
  have := slice_closes_to_neg (x := Tx l) (j := -(q : Int)) (k := ((l.length - q : Nat) : Int)) (by (first | lia | omega)) (by rw [Tx_len]; (first | lia | omega)) (by rw [Tx_len]; (first | lia | omega))
  rw [eq_of_beq this, Tx_list]
  unfold Tx
  simp
theorem Tx_all (l : List Nat) : Txt.slice (Tx l) none none = Tx l := by
  show StrLaws.sliceText (Tx l) none none = _
  unfold StrLaws.sliceText
  have hi : (Builtin.Str.strSliceIndices none none 1 (Tx l).length) = List.range (Tx l).length := by
    simp only [Builtin.Str.strSliceIndices, sliceRange]
    simp
    congr 1
    split <;> (first | lia | omega)
  rw [hi]
  simp
theorem Tx_item {l : List Nat} {i : Int} (h0 : 0 ≤ i) (h : i < l.length) : Txt.item (Tx l) i = Tx [l.getD i.toNat 0] := by
  have := item_closes (x := Tx l) (i := i) ⟨h0, by rw [Tx_len]; exact h⟩
  rw [eq_of_beq this]
  simp [Tx]
theorem Tx_itemN {l : List Nat} {i : Int} (h0 : i < 0) (h : -(l.length : Int) ≤ i) : Txt.item (Tx l) i = Tx [l.getD (i + l.length).toNat 0] := by
  have := item_closes_neg (x := Tx l) (i := i) (j := i + l.length) h0 (by rw [Tx_len]; exact h) (by rw [Tx_len])
  rw [eq_of_beq this]
  simp [Tx]
theorem ints_of_get : ∀ {vs : List Value} {ns : List Int}, vs.length = ns.length → (∀ (j : Nat) (v : Value), vs[j]? = some v → ∃ y t, ns[j]? = some y ∧ v = .int y t) → IntsAre vs ns
  | [], [], _, _ => .nil
  | [], _ :: _, h, _ => by simp at h
  | _ :: _, [], h, _ => by simp at h
  | v :: vs, n :: ns, h, hg => by
    obtain ⟨y, t, e, rfl⟩ := hg 0 v rfl
    have e' : n = y := by simpa using e
    subst e'
    exact .cons _ _ (ints_of_get (by simpa using h) fun j v hj => by simpa using hg (j + 1) v (by simpa using hj))
section
variable {prog : Program} {w : World} {A : Around} {E : Value → Shared → Prop} {s : Shared} {value slice : Expr} {l : List Nat} {t : Tok} {h₀ : Heap} {L : Addr} {m : Str → Option Value} {news : List (Addr × Obj)} {Q : Value → Shared → Prop}
theorem my_from {i : Int} {ui : Tok} (hF : Fr h₀ L s.heap m) (hN : News h₀ L s.heap news) (h0 : 0 ≤ i) (h1 : i ≤ l.length) (hz : l.length ≤ 1000)
    (h : ∀ x h' t' k, x = l.drop i.toNat → x.length = l.length - i.toNat → Fr h₀ L h' m → News h₀ L h' news → Q (.str (Tx x) t') { s with heap := h', toks := k })
    (hs : subscripted slice false (.str (Tx l) t) (.ref s.heap.objs.size) = operate [.ref s.heap.objs.size, .str (Tx l) t] (getItem (.str (Tx l) t) (.ref s.heap.objs.size)))
    (ht : ∀ r, letTemporaryGo value (.str (Tx l) t) r = pure ()) :
    wpAny (model prog w) A (subscriptTail value slice (.str (Tx l) t) (.ref s.heap.objs.size)) Q E { s with heap := s.heap.push { cls := .type "slice", data := .fields #[.int i ui, .none, .none] } } := by
  obtain ⟨p, rfl⟩ := Int.eq_ofNat_of_zero_le h0
  refine slice_strN_sn hF hN (fun h' t' k F N => ?_) hs ht (by rw [Tx_len, sizeLine_eq]; (first | lia | omega))
  rw [Tx_from (by (first | lia | omega))]
  have := h _ h' t' k rfl (by rw [List.length_drop]) F N
  rwa [Int.toNat_natCast] at this
theorem my_to {i : Int} {ui : Tok} (hF : Fr h₀ L s.heap m) (hN : News h₀ L s.heap news) (h0 : i < 0) (h1 : -i ≤ l.length) (hz : l.length ≤ 1000)
    (h : ∀ x h' t' k, x = l.take (l.length - (-i).toNat) → x.length = l.length - (-i).toNat → Fr h₀ L h' m → News h₀ L h' news → Q (.str (Tx x) t') { s with heap := h', toks := k })
    (hs : subscripted slice false (.str (Tx l) t) (.ref s.heap.objs.size) = operate [.ref s.heap.objs.size, .str (Tx l) t] (getItem (.str (Tx l) t) (.ref s.heap.objs.size)))
    (ht : ∀ r, letTemporaryGo value (.str (Tx l) t) r = pure ()) :
    wpAny (model prog w) A (subscriptTail value slice (.str (Tx l) t) (.ref s.heap.objs.size)) Q E { s with heap := s.heap.push { cls := .type "slice", data := .fields #[.none, .int i ui, .none] } } := by
  obtain ⟨p, hp⟩ := Int.eq_ofNat_of_zero_le (a := -i) (by (first | lia | omega))
  obtain rfl : i = -(p : Int) := by (first | lia | omega)
  refine slice_strN_ns hF hN (fun h' t' k F N => ?_) hs ht (by rw [Tx_len, sizeLine_eq]; (first | lia | omega))
  rw [Tx_to (by (first | lia | omega)) (by (first | lia | omega))]
  have := h _ h' t' k rfl (by rw [List.length_take]; (first | lia | omega)) F N
  rwa [show (- -(p : Int)).toNat = p by (first | lia | omega)] at this
theorem my_all (hF : Fr h₀ L s.heap m) (hN : News h₀ L s.heap news) (hz : l.length ≤ 1000)
    (h : ∀ x h' t' k, x = l → x.length = l.length → Fr h₀ L h' m → News h₀ L h' news → Q (.str (Tx x) t') { s with heap := h', toks := k })
    (hs : subscripted slice false (.str (Tx l) t) (.ref s.heap.objs.size) = operate [.ref s.heap.objs.size, .str (Tx l) t] (getItem (.str (Tx l) t) (.ref s.heap.objs.size)))
    (ht : ∀ r, letTemporaryGo value (.str (Tx l) t) r = pure ()) :
    wpAny (model prog w) A (subscriptTail value slice (.str (Tx l) t) (.ref s.heap.objs.size)) Q E { s with heap := s.heap.push { cls := .type "slice", data := .fields #[.none, .none, .none] } } := by
  refine slice_strN_nn hF hN (fun h' t' k F N => ?_) hs ht (by rw [Tx_len, sizeLine_eq]; (first | lia | omega))
  rw [Tx_all]
  exact h _ h' t' k rfl rfl F N
theorem my_sign {i : Int} {u : Tok} (h0 : 0 ≤ i) (h1 : i < l.length) (hz : l.length ≤ 1000) (h : Q (.str (Tx [l.getD i.toNat 0]) s.toks) { s with toks := s.toks + 1 })
    (hs : subscripted slice false (.str (Tx l) t) (.int i u) = operate [.str (Tx l) t, .int i u] (getItem (.str (Tx l) t) (.int i u)))
    (ht : ∀ r, letTemporaryGo value (.str (Tx l) t) r = pure ()) :
    wpAny (model prog w) A (subscriptTail value slice (.str (Tx l) t) (.int i u)) Q E s := by
  refine item_str (by unfold fitsSsize; simp; (first | lia | omega)) (by rw [Tx_len]; (first | lia | omega)) (by rw [Tx_len]; (first | lia | omega)) (fun _ => ?_) hs ht
  rw [Tx_item h0 h1]
  exact h
theorem my_signN {i : Int} {u : Tok} (h0 : i < 0) (h1 : -(l.length : Int) ≤ i) (hz : l.length ≤ 1000) (h : Q (.str (Tx [l.getD (i + l.length).toNat 0]) s.toks) { s with toks := s.toks + 1 })
    (hs : subscripted slice false (.str (Tx l) t) (.int i u) = operate [.str (Tx l) t, .int i u] (getItem (.str (Tx l) t) (.int i u)))
    (ht : ∀ r, letTemporaryGo value (.str (Tx l) t) r = pure ()) :
    wpAny (model prog w) A (subscriptTail value slice (.str (Tx l) t) (.int i u)) Q E s := by
  refine item_str (by unfold fitsSsize; simp; (first | lia | omega)) (by rw [Tx_len]; (first | lia | omega)) (by rw [Tx_len]; (first | lia | omega)) (fun _ => ?_) hs ht
  rw [Tx_itemN h0 h1]
  exact h
theorem truthy_tx {Q : Bool → Shared → Prop} (hz : l.length ≤ 1000) (h0 : l.length = 0 → ∀ k, Q false { s with toks := k }) (h1 : 0 < l.length → ∀ k, Q true { s with toks := k }) : wpAny (model prog w) A (truthy (.str (Tx l) t)) Q E s := by
  refine SBL.truthy (by rw [Tx_len]; (first | lia | omega)) ?_
  rw [Tx_len]
  by_cases h : l.length = 0
  · rw [h]; exact h0 h _
  · have e : ((l.length : Int) != 0) = true := by simp; intro q; exact h (by rw [q]; rfl)
    rw [e]; exact h1 (by (first | lia | omega)) _
theorem truthy_tx1 {Q : Bool → Shared → Prop} (hz : l.length ≤ 1000) (hl : 0 < l.length) (h1 : ∀ k, Q true { s with toks := k }) : wpAny (model prog w) A (truthy (.str (Tx l) t)) Q E s :=
  truthy_tx hz (fun h => absurd h (by (first | lia | omega))) (fun _ => h1)
theorem len_tx (hz : l.length ≤ 1000) (h : ∀ t' k, Q (.int (l.length : Int) t') { s with toks := k }) : wpAny (model prog w) A (call (.builtin "len") [.str (Tx l) t]) Q E s :=
  SBL.len (by rw [Tx_len]; omega) (by rw [Tx_len]; exact h _ _)
/-- the row that the price table begins with -/
noncomputable def twos (n : Nat) : List Int := (List.range n).map fun (i : Nat) => 2 + 2 * (i : Int)
theorem list_twos {r : Addr} {b : Int} {t u v : Tok} {n : Nat} (hh : A.handled = none) (F : Fr h₀ L s.heap m) (N : News h₀ L s.heap news) (hr : IsRange s.heap r 2 b 2 t u v) (hb : b = 2 * ((n : Int) + 1)) (hz : n ≤ 1000)
    (h : ∀ D us c h' tk, Fr h₀ L h' m → News h₀ L h' ((D, listOf (List.toArray us) c) :: news) → (∀ p ∈ news, p.1 < D) → IntsAre us (twos n) → Q (.ref D) { s with heap := h', toks := tk }) :
    wpAny (model prog w) A (call (.type "list") [.ref r]) Q E s := by
  have hsz : Builtin.Range.rangeSize 2 b 2 = (n : Int) := by
    unfold Builtin.Range.rangeSize
    rw [if_pos (by decide)]
    split <;> (first | lia | omega)
  have hsm : Builtin.Range.small 2 b 2 = true := by
    unfold Builtin.Range.small
    rw [hsz]
    simp only [Builtin.Range.rangeFitsLong, Bool.and_eq_true, Bool.or_eq_true, decide_eq_true_eq, beq_iff_eq, show (2 : Int) > 0 by decide, if_true]
    (first | lia | omega)
  refine call_list_range hh hr hsm hsz (by (first | lia | omega)) fun h' tk acc c hk hD hI => ?_
  have hD' : h'.get? s.heap.objs.size = some (listOf (List.toArray acc.toList) c) := by
    rw [Array.toArray_toList]
    exact hD
  refine h _ acc.toList c h' tk (F.keeps hk) (news_pushed F N hk hD' rfl) (fun p hp => Heap.lt_size (N p hp).1) ?_
  refine ints_of_get (by rw [Array.length_toList, hI.1]; simp [twos]) fun j v hj => ?_
  have hj' : j < n := by
    have := (List.getElem?_eq_some_iff.mp hj).1
    rw [Array.length_toList, hI.1] at this; exact this
  obtain ⟨t, e⟩ := hI.2 j v (by rw [← hj, Array.getElem?_toList])
  refine ⟨2 + 2 * (j : Int), t, ?_, by rw [e]; congr 1; (first | lia | omega)⟩
  unfold twos
  rw [List.getElem?_map, List.getElem?_range hj']
  rfl
end
end Mine
end
section
namespace Mine
noncomputable def WStep (h₀ : Heap) (L : Addr) (news : List (Addr × Obj)) (s : Shared) (J : Nat → (Str → Option Value) → Prop) (n : Nat) (f : Flow) (s₃ : Shared) : Prop :=
  f = .next ∧ ∃ h' tk m₂ n', s₃ = { s with heap := h', toks := tk } ∧ Fr h₀ L h' m₂ ∧ News h₀ L h' news ∧ n' < n ∧ J n' m₂
noncomputable def WOut (h₀ : Heap) (L : Addr) (news : List (Addr × Obj)) (s : Shared) (J : Nat → (Str → Option Value) → Prop) (s₃ : Shared) : Prop :=
  ∃ h' tk m₂ n', s₃ = { s with heap := h', toks := tk } ∧ Fr h₀ L h' m₂ ∧ News h₀ L h' news ∧ J n' m₂
section
variable {prog : Program} {w : World} {A : Around} {E : Value → Shared → Prop} {s : Shared} {env : Env} {h₀ : Heap} {L : Addr} {m : Str → Option Value} {news : List (Addr × Obj)} {Q : Flow → Shared → Prop}
theorem WStep.intro {J : Nat → (Str → Option Value) → Prop} {h' : Heap} {n tk : Nat} {m₂ : Str → Option Value} (n' : Nat) (F : Fr h₀ L h' m₂) (N : News h₀ L h' news) (hn : n' < n) (hJ : J n' m₂) : WStep h₀ L news s J n .next { s with heap := h', toks := tk } :=
  ⟨rfl, h', tk, m₂, n', rfl, F, N, hn, hJ⟩
theorem WOut.intro {J : Nat → (Str → Option Value) → Prop} {h' : Heap} {tk : Nat} {m₂ : Str → Option Value} (n' : Nat) (F : Fr h₀ L h' m₂) (N : News h₀ L h' news) (hJ : J n' m₂) : WOut h₀ L news s J { s with heap := h', toks := tk } :=
  ⟨h', tk, m₂, n', rfl, F, N, hJ⟩
/-- a while whose ways out meet -/
theorem while_rule {test : Expr} {body : List Stmt} {pos : Pos} (J : Nat → (Str → Option Value) → Prop) {n₀ : Nat} (F : Fr h₀ L s.heap m) (N : News h₀ L s.heap news) (j : J n₀ m)
    (turn : ∀ n m₁ h₁ tk₁ (E' : Value → Shared → Prop), Fr h₀ L h₁ m₁ → News h₀ L h₁ news → J n m₁ →
      wpAny (model prog w) A (isTrue test env (eval test env)) (fun b s₂ => if b = true then wpAny (model prog w) A (execs body env) (WStep h₀ L news { s with heap := h₁, toks := tk₁ } J n) E' s₂ else WOut h₀ L news { s with heap := h₁, toks := tk₁ } J s₂) E' { s with heap := h₁, toks := tk₁ })
    (done : ∀ n m₁ h₁ tk₁, Fr h₀ L h₁ m₁ → News h₀ L h₁ news → J n m₁ → Q .next { s with heap := h₁, toks := tk₁ }) :
    wpAny (model prog w) A (exec (.While test body [] pos) env) Q E s := by
  refine wpAny_While (codeAny_whileLoop (fun n s' => ∃ h₁ tk₁ m₁, s' = { s with heap := h₁, toks := tk₁ } ∧ Fr h₀ L h₁ m₁ ∧ News h₀ L h₁ news ∧ J n m₁) ?_ n₀ ⟨s.heap, s.toks, m, rfl, F, N, j⟩)
  intro n s' zr0
  refine e3a4 (zr0) fun h₁ tk₁ m₁ ze0 F₁ N₁ J₁ => ?_
  clear zr0
  subst ze0
  refine wpAny_mono (turn n m₁ h₁ tk₁ _ F₁ N₁ J₁) (fun b s₂ h₂ => ?_) fun _ _ e => e
  cases b with
  | false =>
    simp only [Bool.false_eq_true, if_false] at h₂ ⊢
    refine e4a4 (h₂) fun h' tk m₂ n' ze0 F₂ N₂ J₂ => ?_
    clear h₂
    subst ze0
    exact wpAny_execs_nil (done n' m₂ h' tk F₂ N₂ J₂)
  | true =>
    simp only [if_true] at h₂ ⊢
    refine wpAny_mono h₂ (fun f s₃ h₃ => ?_) fun _ _ e => e
    refine a2 (h₃) fun ze0 zt1 => ?_
    clear h₃
    subst ze0
    refine e4a5 (zt1) fun h' tk m₂ n' ze2 F₂ N₂ hn J₂ => ?_
    clear zt1
    subst ze2
    exact ⟨n', hn, h', tk, m₂, rfl, F₂, N₂, J₂⟩
end

/-- between the turns of the loop that takes the like beginnings off -/
noncomputable def Lev1 (u v : List Nat) (t1 t2 : Tok) (mx : Int) (t3 : Tok) (n : Nat) (m : Str → Option Value) : Prop :=
  ∃ (p : Nat) (tp : Tok), p ≤ u.length ∧ n + p = u.length ∧ u.take p = v.take p ∧ m (Str.ofString "a") = some (.str (Tx u) t1) ∧ m (Str.ofString "b") = some (.str (Tx v) t2) ∧ m (Str.ofString "max_cost") = some (.int mx t3) ∧ m (Str.ofString "pre") = some (.int (p : Int) tp)
theorem Lev1.start {u v : List Nat} {t1 t2 : Tok} {mx : Int} {t3 tp : Tok} {m : Str → Option Value} (h1 : m (Str.ofString "a") = some (.str (Tx u) t1)) (h2 : m (Str.ofString "b") = some (.str (Tx v) t2)) (h3 : m (Str.ofString "max_cost") = some (.int mx t3)) (h4 : m (Str.ofString "pre") = some (.int 0 tp)) : Lev1 u v t1 t2 mx t3 u.length m :=
  ⟨0, tp, Nat.zero_le _, rfl, rfl, h1, h2, h3, h4⟩
theorem take_step {u v : List Nat} {p : Nat} (hl : u.length = v.length) (h : u.take p = v.take p) (hp : p < u.length) (he : (Tx [u.getD p 0] == Tx [v.getD p 0]) = true) : u.take (p + 1) = v.take (p + 1) := by
  rw [Tx_inj] at he
  have he' : u.getD p 0 = v.getD p 0 := by simpa using he
  rw [List.take_add_one, List.take_add_one, h]
  congr 2
  rw [List.getD_eq_getElem?_getD, List.getD_eq_getElem?_getD, List.getElem?_eq_getElem hp, List.getElem?_eq_getElem (by (first | lia | omega))] at he'
  rw [List.getElem?_eq_getElem hp, List.getElem?_eq_getElem (by (first | lia | omega))]
  simpa using he'
/-- between the turns of the loop that takes the like ends off -/
noncomputable def Lev2 (u v : List Nat) (t1 t2 : Tok) (mx : Int) (t3 : Tok) (n : Nat) (m : Str → Option Value) : Prop :=
  ∃ (q : Nat) (tp : Tok), q ≤ u.length ∧ n + q = u.length ∧ u.drop (u.length - q) = v.drop (u.length - q) ∧ m (Str.ofString "a") = some (.str (Tx u) t1) ∧ m (Str.ofString "b") = some (.str (Tx v) t2) ∧ m (Str.ofString "max_cost") = some (.int mx t3) ∧ m (Str.ofString "post") = some (.int (-(q : Int)) tp)
theorem Lev2.start {u v : List Nat} {t1 t2 : Tok} {mx : Int} {t3 tp : Tok} {m : Str → Option Value} (hl : u.length = v.length) (h1 : m (Str.ofString "a") = some (.str (Tx u) t1)) (h2 : m (Str.ofString "b") = some (.str (Tx v) t2)) (h3 : m (Str.ofString "max_cost") = some (.int mx t3)) (h4 : m (Str.ofString "post") = some (.int 0 tp)) : Lev2 u v t1 t2 mx t3 u.length m :=
  ⟨0, tp, Nat.zero_le _, rfl, by rw [Nat.sub_zero, List.drop_length, hl, List.drop_length], h1, h2, h3, h4⟩
theorem drop_step {u v : List Nat} {q : Nat} (hl : u.length = v.length) (h : u.drop (u.length - q) = v.drop (u.length - q)) (hq : q < u.length) (he : (Tx [u.getD (u.length - (q + 1)) 0] == Tx [v.getD (u.length - (q + 1)) 0]) = true) : u.drop (u.length - (q + 1)) = v.drop (u.length - (q + 1)) := by
  rw [Tx_inj] at he
  have he' : u.getD (u.length - (q + 1)) 0 = v.getD (u.length - (q + 1)) 0 := by simpa using he
  have hk : u.length - (q + 1) < u.length := by (first | lia | omega)
  have e1 : u.length - q = u.length - (q + 1) + 1 := by (first | lia | omega)
  rw [e1] at h
  rw [List.getD_eq_getElem?_getD, List.getD_eq_getElem?_getD, List.getElem?_eq_getElem hk, List.getElem?_eq_getElem (by (first | lia | omega))] at he'
  rw [List.drop_eq_getElem_cons hk, List.drop_eq_getElem_cons (by (first | lia | omega) : u.length - (q + 1) < v.length), h]
  congr 1
section
variable {s : Shared} {h₀ : Heap} {L : Addr} {m : Str → Option Value} {news : List (Addr × Obj)} {u v : List Nat} {t1 t2 t3 tp : Tok} {mx : Int} {n p q tk : Nat} {h' : Heap}
theorem Lev1.next (F : Fr h₀ L h' m) (N : News h₀ L h' news) (hl : u.length = v.length) (hp : p < u.length) (hn : n + p = u.length) (h : u.take p = v.take p) (he : (Tx [u.getD p 0] == Tx [v.getD p 0]) = true)
    (h1 : m (Str.ofString "a") = some (.str (Tx u) t1)) (h2 : m (Str.ofString "b") = some (.str (Tx v) t2)) (h3 : m (Str.ofString "max_cost") = some (.int mx t3)) (h4 : m (Str.ofString "pre") = some (.int ((p : Int) + 1) tp)) :
    WStep h₀ L news s (Lev1 u v t1 t2 mx t3) n .next { s with heap := h', toks := tk } :=
  .intro (n - 1) F N (by (first | lia | omega)) ⟨p + 1, tp, hp, by (first | lia | omega), take_step hl h hp he, h1, h2, h3, h4⟩
theorem Lev1.out (F : Fr h₀ L h' m) (N : News h₀ L h' news) (hp : p ≤ u.length) (hn : n + p = u.length) (h : u.take p = v.take p)
    (h1 : m (Str.ofString "a") = some (.str (Tx u) t1)) (h2 : m (Str.ofString "b") = some (.str (Tx v) t2)) (h3 : m (Str.ofString "max_cost") = some (.int mx t3)) (h4 : m (Str.ofString "pre") = some (.int (p : Int) tp)) :
    WOut h₀ L news s (Lev1 u v t1 t2 mx t3) { s with heap := h', toks := tk } :=
  .intro n F N ⟨p, tp, hp, hn, h, h1, h2, h3, h4⟩
theorem place_of {q n : Nat} (h : q < n) : (-(q : Int) - 1 + (n : Int)).toNat = n - (q + 1) := by (first | lia | omega)
theorem Lev2.next (F : Fr h₀ L h' m) (N : News h₀ L h' news) (hl : u.length = v.length) (hp : q < u.length) (hn : n + q = u.length) (h : u.drop (u.length - q) = v.drop (u.length - q)) (he : (Tx [u.getD (-(q : Int) - 1 + (u.length : Int)).toNat 0] == Tx [v.getD (-(q : Int) - 1 + (v.length : Int)).toNat 0]) = true)
    (h1 : m (Str.ofString "a") = some (.str (Tx u) t1)) (h2 : m (Str.ofString "b") = some (.str (Tx v) t2)) (h3 : m (Str.ofString "max_cost") = some (.int mx t3)) (h4 : m (Str.ofString "post") = some (.int (-(q : Int) - 1) tp)) :
    WStep h₀ L news s (Lev2 u v t1 t2 mx t3) n .next { s with heap := h', toks := tk } := by
  rw [← hl, place_of hp] at he
  exact .intro (n - 1) F N (by (first | lia | omega)) ⟨q + 1, tp, hp, by (first | lia | omega), drop_step hl h hp he, h1, h2, h3, by rw [h4]; congr 2; (first | lia | omega)⟩
theorem Lev2.out (F : Fr h₀ L h' m) (N : News h₀ L h' news) (hp : q ≤ u.length) (hn : n + q = u.length) (h : u.drop (u.length - q) = v.drop (u.length - q))
    (h1 : m (Str.ofString "a") = some (.str (Tx u) t1)) (h2 : m (Str.ofString "b") = some (.str (Tx v) t2)) (h3 : m (Str.ofString "max_cost") = some (.int mx t3)) (h4 : m (Str.ofString "post") = some (.int (-(q : Int)) tp)) :
    WOut h₀ L news s (Lev2 u v t1 t2 mx t3) { s with heap := h', toks := tk } :=
  .intro n F N ⟨q, tp, hp, hn, h, h1, h2, h3, h4⟩
end
end Mine
end
section
set_option maxRecDepth 100000
set_option maxHeartbeats 400000000
namespace Mine
noncomputable def seen2 : Program := view PySem.Challenge.pw_ty0036_02 [6, 7, 9, 10, 11, 12, 13, 15, 16, 17, 18, 19, 21, 22, 23, 24, 25, 26, 27, 28]
theorem headG {r : OpenRow} {q : Program} {loose : List Str} {N : Nat} (H : Hook) {d : DefRec} {kwd : List (Str × Expr)}
    (left : LeftO r.prog q loose (fun s => xlAt q [] s && recOk (RowW.records r.toRowW) s) (Hook.obs H) (Hook.val H) N)
    (hdef : defOf q r.name = some (d, kwd)) (hp : r.prog.theDef r.name = some (d.params, d.body, d.scope)) (hk : kwWritten? d.params.kwonlyargs d.params.kw_defaults = some kwd) (hwr : (!r.writes || r.records.isEmpty) = true)
    (k1 : r.wellSaid = true) (ok : (chainsOk q && opensWell r.prog && (frees r.toRowW && r.within.isEmpty)) = true) (hb : r.prog.bare) (hw : r.toRowW.promised)
    (call : WalkO q loose (XL q []) (Hook.says H) r.toRowW d kwd fun f vs => PySem.call f vs) : r.Holds :=
  holds_open (YP := Hook.says H) left (Hook.of H) (Hook.keeps H) (fun s e => xl_of s (Bool.and_eq_true_iff.mp e).1) XL.keeps hdef hp hk (fun s e => recFacts_of (Bool.and_eq_true_iff.mp e).2) hwr k1 ok hb hw call
noncomputable def headS (H : Hook) {d : DefRec} {kwd : List (Str × Expr)} := @headG (OpenLaw.row PySem.Challenge.rw_ty0036_02) seen2 [Str.ofString "insort_right", Str.ofString "bisect_right", Str.ofString "insort_left", Str.ofString "bisect_left"] 1576 H d kwd
theorem left_two {p q : Program} {loose : List Str} {Xt : Shared → Bool} {α : Type} {Yf : Shared → α} {Ya : World → α} {N : Nat}
    (a : ∀ w, (openEnds treeTable p w N).map (openSeen q loose (importedModules p.main.body) Xt true) = some (openGood q loose))
    (b : ∀ w, (openEnds treeTable p w N).map Yf = some (Ya w)) : LeftO p q loose Xt Yf Ya N := fun w => by
  obtain ⟨s, e, a⟩ := Option.map_eq_some_iff.mp (a w)
  obtain ⟨s', e', b⟩ := Option.map_eq_some_iff.mp (b w)
  rw [e] at e' ⊢; cases e'
  rw [Option.map_some, a, b]
theorem look2 : looksOpen (OpenLaw.row PySem.Challenge.rw_ty0036_02).prog = true := by kernel_rfl
theorem said2 : OpenLaw.wellSaid PySem.Challenge.rw_ty0036_02 = true := by
  unfold OpenLaw.wellSaid OpenRow.wellSaid OpenRow.partSaid
  rw [look2]
  kernel_rfl
theorem left2 (w : World) : (openEnds treeTable (OpenLaw.row PySem.Challenge.rw_ty0036_02).prog w 1576).map (openSeen seen2 [Str.ofString "insort_right", Str.ofString "bisect_right", Str.ofString "insort_left", Str.ofString "bisect_left"] (importedModules (OpenLaw.row PySem.Challenge.rw_ty0036_02).prog.main.body) (fun s => xlAt seen2 [] s && recOk (RowW.records (OpenLaw.row PySem.Challenge.rw_ty0036_02).toRowW) s) true) = some (openGood seen2 [Str.ofString "insort_right", Str.ofString "bisect_right", Str.ofString "insort_left", Str.ofString "bisect_left"]) := by kernel_rfl
theorem words2 : True := by
  k_with "o_law" => (refine holds_law said2 fun said => ?_)
  k_with "o_head" => ((case left => refine left_two left2 ?lb; (case lb => exact fun w => by kernel_rfl)); (case b1 => rfl); (case b2 => rfl); (case b3 => rfl); (case b4 => rfl); (case b5 => first | assumption | decide +kernel); (case b6 => decide +kernel); (case b7 => exact ⟨rfl, rfl, rfl, rfl, rfl, by decide +kernel⟩))
  trivial
end Mine
section
local macro_rules | `(tactic| o_law) => `(tactic| k_extra "o_law")
local macro_rules | `(tactic| o_head $H) => `(tactic| (refine' Mine.headS $H ?left ?b1 ?b2 ?b3 ?b4 ?b5 ?b6 ?b7 ?hw ?hc; k_extra "o_head"))
namespace Mine
open_top hd2 for PySem.Challenge.rw_ty0036_02
end Mine
end
end
section
set_option maxRecDepth 100000
set_option maxHeartbeats 8000000
namespace Mine
noncomputable abbrev P1 : Program := PySem.Challenge.rw_ty0036_02.row.toRowW.prog

/-- what a call of the def at f does, from any def's frame: r is the room that it wants -/
noncomputable def Call1 (r : Nat) (w : World) (f : Addr) (news : List (Addr × Obj)) (vs : List Value) (R : (Value → List (Addr × Obj) → Prop)) : Prop :=
  ∀ (p : Program) (loose : List Str) (mean : ExcName → Option Value) (mg mb : Str → Option Value)
    (dp un : Nat) (gd : Option (List Code)) (cn : Str) (cs : Scope) (a : Addr) (ccd : Value) (cl : List (Str × Addr)) (outer : List Env) (A₀ : Around) (base h₀ : Heap) (L : Addr) (m : Str → Option Value) (s : Shared) (Q E : Value → Shared → Prop),
    Below A₀ base outer h₀ → Fr h₀ L s.heap m → (hd2.heap_1 w.params).In h₀ → News h₀ L s.heap news → Top p loose mean mg mb h₀ → cs.kind = .function →
    dp + r < recursionLimit → un + 8 * r < cLine →
    (∀ (v : Value) (news' : List (Addr × Obj)) (h' : Heap) (tk' : Nat), R v news' → Fr h₀ L h' m → News h₀ L h' news' → Q v { s with heap := h', toks := tk' }) →
    wpAny (model P1 w) (ktrTop dp un gd cn cs L a ccd cl outer) (call (.ref f) vs) Q E s
theorem Call1.weak {r : Nat} {w : World} {f : Addr} {need news : List (Addr × Obj)} {vs : List Value} {R R' : Value → List (Addr × Obj) → Prop} (h : Call1 r w f need vs R) (hs : ∀ p ∈ need, p ∈ news)
    (hR : ∀ v n', R v n' → ∃ n'', R' v n'' ∧ ∀ p ∈ n'', p ∈ n') : Call1 r w f news vs R' := by
  intro p loose mean mg mb dp un gd cn cs a ccd cl outer A₀ base h₀ L m s Q E B F X N T hk hdp hun hret
  refine h p loose mean mg mb dp un gd cn cs a ccd cl outer A₀ base h₀ L m s Q E B F X (fun q hq => N q (hs q hq)) T hk hdp hun ?_
  intro v n' h' tk' hr F' N'
  obtain ⟨n'', hr', hsub⟩ := hR v n' hr
  exact hret v n'' h' tk' hr' F' (fun q hq => N' q (hsub q hq))
theorem Call1.use {r : Nat} {w : World} {f : Addr} {news : List (Addr × Obj)} {vs : List Value} {R : Value → List (Addr × Obj) → Prop} (C : Call1 r w f news vs R)
    {p : Program} {loose : List Str} {mean : ExcName → Option Value} {mg mb : Str → Option Value}
    {dp un : Nat} {gd : Option (List Code)} {cn : Str} {cs : Scope} {a : Addr} {ccd : Value} {cl : List (Str × Addr)} {outer : List Env} {A₀ : Around} {base h₀ : Heap} {L : Addr} {m : Str → Option Value} {s : Shared} {Q E : Value → Shared → Prop}
    (B : Below A₀ base outer h₀) (F : Fr h₀ L s.heap m) (X : (hd2.heap_1 w.params).In h₀) (N : News h₀ L s.heap news) (T : Top p loose mean mg mb h₀) (hk : cs.kind = .function)
    (hd : dp + r < recursionLimit) (hu : un + 8 * r < cLine)
    (ret : ∀ (v : Value) (news' : List (Addr × Obj)) (h' : Heap) (tk' : Nat), R v news' → Fr h₀ L h' m → News h₀ L h' news' → Q v { s with heap := h', toks := tk' }) :
    wpAny (model P1 w) (ktrTop dp un gd cn cs L a ccd cl outer) (call (.ref f) vs) Q E s :=
  C _ _ _ _ _ _ _ _ _ _ _ _ _ _ _ _ _ _ _ _ _ _ B F X N T hk hd hu ret
/-- a call that answers an int and leaves the ledger -/
theorem Call1.useI {r : Nat} {w : World} {f : Addr} {news : List (Addr × Obj)} {vs : List Value} {x : Int} (C : Call1 r w f news vs (fun v n' => (∃ t, v = .int x t) ∧ n' = news))
    {p : Program} {loose : List Str} {mean : ExcName → Option Value} {mg mb : Str → Option Value}
    {dp un : Nat} {gd : Option (List Code)} {cn : Str} {cs : Scope} {a : Addr} {ccd : Value} {cl : List (Str × Addr)} {outer : List Env} {A₀ : Around} {base h₀ : Heap} {L : Addr} {m : Str → Option Value} {s : Shared} {Q E : Value → Shared → Prop}
    (B : Below A₀ base outer h₀) (F : Fr h₀ L s.heap m) (X : (hd2.heap_1 w.params).In h₀) (N : News h₀ L s.heap news) (T : Top p loose mean mg mb h₀) (hk : cs.kind = .function)
    (hd : dp + r < recursionLimit) (hu : un + 8 * r < cLine)
    (ret : ∀ (h' : Heap) (tk' : Nat), Fr h₀ L h' m → News h₀ L h' news → ∀ t, Q (.int x t) { s with heap := h', toks := tk' }) :
    wpAny (model P1 w) (ktrTop dp un gd cn cs L a ccd cl outer) (call (.ref f) vs) Q E s :=
  C _ _ _ _ _ _ _ _ _ _ _ _ _ _ _ _ _ _ _ _ _ _ B F X N T hk hd hu fun _ _ h' tk' R F' N' => R.1.elim fun t e => e ▸ ret h' tk' F' (R.2 ▸ N') t
/-- a call that answers a value and leaves the ledger -/
theorem Call1.useV {r : Nat} {w : World} {f : Addr} {news : List (Addr × Obj)} {vs : List Value} {v : Value} (C : Call1 r w f news vs (fun v' n' => v' = v ∧ n' = news))
    {p : Program} {loose : List Str} {mean : ExcName → Option Value} {mg mb : Str → Option Value}
    {dp un : Nat} {gd : Option (List Code)} {cn : Str} {cs : Scope} {a : Addr} {ccd : Value} {cl : List (Str × Addr)} {outer : List Env} {A₀ : Around} {base h₀ : Heap} {L : Addr} {m : Str → Option Value} {s : Shared} {Q E : Value → Shared → Prop}
    (B : Below A₀ base outer h₀) (F : Fr h₀ L s.heap m) (X : (hd2.heap_1 w.params).In h₀) (N : News h₀ L s.heap news) (T : Top p loose mean mg mb h₀) (hk : cs.kind = .function)
    (hd : dp + r < recursionLimit) (hu : un + 8 * r < cLine)
    (ret : ∀ (h' : Heap) (tk' : Nat), Fr h₀ L h' m → News h₀ L h' news → Q v { s with heap := h', toks := tk' }) :
    wpAny (model P1 w) (ktrTop dp un gd cn cs L a ccd cl outer) (call (.ref f) vs) Q E s :=
  C _ _ _ _ _ _ _ _ _ _ _ _ _ _ _ _ _ _ _ _ _ _ B F X N T hk hd hu fun _ _ h' tk' R F' N' => R.1 ▸ ret h' tk' F' (R.2 ▸ N')
/-- the count of the tokens is anything -/
theorem tok_gen {α : Type} {M : Model} {A : Around} {c} {Q : α → Shared → Prop} {E : Value → Shared → Prop} {h g d t o} (H : ∀ t', wpAny M A c Q E (Shared.mk h g d t' o)) : wpAny M A c Q E (Shared.mk h g d t o) := H t
/-- what a body must reach gets a name -/
theorem absL {α : Type} {M : Model} {A : Around} {c} {B} {Q : Flow → Shared → Prop} {E : Value → Shared → Prop} {s : Shared} (H : let QQ := Q; wpAny M A (α := α) c (fun _ s' => wpAny M A (α := Flow) B QQ E s') E s) : wpAny M A c (fun _ s' => wpAny M A B Q E s') E s := H
section
variable {M : Model} {A : Around} {E : Value → Shared → Prop} {h₀ : Heap} {L a : Addr} {m : Str → Option Value} {cn : Str} {cs : Scope} {ccd : Value} {cl : List (Str × Addr)}
  {x : Str} {v : Value} {Q : Unit → Shared → Prop} {news : List (Addr × Obj)}
theorem storeX_Lf {h g d t o g₀ d₀ o₀ t₀} (eg : g = g₀) (ed : d = d₀) (eo : o = o₀) (et : t = t₀) (F : Fr h₀ L h m) (N : News h₀ L h news)
    (H : ∀ h', Fr h₀ L h' (fun y => if y = x then some v else m y) → News h₀ L h' news → Q () (Shared.mk h' g₀ d₀ (t₀ + 1) o₀))
    (hk : cs.kind = .function) (hx : (envX cn cs L a ccd cl).kindOf x = some .local) : wpAny M A (storeName (envX cn cs L a ccd cl) x v) Q E (Shared.mk h g d t o) := by
  subst eg ed eo et
  exact storeX_L (s := Shared.mk h g d t o) F N (fun h' F' N' => H h' F' N') hk hx
end
end Mine
end
section
open Mine
local macro_rules | `(tactic| walk_at $s:str) => `(tactic| k_extra $s)
local macro_rules | `(tactic| k_all) => `(tactic| k_extra "k_all")

local macro_rules | `(tactic| walk_at "pm0") => `(tactic| (intro h' F' N'))
local macro_rules | `(tactic| walk_at "pm1") => `(tactic| (intro g' L' h' FG' F' N' B' X' T'; (try k_lift B')))
local macro_rules | `(tactic| walk_at "pm2") => `(tactic| (intro g' L' h' tk' cells' FG' F' N' Y' B' X' T' l1; (try k_lt l1); k_cells Y'; (try simp only [List.cons_append, List.nil_append] at N'); (try k_lift B')))
section
set_option maxRecDepth 100000
set_option maxHeartbeats 8000000
namespace Mine








/-- the sign of a figure at a place -/
noncomputable def menu (k : Nat) : List Nat := [97 + k, 65 + k, 101 + k, 69 + k]
noncomputable def sgn (k : Nat) (d : Int) : Nat := (menu k).getD d.toNat 0
noncomputable def word2 (n : Int) : List Nat := [sgn 0 (n % 4), sgn 1 (n / 4 % 4), sgn 2 (n / 4 / 4 % 4), sgn 3 (n / 4 / 4 / 4 % 4)]
theorem Tx_app (a b : List Nat) : Tx a ++ Tx b = Tx (a ++ b) := by
  show PySem.Str.mk ((Tx a).cps ++ (Tx b).cps) = _
  unfold Tx
  simp
theorem item_menu (x : Str) (k : Nat) (hx : x = Tx (menu k)) (d : Int) (hd : 0 ≤ d ∧ d < 4) : Txt.item x d = Tx [sgn k d] := by
  subst hx
  exact Tx_item hd.1 (by show d < 4; exact hd.2)
theorem word2_eq (n : Int) : (Str.ofString "" ++ Txt.item (Str.ofString "aAeE") (n.fmod 4) ++ Txt.item (Str.ofString "bBfF") ((n.fdiv 4).fmod 4) ++ Txt.item (Str.ofString "cCgG") (((n.fdiv 4).fdiv 4).fmod 4) ++
      Txt.item (Str.ofString "dDhH") ((((n.fdiv 4).fdiv 4).fdiv 4).fmod 4)) = Tx (word2 n) := by
  have e4 : ∀ a : Int, a.fmod 4 = a % 4 := fun a => Int.fmod_eq_emod_of_nonneg _ (by decide)
  have d4 : ∀ a : Int, a.fdiv 4 = a / 4 := fun a => Int.fdiv_eq_ediv_of_nonneg _ (by decide)
  have b4 : ∀ a : Int, 0 ≤ a % 4 ∧ a % 4 < 4 := fun a => by (first | lia | omega)
  rw [e4, e4, e4, e4, d4, d4, d4]
  rw [item_menu _ 0 (by decide) _ (b4 _), item_menu _ 1 (by decide) _ (b4 _), item_menu _ 2 (by decide) _ (b4 _), item_menu _ 3 (by decide) _ (b4 _), show Str.ofString "" = Tx [] by decide, Tx_app, Tx_app, Tx_app, Tx_app]
  rfl
theorem word2_call (w : World) (news : List (Addr × Obj)) (n : Int) (t1 : Tok) :
    Call1 1 w 113 news [.int n t1] (fun v news' => (∃ t, v = .str (Tx (word2 n)) t) ∧ news' = news) := by
  have hrow : PySem.Challenge.rw_ty0036_02.most = some 63 := rfl
  unfold Call1
  revert hrow
  k_with_none
  w_top off
  k_with "storeName" => ((k_here; k_dflt (refine' storeX_Lf ?zweg ?zwed ?zweo ?zwet ?zwF ?zwN ?_ ?zwa ?zwb; (case zweg => dsimp only); (case zwed => dsimp only); (case zweo => dsimp only); (case zwet => dsimp only); (case zwF => k_asm); (case zwN => k_asm); (case zwa => rfl); (case zwb => rfl); k_whole; walk_at "pm0"; (try k_sweep))))
  k_with "tb_start" => (k_dflt (first
  | (refine' code_def ?zwk1 ?zwk2 ?zwk3 ?zwk4 ?zwk5 ?zwkA ?zwkF ?zwkK ?zwk6 ?zwk7 ?zwk8 ?zwk9 ?zwkB ?_ ?zwc2 ?zwc3 ?zwc4 ?zwc5; (case zwkA => exact rfl); (case zwkF => exact rfl); (case zwkK => first | assumption | exact rfl); (case zwk1 => k_asm); (case zwk2 => k_asm); (case zwk3 => k_asm); (case zwk4 => k_asm); (case zwk5 => k_asm); (case zwk6 => k_is); (case zwk7 => k_is); (case zwk8 => ktr_room); (case zwk9 => first | exact BindsTo.of_eq rfl | (refine' kp_binds ?zwkx ?zwke; (case zwkx => k_in); (case zwke => exact fun _ => rfl))); (case zwc5 => decide); (case zwkB => exact locs rfl); (case zwc2 => exact rfl); (case zwc3 => exact rfl); (case zwc4 => exact rfl); k_whole; walk_at "pm1"; (try dsimp only); (try k_fold))
  | (refine' code_defC ?zwk1 ?zwk2 ?zwk3 ?zwk4 ?zwk5 ?zwkA ?zwkF ?zwkK ?zwk6 ?zwk7 ?zwk8 ?zwk9 ?zwkB ?zwkD ?_ ?zwc2 ?zwc3 ?zwc4; (case zwkA => exact rfl); (case zwkF => exact rfl); (case zwkK => first | assumption | exact rfl); (case zwk1 => k_asm); (case zwk2 => k_asm); (case zwk3 => k_asm); (case zwk4 => k_asm); (case zwk5 => k_asm); (case zwk6 => k_is); (case zwk7 => k_is); (case zwk8 => ktr_room); (case zwk9 => first | exact BindsTo.of_eq rfl | (refine' kp_binds ?zwkx ?zwke; (case zwkx => k_in); (case zwke => exact fun _ => rfl))); (case zwkB => exact rfl); (case zwkD => decide +kernel); (case zwc2 => exact rfl); (case zwc3 => exact rfl); (case zwc4 => exact rfl); k_whole; walk_at "pm2"; (try dsimp only); (try k_fold))))
  k_with "k_all" => (first | assumption | exact all_ne (by assumption) (by omega))
  k_with "call ref" => ((k_here; refine wpAny_call ?_; k_extra "tb_start"))
  k_with "k_all" => (first | assumption | exact all_ne (by assumption) (by omega) | fail)
  k_fill
  intro hrow
  clear hrow
  intro p loose mean mg mb dp un gd cn cs a ccd cl outer A₀ base h₀ L m s Q E B F X N T hk hdp hun hret
  refine wpAny_call ?_
  k_extra "tb_start"
  refine tok_gen fun tk0 => ?_
  k_steps
  rw [word2_eq]
  refine hret _ _ _ _ ⟨⟨_, rfl⟩, rfl⟩ (by k_asm) ?_; (intro p9 hp9; refine (show News _ _ _ _ by k_asm) p9 ?_; k_ownIn)
end Mine
end
section
set_option maxRecDepth 100000
set_option maxHeartbeats 8000000
namespace Mine







/-- what it costs to put one letter in another's place -/
noncomputable def scost (x y : Str) : Int := if x == y then 0 else if Txt.lower x == Txt.lower y then 1 else 2
theorem scost_0 {x y : Str} (h : (x == y) = true) : 0 = scost x y := by unfold scost; rw [h]; rfl
theorem scost_1 {x y : Str} (h : (x == y) = false) (h' : (Txt.lower x == Txt.lower y) = true) : 1 = scost x y := by unfold scost; rw [h, h']; rfl
theorem scost_2 {x y : Str} (h : (x == y) = false) (h' : (Txt.lower x == Txt.lower y) = false) : 2 = scost x y := by unfold scost; rw [h, h']; rfl
theorem sub_call (w : World) (news : List (Addr × Obj)) (t1 t2 : Tok) (x y : Str) (hx : x.length ≤ 1) (hy : y.length ≤ 1) :
    Call1 2 w 92 news [.str x t1, .str y t2] (fun v news' => (∃ t, v = .int (scost x y) t) ∧ news' = news) := by
  have hrow : PySem.Challenge.rw_ty0036_02.most = some 63 := rfl
  unfold Call1
  revert hrow
  k_with_none
  w_top off
  k_with "tb_start" => (k_dflt (first
  | (refine' code_def ?zqk1 ?zqk2 ?zqk3 ?zqk4 ?zqk5 ?zqkA ?zqkF ?zqkK ?zqk6 ?zqk7 ?zqk8 ?zqk9 ?zqkB ?_ ?zqc2 ?zqc3 ?zqc4 ?zqc5; (case zqkA => exact rfl); (case zqkF => exact rfl); (case zqkK => first | assumption | exact rfl); (case zqk1 => k_asm); (case zqk2 => k_asm); (case zqk3 => k_asm); (case zqk4 => k_asm); (case zqk5 => k_asm); (case zqk6 => k_is); (case zqk7 => k_is); (case zqk8 => ktr_room); (case zqk9 => first | exact BindsTo.of_eq rfl | (refine' kp_binds ?zqkx ?zqke; (case zqkx => k_in); (case zqke => exact fun _ => rfl))); (case zqc5 => decide); (case zqkB => exact locs rfl); (case zqc2 => exact rfl); (case zqc3 => exact rfl); (case zqc4 => exact rfl); k_whole; intro g' L' h' FG' F' N' B' X' T'; (try dsimp only); (try k_lift B'); (try k_fold))
  | (refine' code_defC ?zqk1 ?zqk2 ?zqk3 ?zqk4 ?zqk5 ?zqkA ?zqkF ?zqkK ?zqk6 ?zqk7 ?zqk8 ?zqk9 ?zqkB ?zqkD ?_ ?zqc2 ?zqc3 ?zqc4; (case zqkA => exact rfl); (case zqkF => exact rfl); (case zqkK => first | assumption | exact rfl); (case zqk1 => k_asm); (case zqk2 => k_asm); (case zqk3 => k_asm); (case zqk4 => k_asm); (case zqk5 => k_asm); (case zqk6 => k_is); (case zqk7 => k_is); (case zqk8 => ktr_room); (case zqk9 => first | exact BindsTo.of_eq rfl | (refine' kp_binds ?zqkx ?zqke; (case zqkx => k_in); (case zqke => exact fun _ => rfl))); (case zqkB => exact rfl); (case zqkD => decide +kernel); (case zqc2 => exact rfl); (case zqc3 => exact rfl); (case zqc4 => exact rfl); k_whole; intro g' L' h' tk' cells' FG' F' N' Y' B' X' T' l1; (try k_lt l1); k_cells Y'; (try simp only [List.cons_append, List.nil_append] at N'); (try dsimp only); (try k_lift B'); (try k_fold))))
  k_with "call ref" => ((k_here; refine wpAny_call ?_; k_extra "tb_start"))
  k_with "k_all" => (first | assumption | exact all_ne (by assumption) (by omega) | fail)
  k_fill
  intro hrow
  clear hrow
  intro p loose mean mg mb dp un gd cn cs a ccd cl outer A₀ base h₀ L m s Q E B F X N T hk hdp hun hret
  refine wpAny_call ?_
  k_extra "tb_start"
  refine tok_gen fun tk0 => ?_
  k_steps
  all_goals (refine hret _ _ _ _ ⟨ktn_int ?_, rfl⟩ (by k_asm) (by k_asm); first | exact scost_0 (by assumption) | exact scost_1 (by assumption) (by assumption) | exact scost_2 (by assumption) (by assumption))
end Mine
end
section
namespace Mine
theorem scost_bounds (x y : Str) : 0 ≤ scost x y ∧ scost x y ≤ 2 := by
  unfold scost; split
  · (first | lia | omega)
  · split <;> (first | lia | omega)
/-- the price of place k -/
noncomputable def cc (x y : List Nat) (k : Nat) : Int := scost (Tx [y.getD k 0]) (Tx [x.getD k 0])
noncomputable def cS (x y : List Nat) : Nat → Int
  | 0 => 0
  | k + 1 => cS x y k + cc x y k
theorem cc_bounds (x y : List Nat) (k : Nat) : 0 ≤ cc x y k ∧ cc x y k ≤ 2 := scost_bounds _ _
theorem cS_mono (x y : List Nat) {i j : Nat} (h : i ≤ j) : cS x y i ≤ cS x y j := by
  induction j with
  | zero => have e : i = 0 := Nat.le_zero.mp h; rw [e]; exact Int.le_refl _
  | succ j ih =>
    by_cases e : i = j + 1
    · rw [e]; exact Int.le_refl _
    · have := ih (by (first | lia | omega)); have := cc_bounds x y j
      show cS x y i ≤ cS x y j + cc x y j; (first | lia | omega)
/-- the price table -/
noncomputable def DD (x y : List Nat) (i j : Nat) : Int := 2 * (((i : Int) - j).natAbs : Int) + cS x y (min i j)
/-- the row, j places of turn i done -/
noncomputable def RowOK (x y : List Nat) (n i j : Nat) (ns : List Int) : Prop := ns.length = n ∧ ∀ t, t < n → ns[t]? = some (if t < j then DD x y (i + 1) (t + 1) else DD x y i (t + 1))
theorem RowOK.start (x y : List Nat) (n : Nat) : RowOK x y n 0 0 (twos n) := by
  refine ⟨by simp [twos], fun t ht => ?_⟩
  unfold twos DD
  rw [List.getElem?_map, List.getElem?_range ht, if_neg (by omega), Nat.zero_min]
  simp only [Option.map_some, cS]
  congr 1
  omega
theorem RowOK.turn {x y : List Nat} {n i : Nat} {ns : List Int} (h : RowOK x y n i n ns) : RowOK x y n (i + 1) 0 ns := by
  refine ⟨h.1, fun t ht => ?_⟩
  rw [h.2 t ht, if_pos ht, if_neg (by omega)]
theorem RowOK.set {x y : List Nat} {n i j : Nat} {ns : List Int} (h : RowOK x y n i j ns) (hj : j < n) {v : Int} (hv : v = DD x y (i + 1) (j + 1)) : RowOK x y n i (j + 1) (ns.set j v) := by
  refine ⟨by rw [List.length_set]; exact h.1, fun t ht => ?_⟩
  rw [List.getElem?_set]
  by_cases e : j = t
  · subst e
    rw [if_pos rfl, if_pos (by rw [h.1]; exact ht), if_pos (by (first | lia | omega)), hv]
  · rw [if_neg e, h.2 t ht]
    by_cases e' : t < j
    · rw [if_pos e', if_pos (by (first | lia | omega))]
    · rw [if_neg e', if_neg (by (first | lia | omega))]
theorem RowOK.get {x y : List Nat} {n i j : Nat} {ns : List Int} (h : RowOK x y n i j ns) (hj : j < n) : ns.getD j 0 = DD x y i (j + 1) := by
  rw [List.getD_eq_getElem?_getD, h.2 j hj, if_neg (by (first | lia | omega))]; rfl
/-- what stands to the left of place j in turn i -/
noncomputable def RR (x y : List Nat) (i j : Nat) : Int := if j = 0 then 2 * (i : Int) else DD x y (i + 1) j
theorem DD_le {x y : List Nat} {i j : Nat} (h : i ≤ j) : DD x y i j = 2 * ((j : Int) - (i : Int)) + cS x y i := by
  unfold DD; rw [Nat.min_eq_left h]; congr 2; omega
theorem DD_ge {x y : List Nat} {i j : Nat} (h : j ≤ i) : DD x y i j = 2 * ((i : Int) - (j : Int)) + cS x y j := by
  unfold DD; rw [Nat.min_eq_right h]; congr 2; omega
theorem num1 {i j a c : Int} (h : 0 ≤ c ∧ c ≤ 2) : min (min (2 * (j - (i + 1)) + (a + c)) (2 * (j + 1 - i) + a) + 2) (2 * (j - i) + a + 2) = 2 * (j + 1 - (i + 1)) + (a + c) := by
  have e : min (2 * (j - (i + 1)) + (a + c)) (2 * (j + 1 - i) + a) = 2 * (j - (i + 1)) + (a + c) := Int.min_eq_left (by first | lia | omega)
  rw [e, Int.min_eq_left (by first | lia | omega)]
  (first | lia | omega)
theorem num2 {i a c r : Int} (h : 0 ≤ c ∧ c ≤ 2) (hr : 0 ≤ r ∧ a ≤ r) : min (min r (2 * (i + 1 - i) + a) + 2) (2 * (i - i) + a + c) = 2 * (i + 1 - (i + 1)) + (a + c) := by
  have e : a ≤ min r (2 * (i + 1 - i) + a) := Int.le_min.mpr ⟨hr.2, by first | lia | omega⟩
  generalize min r (2 * (i + 1 - i) + a) = w at e
  rw [Int.min_eq_right (by first | lia | omega)]
  (first | lia | omega)
theorem num3 {i j b d r : Int} (h : 0 ≤ d ∧ d ≤ 2) (hr : 2 * (i - j) + b ≤ r) : min (min r (2 * (i - (j + 1)) + (b + d)) + 2) (2 * (i - j) + b + 2) = 2 * (i + 1 - (j + 1)) + (b + d) := by
  have e : min r (2 * (i - (j + 1)) + (b + d)) = 2 * (i - (j + 1)) + (b + d) := Int.min_eq_right (by first | lia | omega)
  rw [e, Int.min_eq_left (by first | lia | omega)]
  (first | lia | omega)
theorem RR_ge {x y : List Nat} {i j : Nat} (h : j ≤ i) : 2 * ((i : Int) - (j : Int)) + cS x y j ≤ RR x y i j := by
  unfold RR
  by_cases h0 : j = 0
  · subst h0
    rw [if_pos rfl]
    show 2 * ((i : Int) - 0) + 0 ≤ _
    (first | lia | omega)
  · rw [if_neg h0, DD_ge (Nat.le_succ_of_le h)]
    simp only [Int.natCast_succ, Int.natCast_add, Int.natCast_one]
    exact Int.add_le_add_right (Int.mul_le_mul_of_nonneg_left (Int.sub_le_sub_right (Int.le_add_of_nonneg_right (by decide)) _) (by decide)) _
/-- one step of the table -/
theorem dd_step {x y : List Nat} {i j : Nat} {s : Int} (hs : s = scost (Tx [y.getD i 0]) (Tx [x.getD j 0])) (hd : i ≠ j → s = 2) :
    min (min (RR x y i j) (DD x y i (j + 1)) + 2) (DD x y i j + s) = DD x y (i + 1) (j + 1) := by
  rcases Nat.lt_trichotomy i j with h | h | h
  · rw [hd (Nat.ne_of_lt h), DD_le (Nat.succ_le_succ (Nat.le_of_lt h)), DD_le (Nat.le_of_lt h), DD_le (Nat.le_succ_of_le (Nat.le_of_lt h))]
    unfold RR
    rw [if_neg (Nat.ne_of_gt (Nat.lt_of_le_of_lt (Nat.zero_le _) h)), DD_le (Nat.succ_le_of_lt h)]
    simp only [Int.natCast_succ, Int.natCast_add, Int.natCast_one]
    exact num1 (cc_bounds x y i)
  · subst h
    have hr := RR_ge (x := x) (y := y) (Nat.le_refl i)
    have h0 : 0 ≤ cS x y i := cS_mono x y (Nat.zero_le i)
    rw [Int.sub_self, Int.mul_zero, Int.zero_add] at hr
    have hs' : s = cc x y i := hs
    rw [hs', DD_le (Nat.le_refl (i + 1)), DD_le (Nat.le_refl i), DD_le (Nat.le_succ i)]
    simp only [Int.natCast_succ, Int.natCast_add, Int.natCast_one]
    exact num2 (cc_bounds x y i) ⟨Int.le_trans h0 hr, hr⟩
  · rw [hd (Nat.ne_of_gt h), DD_ge (Nat.succ_le_succ (Nat.le_of_lt h)), DD_ge (Nat.le_of_lt h), DD_ge (Nat.succ_le_of_lt h)]
    simp only [Int.natCast_succ, Int.natCast_add, Int.natCast_one]
    exact num3 (cc_bounds x y j) (RR_ge (Nat.le_of_lt h))
theorem dd_diag (x y : List Nat) (i : Nat) : DD x y i i = cS x y i := by unfold DD; rw [Nat.min_self]; (first | lia | omega)
theorem dd_zero (x y : List Nat) (i : Nat) : DD x y i 0 = 2 * (i : Int) := by
  unfold DD; rw [Nat.min_zero]; show _ + (0 : Int) = _; (first | lia | omega)

theorem off1 {D I : Addr} {o o' : Obj} {news : List (Addr × Obj)} (h : ∀ p ∈ (D, o') :: news, p.1 ≠ I) : ∀ p ∈ (D, o) :: news, p.1 ≠ I := by
  intro p hp
  rcases List.mem_cons.mp hp with rfl | hp
  · exact h (D, o') (.head _)
  · exact h p (.tail _ hp)
theorem off2 {hd : Addr × Obj} {D I : Addr} {o o' : Obj} {news : List (Addr × Obj)} (h : ∀ p ∈ hd :: (D, o') :: news, p.1 ≠ I) : ∀ p ∈ hd :: (D, o) :: news, p.1 ≠ I := by
  intro p hp
  rcases List.mem_cons.mp hp with rfl | hp
  · exact h p (.head _)
  · exact off1 (fun p hp => h p (.tail _ hp)) p hp
theorem min_ite (a b : Int) : (if b < a then b else a) = min a b := by split <;> (first | lia | omega)
/-- signs at different places have the full price -/
noncomputable def Apart (u v : List Nat) : Prop := ∀ i j, i < u.length → j < u.length → i ≠ j → scost (Tx [v.getD i 0]) (Tx [u.getD j 0]) = 2
theorem dd_turn {x y : List Nat} {i j : Nat} (h : Apart x y) (hi : i < x.length) (hj : j < x.length) :
    (if DD x y i j + scost (Tx [y.getD i 0]) (Tx [x.getD j 0]) < (if DD x y i (j + 1) < RR x y i j then DD x y i (j + 1) else RR x y i j) + 2 then DD x y i j + scost (Tx [y.getD i 0]) (Tx [x.getD j 0]) else (if DD x y i (j + 1) < RR x y i j then DD x y i (j + 1) else RR x y i j) + 2) = DD x y (i + 1) (j + 1) := by
  rw [min_ite, min_ite]
  exact dd_step rfl (fun e => h i j hi hj e)

noncomputable abbrev S' := Str.ofString
/-- between the turns of the outer loop -/
noncomputable def OutJ (news : List (Addr × Obj)) (D : Addr) (x y : List Nat) (t1 t2 : Tok) (mx : Int) (t3 : Tok) (i : Nat) (m : Str → Option Value) (nw : List (Addr × Obj)) : Prop :=
  ∃ us ns c tr, nw = (D, listOf (List.toArray us) c) :: news ∧ IntsAre us ns ∧ RowOK x y x.length i 0 ns ∧ m (S' "a") = some (.str (Tx x) t1) ∧ m (S' "b") = some (.str (Tx y) t2) ∧ m (S' "max_cost") = some (.int mx t3) ∧ m (S' "row") = some (.ref D) ∧
    m (S' "result") = some (.int (if i = 0 then 0 else DD x y i x.length) tr)
/-- between the turns of the inner loop -/
noncomputable def InnJ (hd : Addr × Obj) (news : List (Addr × Obj)) (D : Addr) (x y : List Nat) (t1 t2 : Tok) (mx : Int) (t3 : Tok) (i : Nat) (ti tb : Tok) (j : Nat) (m : Str → Option Value) (nw : List (Addr × Obj)) : Prop :=
  ∃ us ns c tr td tm mi, nw = hd :: (D, listOf (List.toArray us) c) :: news ∧ IntsAre us ns ∧ RowOK x y x.length i j ns ∧ (i < j → mi ≤ cS x y (i + 1)) ∧ m (S' "a") = some (.str (Tx x) t1) ∧ m (S' "b") = some (.str (Tx y) t2) ∧ m (S' "max_cost") = some (.int mx t3) ∧ m (S' "row") = some (.ref D) ∧
    m (S' "bindex") = some (.int (i : Int) ti) ∧ m (S' "bchar") = some (.str (Tx [y.getD i 0]) tb) ∧ m (S' "distance") = some (.int (DD x y i j) td) ∧ m (S' "result") = some (.int (RR x y i j) tr) ∧ m (S' "minimum") = some (.int mi tm)
section
variable {prog : Program} {w : World} {A : Around} {E : Value → Shared → Prop} {s s₁ s₂ : Shared} {h₀ : Heap} {L D : Addr} {m : Str → Option Value} {news : List (Addr × Obj)} {x y : List Nat} {t1 t2 t3 : Tok} {mx : Int} {env : Env} {body : List Stmt} {px : Pos} {it : Value} {Q : Flow → Shared → Prop}
theorem lev_outer {us : List Value} {c : Nat} {tr : Tok} {n : Nat} {W : Int} (S : SrcF prog w A h₀ L m ((D, listOf (List.toArray us) c) :: news) (fun _ => True) n (fun i v => ∃ t, v = .int (0 + (i : Int)) t) s₁ it s₂) (hn : n = y.length) (hl : x.length = y.length) (hu : IntsAre us (twos x.length)) (hf : W = cS x y x.length ∧ Apart x y) (hW : W ≤ mx)
    (h1 : m (S' "a") = some (.str (Tx x) t1)) (h2 : m (S' "b") = some (.str (Tx y) t2)) (h3 : m (S' "max_cost") = some (.int mx t3)) (h4 : m (S' "row") = some (.ref D)) (h5 : m (S' "result") = some (.int 0 tr))
    (turn : ∀ (i : Nat) t us ns c tr m₁ I oI h tk (E' : Value → Shared → Prop), i < x.length → Apart x y → cS x y (i + 1) ≤ mx → IntsAre us ns → RowOK x y x.length i 0 ns → m₁ (S' "a") = some (.str (Tx x) t1) → m₁ (S' "b") = some (.str (Tx y) t2) → m₁ (S' "max_cost") = some (.int mx t3) → m₁ (S' "row") = some (.ref D) →
      m₁ (S' "result") = some (.int (if i = 0 then 0 else DD x y i x.length) tr) → (∀ p ∈ (D, listOf (List.toArray us) c) :: news, p.1 ≠ I) → Fr h₀ L h m₁ → News h₀ L h ((I, oI) :: (D, listOf (List.toArray us) c) :: news) →
      wpAny (model prog w) A (assign (.Name (S' "bindex") px) env (.int (i : Int) t)) (fun _ s' => wpAny (model prog w) A (execs body env) (ForPost h₀ L I oI { s₂ with heap := h, toks := tk } (OutJ news D x y t1 t2 mx t3 (i + 1)) Q) E' s') E' { s₂ with heap := h, toks := tk })
    (done : ∀ us c tr h tk m', m' (S' "result") = some (.int W tr) → Fr h₀ L h m' → News h₀ L h ((D, listOf (List.toArray us) c) :: news) → Q .next { s₂ with heap := h, toks := tk }) :
    LoopOK prog w A L env (.Name (S' "bindex") px) body Q s₁ it s₂ := by
  subst hn
  refine LoopOK.put (OutJ news D x y t1 t2 mx t3) S ⟨us, _, c, tr, rfl, hu, RowOK.start x y _, h1, h2, h3, h4, h5⟩ (fun _ _ _ _ => trivial) ?_ ?_
  · intro i v m₁ nw I oI h tk E' hi zr0 zr1 off _ F N
    refine e1a1 (zr0) fun t ze0 => ?_
    clear zr0
    subst ze0
    refine e4a8 (zr1) fun us ns c tr ze0 a1 a2 a3 a4 a5 a6 a7 => ?_
    clear zr1
    subst ze0
    rw [Int.zero_add]
    exact turn i t us ns c tr m₁ I oI h tk E' (by (first | lia | omega)) hf.2 (by have := cS_mono x y (show i + 1 ≤ x.length by (first | lia | omega)); (first | lia | omega)) a1 a2 a3 a4 a5 a6 a7 off F N
  · intro h tk m' nw zr0 F N
    obtain ⟨us, ns, c, tr, rfl, a1, a2, a3, a4, a5, a6, a7⟩ := zr0
    rw [← hl] at a7
    refine done us c tr h tk m' ?_ F N
    rw [a7, hf.1]
    by_cases e : x.length = 0
    · rw [if_pos e, e]; rfl
    · rw [if_neg e, dd_diag]
theorem lev_inner {hd : Addr × Obj} {us : List Value} {ns : List Int} {c i : Nat} {ti tb tr td tm : Tok} {n : Nat} (S : SrcF prog w A h₀ L m (hd :: (D, listOf (List.toArray us) c) :: news) (fun _ => True) n (fun i v => ∃ t, v = .int (0 + (i : Int)) t) s₁ it s₂) (hn : n = x.length) (hu : IntsAre us ns) (hr : RowOK x y x.length i 0 ns) (hi : i < x.length) (hle : cS x y (i + 1) ≤ mx)
    (h1 : m (S' "a") = some (.str (Tx x) t1)) (h2 : m (S' "b") = some (.str (Tx y) t2)) (h3 : m (S' "max_cost") = some (.int mx t3)) (h4 : m (S' "row") = some (.ref D)) (h5 : m (S' "bindex") = some (.int (i : Int) ti)) (h6 : m (S' "bchar") = some (.str (Tx [y.getD (i : Int).toNat 0]) tb)) (h7 : m (S' "distance") = some (.int ((i : Int) * 2) td)) (h8 : m (S' "result") = some (.int ((i : Int) * 2) tr)) {mi : Int} (h9 : m (S' "minimum") = some (.int mi tm))
    (turn : ∀ (j : Nat) t us ns c tr td tm mi m₁ I oI h tk (E' : Value → Shared → Prop), j < x.length → IntsAre us ns → RowOK x y x.length i j ns → (i < j → mi ≤ cS x y (i + 1)) → m₁ (S' "a") = some (.str (Tx x) t1) → m₁ (S' "b") = some (.str (Tx y) t2) → m₁ (S' "max_cost") = some (.int mx t3) → m₁ (S' "row") = some (.ref D) →
      m₁ (S' "bindex") = some (.int (i : Int) ti) → m₁ (S' "bchar") = some (.str (Tx [y.getD i 0]) tb) → m₁ (S' "distance") = some (.int (DD x y i j) td) → m₁ (S' "result") = some (.int (RR x y i j) tr) → m₁ (S' "minimum") = some (.int mi tm) →
      (∀ p ∈ hd :: (D, listOf (List.toArray us) c) :: news, p.1 ≠ I) → Fr h₀ L h m₁ → News h₀ L h ((I, oI) :: hd :: (D, listOf (List.toArray us) c) :: news) →
      wpAny (model prog w) A (assign (.Name (S' "index") px) env (.int (j : Int) t)) (fun _ s' => wpAny (model prog w) A (execs body env) (ForPost h₀ L I oI { s₂ with heap := h, toks := tk } (InnJ hd news D x y t1 t2 mx t3 i ti tb (j + 1)) Q) E' s') E' { s₂ with heap := h, toks := tk })
    (done : ∀ us ns c tr td tm mi h tk m', IntsAre us ns → RowOK x y x.length i x.length ns → mi ≤ mx → m' (S' "a") = some (.str (Tx x) t1) → m' (S' "b") = some (.str (Tx y) t2) → m' (S' "max_cost") = some (.int mx t3) → m' (S' "row") = some (.ref D) →
      m' (S' "bindex") = some (.int (i : Int) ti) → m' (S' "bchar") = some (.str (Tx [y.getD i 0]) tb) → m' (S' "distance") = some (.int (DD x y i x.length) td) → m' (S' "result") = some (.int (RR x y i x.length) tr) → m' (S' "minimum") = some (.int mi tm) →
      Fr h₀ L h m' → News h₀ L h (hd :: (D, listOf (List.toArray us) c) :: news) → Q .next { s₂ with heap := h, toks := tk }) :
    LoopOK prog w A L env (.Name (S' "index") px) body Q s₁ it s₂ := by
  subst hn
  rw [Int.toNat_natCast] at h6
  refine LoopOK.put (InnJ hd news D x y t1 t2 mx t3 i ti tb) S ⟨us, ns, c, tr, td, tm, mi, rfl, hu, hr, fun q => absurd q (by (first | lia | omega)), h1, h2, h3, h4, h5, h6, by rw [h7, dd_zero]; congr 2; (first | lia | omega), by rw [h8]; show _ = some (Value.int (2 * (i : Int)) tr); congr 2; (first | lia | omega), h9⟩ (fun _ _ _ _ => trivial) ?_ ?_
  · intro j v m₁ nw I oI h tk E' hi zr0 zr1 off _ F N
    refine e1a1 (zr0) fun t ze0 => ?_
    clear zr0
    subst ze0
    refine e7a13 (zr1) fun us ns c tr td tm mi ze0 a1 a2 a3 a4 a5 a6 a7 a8 a9 a10 a11 a12 => ?_
    clear zr1
    subst ze0
    rw [Int.zero_add]
    exact turn j t us ns c tr td tm mi m₁ I oI h tk E' hi a1 a2 a3 a4 a5 a6 a7 a8 a9 a10 a11 a12 off F N
  · intro h tk m' nw zr0 F N
    obtain ⟨us, ns, c, tr, td, tm, mi, rfl, a1, a2, a3, a4, a5, a6, a7, a8, a9, a10, a11, a12⟩ := zr0
    exact done us ns c tr td tm mi h tk m' a1 a2 (Int.le_trans (a3 hi) hle) a4 a5 a6 a7 a8 a9 a10 a11 a12 F N
theorem OutJ.end_ {I : Addr} {oI : Obj} {us : List Value} {ns : List Int} {c i : Nat} {tr : Tok} {h' : Heap} {tk : Nat} {m' : Str → Option Value} {all : List (Addr × Obj)} {r : Int} (F : Fr h₀ L h' m') (N : News h₀ L h' all) (hs : ∀ p ∈ (I, oI) :: (D, listOf (List.toArray us) c) :: news, p ∈ all) {o' : Obj} (off : ∀ p ∈ (D, o') :: news, p.1 ≠ I)
    (a1 : IntsAre us ns) (a2 : RowOK x y x.length i x.length ns) (a3 : m' (S' "a") = some (.str (Tx x) t1)) (a4 : m' (S' "b") = some (.str (Tx y) t2)) (a5 : m' (S' "max_cost") = some (.int mx t3)) (a6 : m' (S' "row") = some (.ref D)) (a7 : m' (S' "result") = some (.int r tr)) (hi : i < x.length) (hr : r = RR x y i x.length) :
    ForPost h₀ L I oI s₁ (OutJ news D x y t1 t2 mx t3 (i + 1)) Q .next { s₁ with heap := h', toks := tk } :=
  ForEnd.intro _ F N hs (off1 off) ⟨us, ns, c, tr, rfl, a1, a2.turn, a3, a4, a5, a6, by rw [a7, hr, if_neg (by (first | lia | omega))]; unfold RR; rw [if_neg (by (first | lia | omega))]⟩
theorem InnJ.end_ {hd : Addr × Obj} {I : Addr} {oI : Obj} {us : List Value} {ns : List Int} {c i j : Nat} {ti tb tr td tm : Tok} {mi r d v : Int} {h' : Heap} {tk : Nat} {m' : Str → Option Value} {all : List (Addr × Obj)} (F : Fr h₀ L h' m') (N : News h₀ L h' all) (hs : ∀ p ∈ (I, oI) :: hd :: (D, listOf (List.toArray us) c) :: news, p ∈ all) {o' : Obj} (off : ∀ p ∈ hd :: (D, o') :: news, p.1 ≠ I)
    (a1 : IntsAre us (ns.set j v)) (a2 : RowOK x y x.length i j ns) (hj : j < x.length) (a3 : m' (S' "a") = some (.str (Tx x) t1)) (a4 : m' (S' "b") = some (.str (Tx y) t2)) (a5 : m' (S' "max_cost") = some (.int mx t3)) (a6 : m' (S' "row") = some (.ref D))
    (a7 : m' (S' "bindex") = some (.int (i : Int) ti)) (a8 : m' (S' "bchar") = some (.str (Tx [y.getD i 0]) tb)) (a9 : m' (S' "distance") = some (.int d td)) (a10 : m' (S' "result") = some (.int r tr)) (a11 : m' (S' "minimum") = some (.int mi tm)) (hdd : d = DD x y i (j + 1)) (hr : r = DD x y (i + 1) (j + 1)) (hv : v = r) {mi₀ : Int} (h0 : i < j → mi₀ ≤ cS x y (i + 1)) (hm : mi ≤ mi₀ ∧ mi ≤ r) :
    ForPost h₀ L I oI s₁ (InnJ hd news D x y t1 t2 mx t3 i ti tb (j + 1)) Q .next { s₁ with heap := h', toks := tk } := by
  refine ForEnd.intro _ F N hs (off2 off) ⟨us, _, c, tr, td, tm, mi, rfl, a1, a2.set hj (hv.trans hr), fun q => ?_, a3, a4, a5, a6, a7, a8, by rw [a9, hdd], by rw [a10, hr]; unfold RR; rw [if_neg (by (first | lia | omega))], a11⟩
  by_cases e : i < j
  · have := h0 e; (first | lia | omega)
  · obtain rfl : i = j := by (first | lia | omega)
    rw [dd_diag] at hr; (first | lia | omega)
end
end Mine
end
section
namespace Mine
noncomputable def CutEnd (h₀ : Heap) (L : Addr) (news : List (Addr × Obj)) (s : Shared) (J : (Str → Option Value) → Prop) (f : Flow) (s' : Shared) : Prop :=
  f = .next ∧ ∃ h' tk' m', s' = { s with heap := h', toks := tk' } ∧ Fr h₀ L h' m' ∧ News h₀ L h' news ∧ J m'
noncomputable def CutA (x y : List Nat) (q : Nat) (t2 : Tok) (mx : Int) (t3 tq : Tok) (m : Str → Option Value) : Prop :=
  ∃ t, m (S' "a") = some (.str (Tx (x.take (x.length - q))) t) ∧ m (S' "b") = some (.str (Tx y) t2) ∧ m (S' "max_cost") = some (.int mx t3) ∧ m (S' "post") = some (.int (-(q : Int)) tq)
noncomputable def CutB (x y : List Nat) (q : Nat) (t1 : Tok) (mx : Int) (t3 tq : Tok) (m : Str → Option Value) : Prop :=
  ∃ t, m (S' "a") = some (.str (Tx x) t1) ∧ m (S' "b") = some (.str (Tx (y.take (y.length - q))) t) ∧ m (S' "max_cost") = some (.int mx t3) ∧ m (S' "post") = some (.int (-(q : Int)) tq)
theorem take_zero_ok {x z : List Nat} {q : Nat} (h : z = x) (hq : q = 0) : z = x.take (x.length - q) := by subst hq; rw [h, Nat.sub_zero, List.take_length]
theorem take_neg_ok {x z : List Nat} {q : Nat} (h : z = x.take (x.length - (- -(q : Int)).toNat)) : z = x.take (x.length - q) := by rw [h]; congr 1; (first | lia | omega)
section
variable {prog : Program} {w : World} {A : Around} {E : Value → Shared → Prop} {s : Shared} {env : Env} {h₀ : Heap} {L : Addr} {m : Str → Option Value} {news : List (Addr × Obj)} {Q : Flow → Shared → Prop} {x y : List Nat} {t1 t2 t3 tq : Tok} {mx : Int} {q : Nat}
theorem cut_a {st : Stmt} (F : Fr h₀ L s.heap m) (N : News h₀ L s.heap news) (h1 : m (S' "a") = some (.str (Tx x) t1)) (h2 : m (S' "b") = some (.str (Tx y) t2)) (h3 : m (S' "max_cost") = some (.int mx t3)) (h4 : m (S' "post") = some (.int (-(q : Int)) tq)) (hq : q ≤ x.length)
    (h : wpAny (model prog w) A (exec st env) (CutEnd h₀ L news s (CutA x y q t2 mx t3 tq)) E s)
    (k : ∀ z t h' tk' m', z = x.take (x.length - q) → z.length = x.length - q → m' (S' "a") = some (.str (Tx z) t) → m' (S' "b") = some (.str (Tx y) t2) → m' (S' "max_cost") = some (.int mx t3) → m' (S' "post") = some (.int (-(q : Int)) tq) → Fr h₀ L h' m' → News h₀ L h' news → Q .next { s with heap := h', toks := tk' }) :
    wpAny (model prog w) A (exec st env) Q E s := by
  refine wpAny_mono h (fun f s' hq' => ?_) fun _ _ e => e
  obtain ⟨rfl, h', tk', m', rfl, F', N', t, a1, a2, a3, a4⟩ := hq'
  exact k _ t h' tk' m' rfl (by rw [List.length_take]; (first | lia | omega)) a1 a2 a3 a4 F' N'
theorem cut_b {st : Stmt} (F : Fr h₀ L s.heap m) (N : News h₀ L s.heap news) (h1 : m (S' "a") = some (.str (Tx x) t1)) (h2 : m (S' "b") = some (.str (Tx y) t2)) (h3 : m (S' "max_cost") = some (.int mx t3)) (h4 : m (S' "post") = some (.int (-(q : Int)) tq)) (hq : q ≤ y.length)
    (h : wpAny (model prog w) A (exec st env) (CutEnd h₀ L news s (CutB x y q t1 mx t3 tq)) E s)
    (k : ∀ z t h' tk' m', z = y.take (y.length - q) → z.length = y.length - q → m' (S' "a") = some (.str (Tx x) t1) → m' (S' "b") = some (.str (Tx z) t) → m' (S' "max_cost") = some (.int mx t3) → m' (S' "post") = some (.int (-(q : Int)) tq) → Fr h₀ L h' m' → News h₀ L h' news → Q .next { s with heap := h', toks := tk' }) :
    wpAny (model prog w) A (exec st env) Q E s := by
  refine wpAny_mono h (fun f s' hq' => ?_) fun _ _ e => e
  obtain ⟨rfl, h', tk', m', rfl, F', N', t, a1, a2, a3, a4⟩ := hq'
  exact k _ t h' tk' m' rfl (by rw [List.length_take]; omega) a1 a2 a3 a4 F' N'
theorem CutA.end_ {h' : Heap} {tk : Nat} {z : List Nat} {t : Tok} (F : Fr h₀ L h' m) (N : News h₀ L h' news) (h1 : m (S' "a") = some (.str (Tx z) t)) (hz : z = x.take (x.length - q)) (h2 : m (S' "b") = some (.str (Tx y) t2)) (h3 : m (S' "max_cost") = some (.int mx t3)) (h4 : m (S' "post") = some (.int (-(q : Int)) tq)) :
    CutEnd h₀ L news s (CutA x y q t2 mx t3 tq) .next { s with heap := h', toks := tk } := ⟨rfl, h', tk, m, rfl, F, N, t, hz ▸ h1, h2, h3, h4⟩
theorem CutB.end_ {h' : Heap} {tk : Nat} {z : List Nat} {t : Tok} (F : Fr h₀ L h' m) (N : News h₀ L h' news) (h2 : m (S' "b") = some (.str (Tx z) t)) (hz : z = y.take (y.length - q)) (h1 : m (S' "a") = some (.str (Tx x) t1)) (h3 : m (S' "max_cost") = some (.int mx t3)) (h4 : m (S' "post") = some (.int (-(q : Int)) tq)) :
    CutEnd h₀ L news s (CutB x y q t1 mx t3 tq) .next { s with heap := h', toks := tk } := ⟨rfl, h', tk, m, rfl, F, N, t, h1, hz ▸ h2, h3, h4⟩
end
theorem cc_eq0 {x y : List Nat} {k : Nat} (h : y.getD k 0 = x.getD k 0) : cc x y k = 0 := by
  unfold cc scost; rw [h]; simp
theorem cS_pre {u v : List Nat} {p : Nat} (h : u.take p = v.take p) : cS u v p = 0 := by
  have key : ∀ k, k ≤ p → cS u v k = 0 := by
    intro k
    induction k with
    | zero => intro _; rfl
    | succ k ih =>
      intro hk
      show cS u v k + cc u v k = 0
      rw [ih (by (first | lia | omega)), cc_eq0]
      · rfl
      · have := congrArg (fun l => l.getD k 0) h
        simp only [List.getD_eq_getElem?_getD, List.getElem?_take, if_pos (show k < p by (first | lia | omega))] at this
        rw [List.getD_eq_getElem?_getD, List.getD_eq_getElem?_getD, this]
  exact key p (Nat.le_refl _)
theorem getD_drop' (u : List Nat) (p k : Nat) : (u.drop p).getD k 0 = u.getD (p + k) 0 := by
  rw [List.getD_eq_getElem?_getD, List.getD_eq_getElem?_getD, List.getElem?_drop]
theorem cS_drop (u v : List Nat) (p k : Nat) : cS u v (p + k) = cS u v p + cS (u.drop p) (v.drop p) k := by
  induction k with
  | zero => show cS u v p = cS u v p + 0; (first | lia | omega)
  | succ k ih =>
    show cS u v (p + k) + cc u v (p + k) = cS u v p + (cS (u.drop p) (v.drop p) k + cc (u.drop p) (v.drop p) k)
    have : cc (u.drop p) (v.drop p) k = cc u v (p + k) := by unfold cc; rw [getD_drop', getD_drop']
    (first | lia | omega)
theorem getD_take' {u : List Nat} {n k : Nat} (h : k < n) : (u.take n).getD k 0 = u.getD k 0 := by
  rw [List.getD_eq_getElem?_getD, List.getD_eq_getElem?_getD, List.getElem?_take, if_pos h]
theorem cS_take (u v : List Nat) (n : Nat) : ∀ k, k ≤ n → cS (u.take n) (v.take n) k = cS u v k := by
  intro k
  induction k with
  | zero => intro _; rfl
  | succ k ih =>
    intro hk
    show cS (u.take n) (v.take n) k + cc (u.take n) (v.take n) k = cS u v k + cc u v k
    rw [ih (by (first | lia | omega))]
    congr 1
    unfold cc; rw [getD_take' (by (first | lia | omega)), getD_take' (by (first | lia | omega))]
/-- what two words of one length are apart -/
noncomputable def wcost (u v : List Nat) : Int := cS u v u.length
theorem wcost_drop {u v x y : List Nat} {p : Nat} (hp : p ≤ u.length) (h : u.take p = v.take p) (hx : x = u.drop p) (hy : y = v.drop p) : wcost u v = wcost x y := by
  subst hx hy
  unfold wcost
  have := cS_drop u v p (u.length - p)
  rw [cS_pre h, List.length_drop] at *
  rw [show p + (u.length - p) = u.length by (first | lia | omega)] at this
  rw [this]; (first | lia | omega)
theorem wcost_take {u v x y : List Nat} {q : Nat} (hl : u.length = v.length) (hq : q ≤ u.length) (h : u.drop (u.length - q) = v.drop (u.length - q)) (hx : x = u.take (u.length - q)) (hy : y = v.take (v.length - q)) : wcost u v = wcost x y := by
  subst hx hy
  rw [← hl]
  unfold wcost
  have e := cS_drop u v (u.length - q) q
  rw [show u.length - q + q = u.length by (first | lia | omega), h] at e
  have e2 : cS (v.drop (u.length - q)) (v.drop (u.length - q)) q = 0 := cS_pre rfl
  rw [List.length_take, Nat.min_eq_left (by (first | lia | omega)), cS_take _ _ _ _ (Nat.le_refl _), e, e2]; (first | lia | omega)
theorem Apart.drop {u v x y : List Nat} {p : Nat} (h : Apart u v) (hx : x = u.drop p) (hy : y = v.drop p) : Apart x y := by
  subst hx hy
  intro i j hi hj hne
  rw [List.length_drop] at hi hj
  rw [getD_drop', getD_drop']
  exact h _ _ (by (first | lia | omega)) (by (first | lia | omega)) (by (first | lia | omega))
theorem Apart.take {u v x y : List Nat} {n n' : Nat} (h : Apart u v) (hx : x = u.take n) (hy : y = v.take n') (hn : n = n') : Apart x y := by
  subst hx hy hn
  intro i j hi hj hne
  rw [List.length_take] at hi hj
  rw [getD_take' (by (first | lia | omega)), getD_take' (by (first | lia | omega))]
  exact h _ _ (by (first | lia | omega)) (by (first | lia | omega)) hne
theorem wcost_nonneg (u v : List Nat) : 0 ≤ wcost u v := by have := cS_mono u v (Nat.zero_le u.length); exact this
theorem wcost_self (u : List Nat) : wcost u u = 0 := cS_pre rfl
theorem SrcF.same {prog : Program} {w : World} {A : Around} {h₀ : Heap} {L : Addr} {m : Str → Option Value} {news : List (Addr × Obj)} {S : List (Addr × Obj) → Prop} {n : Nat} {P : Nat → Value → Prop} {s₁ s₂ : Shared} {it : Value} (H : SrcF prog w A h₀ L m news S n P s₁ it s₂) : ∃ h, s₂ = { s₁ with heap := h } := by
  obtain ⟨I, fp, St, _, _, _, _, _, _, _, _, _, _, e⟩ := H.ex
  exact e
theorem range0 (k : Nat) : Builtin.Range.rangeSize 0 (k : Int) 1 = ((k : Nat) : Int) := by rw [rangeSize_nat]; (first | lia | omega)
theorem my_cell {prog : Program} {w : World} {A : Around} {E : Value → Shared → Prop} {s : Shared} {h₀ : Heap} {L D : Addr} {news : List (Addr × Obj)} {vs : List Value} {ns : List Int} {c : Nat} {u : Tok} {value slice : PySem.Expr} {Q : Value → Shared → Prop} {x y : List Nat} {n i j : Nat} (N : News h₀ L s.heap news) (hm : (D, listOf vs.toArray c) ∈ news) (hi : IntsAre vs ns) (hr : RowOK x y n i j ns) (h1 : j < n) (hz : n ≤ 1000) (h : ∀ t, Q (.int (DD x y i (j + 1)) t) s)
    (hs : subscripted slice false (.ref D) (.int (j : Int) u) = operate [.ref D, .int (j : Int) u] (getItem (.ref D) (.int (j : Int) u))) :
    wpAny (model prog w) A (subscriptTail value slice (.ref D) (.int (j : Int) u)) Q E s := by
  refine ksa_sub N hm hi (by (first | lia | omega)) (by rw [hr.1]; (first | lia | omega)) (by (first | lia | omega)) (fun t => ?_) hs
  rw [Int.toNat_natCast, hr.get h1]
  exact h t
theorem for_ruleL {prog : Program} {w : World} {A : Around} {E : Value → Shared → Prop} {s : Shared} {h₀ : Heap} {L : Addr} {m : Str → Option Value} {target iter : Expr} {body : List Stmt} {env : Env} {pos : Pos} {Q : Flow → Shared → Prop} (hF : Fr h₀ L s.heap m) (hs : ∀ x, foldedSetIterable iter env x = pure x)
    (h : wpAny (model prog w) A (eval iter env) (fun xv s₁ => wpAny (model prog w) A (pyIter xv) (LoopOK prog w A L env target body Q s₁) E s₁) E s) :
    wpAny (model prog w) A (exec (.For target iter body [] pos) env) Q E s := have _ := hF; for_rule hs h
theorem my_store {prog : Program} {w : World} {A : Around} {E : Value → Shared → Prop} {s : Shared} {h₀ : Heap} {L D : Addr} {m : Str → Option Value} {news news' : List (Addr × Obj)} {vs : List Value} {ns : List Int} {c : Nat} {u t : Tok} {Q : Unit → Shared → Prop} {x y : List Nat} {n i j : Nat} {v : Int} (F : Fr h₀ L s.heap m) (N : News h₀ L s.heap news) (U : Upd D (listOf vs.toArray c) (listOf (vs.set j (.int v t)).toArray c) news news') (hi : IntsAre vs ns) (hr : RowOK x y n i j ns) (h1 : j < n) (hz : n ≤ 1000)
    (h : ∀ h', Fr h₀ L h' m → News h₀ L h' news' → IntsAre (vs.set j (.int v t)) (ns.set j v) → Q () { s with heap := h' }) : wpAny (model prog w) A (setItem (.ref D) (.int (j : Int) u) (.int v t)) Q E s := by
  refine ksa_set F N (by rw [Int.toNat_natCast]; exact U) hi (by omega) (by rw [hr.1]; omega) (by omega) (fun h' F' N' hi' _ _ => ?_)
  rw [Int.toNat_natCast] at hi'
  exact h h' F' N' hi'
theorem lev_facts {u v x y z z' : List Nat} {p q : Nat} (hl : u.length = v.length) (hp : p ≤ u.length) (ht : u.take p = v.take p) (ex : x = u.drop (p : Int).toNat) (ey : y = v.drop (p : Int).toNat) (hq : q ≤ x.length) (hd : x.drop (x.length - q) = y.drop (x.length - q)) (ez : z = x.take (x.length - q)) (ez' : z' = y.take (y.length - q)) (hap : Apart u v) : wcost u v = cS z z' z.length ∧ Apart z z' := by
  rw [Int.toNat_natCast] at ex ey
  have hxy : x.length = y.length := by rw [ex, ey, List.length_drop, List.length_drop, hl]
  refine ⟨(wcost_drop hp ht ex ey).trans (wcost_take hxy hq hd ez ez'), (hap.drop ex ey).take ez ez' (by rw [hxy])⟩
theorem wcost_eq0 {u v : List Nat} (h : (Tx u == Tx v) = true) : 0 = wcost u v := by
  rw [Tx_inj] at h; rw [of_decide_eq_true h, wcost_self]
theorem wcost_none {u v z z' : List Nat} (h : wcost u v = cS z z' z.length ∧ Apart z z') (h0 : z.length = 0) (h1 : z'.length = 0) : 2 * ((z.length : Int) + (z'.length : Int)) = wcost u v := by
  rw [h.1, h0, h1]; rfl
theorem upd2 {I D J : Addr} {oI oJ o o' o1 : Obj} {news : List (Addr × Obj)} (h1 : ∀ p ∈ (J, oJ) :: (D, o) :: news, p.1 ≠ I) (h2 : ∀ p ∈ (D, o1) :: news, p.1 ≠ J) (h3 : ∀ p ∈ news, p.1 < D) :
    Upd D o o' ((I, oI) :: (J, oJ) :: (D, o) :: news) ((I, oI) :: (J, oJ) :: (D, o') :: news) :=
  .tail (fun e => h1 (D, o) (.tail _ (.head _)) e.symm) (.tail (fun e => h2 (D, o1) (.head _) e.symm) (.head fun p hp => Nat.ne_of_lt (h3 p hp)))
end Mine
end
section
namespace Mine
/-- the walk rests here -/
noncomputable def Stop (p : Prop) : Prop := p
theorem stop_intro {p : Prop} (h : Stop p) : p := h
theorem stop_elim {p : Prop} (h : p) : Stop p := h
section
variable {prog : Program} {w : World} {A : Around} {E : Value → Shared → Prop} {s s₁ s₂ : Shared} {h₀ : Heap} {L : Addr} {news : List (Addr × Obj)} {m : Str → Option Value} {env : Env} {body : List Stmt} {px : Pos} {it : Value} {Q : Flow → Shared → Prop}
/-- a loop over a range whose turns leave the ledger as it is -/
noncomputable def RJ (news : List (Addr × Obj)) (J : (Str → Option Value) → Prop) (m : Str → Option Value) (nw : List (Addr × Obj)) : Prop := nw = news ∧ J m
theorem range_loop {n : Nat} {x : Str} (J : Nat → (Str → Option Value) → Prop) (S : SrcF prog w A h₀ L m news (fun _ => True) n (fun i v => ∃ t, v = .int (0 + (i : Int)) t) s₁ it s₂) (j0 : J 0 m)
    (turn : ∀ (i : Nat) t m₁ I oI h tk (E' : Value → Shared → Prop), i < n → J i m₁ → (∀ p ∈ news, p.1 < I) → Fr h₀ L h m₁ → News h₀ L h ((I, oI) :: news) →
      wpAny (model prog w) A (assign (.Name x px) env (.int (i : Int) t)) (fun _ s' => wpAny (model prog w) A (execs body env) (ForPost h₀ L I oI { s₂ with heap := h, toks := tk } (RJ news (J (i + 1))) Q) E' s') E' { s₂ with heap := h, toks := tk })
    (done : ∀ h tk m', J n m' → Fr h₀ L h m' → News h₀ L h news → Q .next { s₂ with heap := h, toks := tk }) :
    LoopOK prog w A L env (.Name x px) body Q s₁ it s₂ := by
  refine LoopOK.put (fun i => RJ news (J i)) S ⟨rfl, j0⟩ (fun _ _ _ _ => trivial) ?_ ?_
  · rintro i v m₁ nw I oI h tk E' hi ⟨t, rfl⟩ ⟨rfl, hJ⟩ off hlt F N
    rw [Int.zero_add]
    exact turn i t m₁ I oI h tk E' hi hJ hlt F N
  · rintro h tk m' nw ⟨rfl, hJ⟩ F N
    exact done h tk m' hJ F N
theorem RJ.end_ {I : Addr} {oI : Obj} {h' : Heap} {tk : Nat} {m' : Str → Option Value} {all : List (Addr × Obj)} {J : (Str → Option Value) → Prop} (F : Fr h₀ L h' m') (N : News h₀ L h' all)
    (hI : (I, oI) ∈ all) (hR : ∀ p ∈ news, p ∈ all) (hlt : ∀ p ∈ news, p.1 < I) (j : J m') :
    ForPost h₀ L I oI s₁ (RJ news J) Q .next { s₁ with heap := h', toks := tk } :=
  ForEnd.intro _ F N (List.forall_mem_cons.mpr ⟨hI, hR⟩) (fun p hp => Nat.ne_of_lt (hlt p hp)) ⟨rfl, j⟩
end
end Mine
end
section
namespace Mine
theorem srcAt_same {prog : Program} {w : World} {A : Around} {h₀ : Heap} {L : Addr} {m : Str → Option Value} {news : List (Addr × Obj)} {n : Nat} {P : Nat → Value → Prop} {s₁ s₂ : Shared} {it : Value} (H : SrcAt prog w A h₀ L m news n P s₁ it s₂) : ∃ h, s₂ = { s₁ with heap := h } := by
  obtain ⟨I, fp, St, _, _, _, _, _, _, _, _, _, _, _, e⟩ := H.ex
  exact e
noncomputable def IsWord (v : Value) (x : Int) : Prop := ∃ t, v = .str (Tx (word2 x)) t
theorem size5 {n : Nat} (h : n ≤ 5) : n ≤ sizeLine := by rw [sizeLine_eq]; (first | lia | omega)
theorem arr_at {vs : List Value} {i : Nat} {v : Value} (h : (vs.toArray)[i]? = some v) : vs[i]? = some v := by simpa using h
theorem take_snoc {α : Type} {xs : List α} {i : Nat} {x : α} (h : xs[i]? = some x) : xs.take (i + 1) = xs.take i ++ [x] := by rw [List.take_add_one, h]; rfl
theorem range_k (k : Nat) : Builtin.Range.rangeSize 0 (k : Int) 1 = ((k : Nat) : Int) := range0 k
theorem small_k {k : Nat} (h : k ≤ 1000) : Builtin.Range.small 0 (k : Int) 1 = true := small_one (by (first | lia | omega)) (by (first | lia | omega)) (by (first | lia | omega)) (by (first | lia | omega))
end Mine
end
section
namespace Mine
section
variable {prog : Program} {w : World} {A : Around} {E : Value → Shared → Prop} {s : Shared} {h₀ : Heap} {L : Addr} {m : Str → Option Value} {news : List (Addr × Obj)}

/-- a comprehension's loop at any depth, by what its turn does -/
theorem my_compLoopG {R : Result → Shared → Prop} {elt target iter : Expr} {gens : List Comprehension} {ifs : List Expr} {scope : Scope} {pos : Pos} {d : Nat} {it acc : Value} {env : Env} {body : Sem Unit}
    (hct : compTurn (.ListComp elt gens scope pos) d it acc env = (do
      standAt iter.pos
      match ← pyNext it with
      | none => pure (.done .next)
      | some v =>
        letOwnedTupleGo target it v
        assign target env v
        let mut ok := true
        for c in ifs do
          if ok then ok ← isTrue c env (eval c env)
        if ok then
          body
        again (.compLoop (.ListComp elt gens scope pos) d it acc env)))
    (I : Nat → Shared → Prop)
    (turn : ∀ n s, I n s → wpAny (model prog w) A (pyNext it) (fun r s₁ => match r with
      | none => R (.ok .next) s₁
      | some v => wpAny (model prog w) A (letOwnedTupleGo target it v) (fun _ s₀ => wpAny (model prog w) A (assign target env v) (fun _ s₂ =>
          wpAny (model prog w) A (testsOf ifs env) (fun ok s₃ =>
            if ok = true then wpAny (model prog w) A body (fun _ s₅ => ∃ m, m < n ∧ I m s₅) (notedBy (model prog w) A env fun e s' => R (.error e) s') s₃
            else ∃ m, m < n ∧ I m s₃) (notedBy (model prog w) A env fun e s' => R (.error e) s') s₂) (notedBy (model prog w) A env fun e s' => R (.error e) s') s₀) (notedBy (model prog w) A env fun e s' => R (.error e) s') s₁) (notedBy (model prog w) A env fun e s' => R (.error e) s') s)
    (n : Nat) (h : I n s) :
    codeAny (model prog w) A (.compLoop (.ListComp elt gens scope pos) d it acc env) R s := by
  refine codeAny_loop rfl I (fun n s hI => ?_) n h
  show wpAny _ A ((compTurn (.ListComp elt gens scope pos) d it acc env).onRaise (fun x => do noteFrame x env; theTreesLotGoes x)) _ _ s
  refine wpAny_noted ?_
  rw [hct]
  refine wpAny_bind (wpAny_standAt (wpAny_bind (wpAny_mono (turn n s hI) (fun r s₁ h₁ => ?_) fun _ _ h' => h')))
  cases r with
  | none => exact wpAny_pure h₁
  | some v =>
    refine wpAny_bind (wpAny_mono h₁ (fun _ s₀ h₀' => ?_) fun _ _ h' => h')
    refine wpAny_bind (wpAny_mono h₀' (fun _ s₂ h₂ => wpAny_bind (wpAny_mono h₂ (fun ok s₃ h₃ => ?_) fun _ _ h' => h')) fun _ _ h' => h')
    cases ok with
    | false => exact wpAny_pure ⟨rfl, h₃⟩
    | true => exact wpAny_bind (wpAny_mono h₃ (fun x s₄ h₄ => wpAny_pure ⟨rfl, h₄⟩) fun _ _ h' => h')

/-- a comprehension's own names: where they lie, how a store into its target goes -/
structure OwnAt (prog : Program) (w : World) (A : Around) (h₀ : Heap) (L : Addr) (news : List (Addr × Obj)) (env : Env) (target : Expr) (P : Nat → Value → Prop) (cs : List Addr) (Own : Heap → Prop) (OwnB : Nat → Value → List (Addr × Obj) → Prop) : Prop where
  frame : ∀ h h', Own h → (∀ b ∈ cs, ∀ o, h.get? b = some o → h'.get? b = some o) → Own h'
  back : ∀ i v ow h, OwnB i v ow → (∀ p ∈ ow, h.get? p.1 = some p.2) → Own h
  inn : ∀ i v ow, OwnB i v ow → ∀ p ∈ ow, p.1 ∈ cs
  asg : ∀ i v (s' : Shared) (Q : Unit → Shared → Prop) (E' : Value → Shared → Prop), P i v → Own s'.heap → News h₀ L s'.heap news →
    (∀ h' tk ow, OwnB i v ow → (∀ p ∈ ow, h'.get? p.1 = some p.2) → (∀ c o, c ∉ cs → s'.heap.get? c = some o → h'.get? c = some o) → Q () { s' with heap := h', toks := tk }) → wpAny (model prog w) A (assign target env v) Q E' s'

noncomputable def Off (Y : List (Addr × Obj)) (I D : Addr) (cs : List Addr) : Prop := ∀ p ∈ Y, p.1 ≠ I ∧ p.1 ≠ D ∧ p.1 ∉ cs
/-- behind a turn of a comprehension that may make objects -/
noncomputable def TurnG (h₀ : Heap) (L : Addr) (m : Str → Option Value) (s₁ : Shared) (I D : Addr) (oI : Obj) (cs : List Addr) (Own : Heap → Prop) (news : List (Addr × Obj)) (J : List Value → List (Addr × Obj) → Prop) (s₂ : Shared) : Prop :=
  ∃ h' tk ys Y, s₂ = { s₁ with heap := h', toks := tk } ∧ Fr h₀ L h' m ∧ h'.get? I = some oI ∧ Own h' ∧ News h₀ L h' ((D, LCg.lst ys) :: Y) ∧ (∀ p ∈ news, p ∈ Y) ∧ Off Y I D cs ∧ J ys Y

theorem comp_go {R : Result → Shared → Prop} {elt target iter : Expr} {gens : List Comprehension} {ifs : List Expr} {scope : Scope} {pos : Pos} {d n : Nat} {I D : Addr} {env : Env} {body : Sem Unit} {fp cs : List Addr} {P : Nat → Value → Prop} {St : Nat → Heap → Prop} {Own : Heap → Prop} {OwnB : Nat → Value → List (Addr × Obj) → Prop} {J : Nat → List Value → List (Addr × Obj) → Prop} {ys₀ : List Value} {Y₀ : List (Addr × Obj)}
    (hct : compTurn (.ListComp elt gens scope pos) d (.ref I) (.ref D) env = (do
      standAt iter.pos
      match ← pyNext (.ref I) with
      | none => pure (.done .next)
      | some v =>
        letOwnedTupleGo target (.ref I) v
        assign target env v
        let mut ok := true
        for c in ifs do
          if ok then ok ← isTrue c env (eval c env)
        if ok then
          body
        again (.compLoop (.ListComp elt gens scope pos) d (.ref I) (.ref D) env)))
    (W : Walks prog w A I fp [I] n P St) (hIo : ∀ i h, St i h → ∃ o n, h.get? I = some o ∧ o.cls = .type n ∧ goNames.contains n = false)
    (hSt : ∀ i h h' o, St i h → h.get? I = some o → h'.get? I = some o → (∀ b o, h₀.get? b = some o → h'.get? b = some o) → News h₀ L h' news → St i h')
    (O : OwnAt prog w A h₀ L news env target P cs Own OwnB)
    (hIL : L ≠ I) (hI₀ : h₀.get? I = none) (hDL : D ≠ L) (hD₀ : h₀.get? D = none) (hDI : D ≠ I) (hDf : D ∉ fp) (hcL : ∀ c ∈ cs, c ≠ L ∧ h₀.get? c = none ∧ c ≠ D ∧ c ∉ fp ∧ c ≠ I)
    (hst : St 0 s.heap) (F : Fr h₀ L s.heap m) (N : News h₀ L s.heap ((D, LCg.lst ys₀) :: Y₀)) (hO : Own s.heap) (hsub : ∀ p ∈ news, p ∈ Y₀) (hoff : Off Y₀ I D cs) (j0 : J 0 ys₀ Y₀)
    (turn : ∀ i v ys Y oI ow h tk (E' : Value → Shared → Prop), i < n → P i v → J i ys Y → (∀ p ∈ news, p ∈ Y) → Off Y I D cs → OwnB i v ow → (∀ p ∈ ow, p.1 ∈ cs) → Fr h₀ L h m → News h₀ L h ((I, oI) :: (ow ++ (D, LCg.lst ys) :: Y)) →
      wpAny (model prog w) A (testsOf ifs env) (fun ok s' => if ok = true then wpAny (model prog w) A body (fun _ => TurnG h₀ L m { s with heap := h, toks := tk } I D oI cs Own news (J (i + 1))) E' s'
        else TurnG h₀ L m { s with heap := h, toks := tk } I D oI cs Own news (J (i + 1)) s') E' { s with heap := h, toks := tk })
    (hR : ∀ h tk ys Y, Fr h₀ L h m → Own h → News h₀ L h ((D, LCg.lst ys) :: Y) → (∀ p ∈ news, p ∈ Y) → Off Y I D cs → J n ys Y → R (.ok .next) { s with heap := h, toks := tk }) :
    codeAny (model prog w) A (.compLoop (.ListComp elt gens scope pos) d (.ref I) (.ref D) env) R s := by
  refine my_compLoopG hct
    (fun k s' => ∃ h' tk i ys Y, s' = { s with heap := h', toks := tk } ∧ i ≤ n ∧ k = n + 1 - i ∧ J i ys Y ∧ St i h' ∧ Fr h₀ L h' m ∧ Own h' ∧ News h₀ L h' ((D, LCg.lst ys) :: Y) ∧ (∀ p ∈ news, p ∈ Y) ∧ Off Y I D cs) ?_ (n + 1)
    ⟨s.heap, _, 0, ys₀, Y₀, rfl, Nat.zero_le _, rfl, j0, hst, F, hO, N, hsub, hoff⟩
  intro k s' zr0
  refine e5a10 (zr0) fun h' tk i ys Y ze0 hi ze1 hJ hst' F' hO' N' hsub' hoff' => ?_
  clear zr0
  subst ze0
  subst ze1
  have hIc : ∀ c ∈ cs, c ≠ I := fun c hc => (hcL c hc).2.2.2.2
  by_cases hin : i < n
  · refine W.item i _ _ _ hin hst' fun v h₂ tk₂ hP hst₂ hk₂ => ?_
    have hk₂' : ∀ b o, b ≠ I → h'.get? b = some o → h₂.get? b = some o := fun b o hb e => hk₂ b o (by simpa using hb) e
    have F₂ : Fr h₀ L h₂ m := ⟨F'.ns.at' fun o e => hk₂' L o hIL e, fun b o e => hk₂' b o (fun q => by rw [q, hI₀] at e; cases e) (F'.keep b o e), F'.above⟩
    have N₂ : News h₀ L h₂ ((D, LCg.lst ys) :: Y) := fun p hp => by
      refine ⟨hk₂' _ _ ?_ (N' p hp).1, (N' p hp).2⟩
      rcases List.mem_cons.mp hp with rfl | hp
      · exact hDI
      · exact (hoff' p hp).1
    have hO₂ : Own h₂ := O.frame _ _ hO' fun b hb o e => hk₂' b o (hIc b hb) e
    refine e2a3 (hIo _ _ hst₂) fun oJ nJ heJ hcJ hnJ => ?_
    refine letGo_plain heJ hcJ hnJ ?_
    refine O.asg i v { s with heap := h₂, toks := tk₂ } _ _ hP hO₂ (fun p hp => N₂ p (List.mem_cons_of_mem _ (hsub' p hp))) fun h₃ tk₃ ow hB how hk₃ => ?_
    have hcs : ∀ b, (b = L ∨ b = D ∨ b = I ∨ b ∈ fp ∨ h₀.get? b ≠ none ∨ ∃ p ∈ Y, p.1 = b) → b ∉ cs := fun b hb hc => by
      have h1 := hcL b hc
      rcases hb with e | e | e | e | e | ⟨p, hp, e⟩
      · exact h1.1 e
      · exact h1.2.2.1 e
      · exact h1.2.2.2.2 e
      · exact h1.2.2.2.1 e
      · exact e h1.2.1
      · exact (hoff' p hp).2.2 (e ▸ hc)
    have hst₃ : St (i + 1) h₃ := W.frame _ _ _ hst₂ fun b hb o e => hk₃ b o (hcs b (.inr (.inr (.inr (.inl hb))))) e
    have F₃ : Fr h₀ L h₃ m := ⟨F₂.ns.at' fun o e => hk₃ L o (hcs L (.inl rfl)) e, fun b o e => hk₃ b o (hcs b (.inr (.inr (.inr (.inr (.inl (by rw [e]; simp))))))) (F₂.keep b o e), F₂.above⟩
    refine e2a3 (hIo _ _ hst₃) fun oI _ heI _ _ => ?_
    have N₃ : News h₀ L h₃ ((I, oI) :: (ow ++ (D, LCg.lst ys) :: Y)) := fun p hp => by
      rcases List.mem_cons.mp hp with rfl | hp
      · exact ⟨heI, Ne.symm hIL, hI₀⟩
      · rcases List.mem_append.mp hp with hp | hp
        · exact ⟨how p hp, (hcL _ (O.inn _ _ _ hB p hp)).1, (hcL _ (O.inn _ _ _ hB p hp)).2.1⟩
        · refine ⟨hk₃ _ _ (hcs p.1 ?_) (N₂ p hp).1, (N₂ p hp).2⟩
          rcases List.mem_cons.mp hp with rfl | hp
          · exact .inr (.inl rfl)
          · exact .inr (.inr (.inr (.inr (.inr ⟨p, hp, rfl⟩))))
    have fin : ∀ s₄, TurnG h₀ L m { s with heap := h₃, toks := tk₃ } I D oI cs Own news (J (i + 1)) s₄ → ∃ m', m' < n + 1 - i ∧ ∃ h' tk j ys Y, s₄ = { s with heap := h', toks := tk } ∧ j ≤ n ∧ m' = n + 1 - j ∧ J j ys Y ∧ St j h' ∧ Fr h₀ L h' m ∧ Own h' ∧ News h₀ L h' ((D, LCg.lst ys) :: Y) ∧ (∀ p ∈ news, p ∈ Y) ∧ Off Y I D cs := by
      intro s₄ zr0
      refine e4a8 (zr0) fun h₄ tk₄ ys' Y' ze0 F₄ hI₄ hO₄ N₄ hsub₄ hoff₄ hJ₄ => ?_
      clear zr0
      subst ze0
      exact ⟨n + 1 - (i + 1), by omega, h₄, tk₄, i + 1, ys', Y', rfl, hin, rfl, hJ₄, hSt _ _ _ _ hst₃ heI hI₄ F₄.keep (fun p hp => N₄ p (List.mem_cons_of_mem _ (hsub₄ p hp))), F₄, hO₄, N₄, hsub₄, hoff₄⟩
    refine wpAny_mono (turn i v ys Y oI ow h₃ tk₃ _ hin hP hJ hsub' hoff' hB (O.inn _ _ _ hB) F₃ N₃) (fun ok s₄ h₄ => ?_) fun _ _ e => e
    cases ok with
    | false =>
      simp only [Bool.false_eq_true, if_false] at h₄ ⊢
      exact fin _ h₄
    | true =>
      simp only [if_true] at h₄ ⊢
      exact wpAny_mono h₄ (fun _ s₅ h₅ => fin _ h₅) fun _ _ e => e
  · obtain rfl : i = n := Nat.le_antisymm hi (Nat.not_lt.mp hin)
    refine W.done _ _ _ hst' fun h₂ tk₂ hk₂ => ?_
    have hk₂' : ∀ b o, b ≠ I → h'.get? b = some o → h₂.get? b = some o := fun b o hb e => hk₂ b o (by simpa using hb) e
    refine hR h₂ tk₂ ys Y ⟨F'.ns.at' fun o e => hk₂' L o hIL e, fun b o e => hk₂' b o (fun q => by rw [q, hI₀] at e; cases e) (F'.keep b o e), F'.above⟩ (O.frame _ _ hO' fun b hb o e => hk₂' b o (hIc b hb) e) (fun p hp => ?_) hsub' hoff' hJ
    refine ⟨hk₂' _ _ ?_ (N' p hp).1, (N' p hp).2⟩
    rcases List.mem_cons.mp hp with rfl | hp
    · exact hDI
    · exact (hoff' p hp).1

/-- what stands behind an element's reckoning -/
noncomputable def TurnE (h₀ : Heap) (L : Addr) (m : Str → Option Value) (s₁ : Shared) (I D : Addr) (oI : Obj) (cs : List Addr) (ow : List (Addr × Obj)) (news : List (Addr × Obj)) (ys : List Value) (J : List Value → List (Addr × Obj) → Prop) (y : Value) (s₂ : Shared) : Prop :=
  ∃ h' tk Y, s₂ = { s₁ with heap := h', toks := tk } ∧ Fr h₀ L h' m ∧ News h₀ L h' ((I, oI) :: (ow ++ (D, LCg.lst ys) :: Y)) ∧ (∀ p ∈ news, p ∈ Y) ∧ Off Y I D cs ∧ J (ys ++ [y]) Y
theorem TurnE.intro {s₁ : Shared} {I D : Addr} {oI : Obj} {cs : List Addr} {ow all news : List (Addr × Obj)} {ys : List Value} {J : List Value → List (Addr × Obj) → Prop} {y : Value} {h' : Heap} {tk : Nat} (Y : List (Addr × Obj)) (F : Fr h₀ L h' m) (N : News h₀ L h' all)
    (hs : ∀ p ∈ (I, oI) :: (ow ++ (D, LCg.lst ys) :: Y), p ∈ all) (hsub : ∀ p ∈ news, p ∈ Y) (hoff : Off Y I D cs) (j : J (ys ++ [y]) Y) : TurnE h₀ L m s₁ I D oI cs ow news ys J y { s₁ with heap := h', toks := tk } :=
  ⟨h', tk, Y, rfl, F, fun p hp => N p (hs p hp), hsub, hoff, j⟩
theorem emit_go {s₁ : Shared} {elt : Expr} {env : Env} {target : Expr} {P : Nat → Value → Prop} {I D : Addr} {oI : Obj} {cs : List Addr} {ow : List (Addr × Obj)} {ys : List Value} {Own : Heap → Prop} {OwnB : Nat → Value → List (Addr × Obj) → Prop} {J : List Value → List (Addr × Obj) → Prop} {i : Nat} {v : Value}
    (O : OwnAt prog w A h₀ L news env target P cs Own OwnB) (hB : OwnB i v ow) (hDI : D ≠ I) (hDc : D ∉ cs) (hsz : ys.length ≤ sizeLine)
    (h : wpAny (model prog w) A (eval elt env) (TurnE h₀ L m s₁ I D oI cs ow news ys J) E s) :
    wpAny (model prog w) A (do let _ ← call (.builtin "list.append") [.ref D, ← eval elt env]) (fun _ => TurnG h₀ L m s₁ I D oI cs Own news J) E s := by
  refine wpAny_bind (wpAny_mono h (fun y s₄ zq₄ => ?_) fun _ _ e => e)
  refine e3a6 (zq₄) fun h₄ tk₄ Y ze0 F₄ N₄ hsub hoff hJ => ?_
  clear zq₄
  subst ze0
  have nD := N₄ (D, LCg.lst ys) (.tail _ (List.mem_append_right _ (.head _)))
  refine wpAny_bind (append_at (hsz := by show ys.toArray.size ≤ sizeLine; rw [List.size_toArray]; exact hsz) nD.1 fun h₆ hs₆ hD₆ => wpAny_pure ?_)
  have old : ∀ b o, b ≠ D → h₄.get? b = some o → h₆.get? b = some o := fun b o hb e => hs₆.extBut b o hb e
  refine ⟨h₆, tk₄, ys ++ [y], Y, rfl, F₄.change hs₆ nD.2.1 nD.2.2, old _ _ (Ne.symm hDI) (N₄ _ (.head _)).1, O.back _ _ _ _ hB fun p hp => old _ _ (fun e => hDc (e ▸ O.inn _ _ _ hB p hp)) (N₄ p (.tail _ (List.mem_append_left _ hp))).1, fun p hp => ?_, hsub, hoff, hJ⟩
  rcases List.mem_cons.mp hp with rfl | hp
  · exact ⟨hD₆.trans (congrArg some (LCg.lst_snoc ys y)), nD.2⟩
  · have q := N₄ p (.tail _ (List.mem_append_right _ (.tail _ hp)))
    exact ⟨old _ _ (hoff p hp).2.1 q.1, q.2⟩
end
end Mine
end
section
namespace Mine
section
variable {prog : Program} {w : World} {A : Around} {E : Value → Shared → Prop} {s : Shared} {h₀ : Heap} {L : Addr} {m : Str → Option Value} {news : List (Addr × Obj)}

/-- the list laid, the names laid: the loop from its start -/
theorem comp_core {R : Result → Shared → Prop} {elt target iter : Expr} {rest : List Comprehension} {ifs : List Expr} {scope : Scope} {pos : Pos} {n : Nat} {env : Env} {body : Value → Sem Unit} {s₁ s₂ : Shared} {it : Value} {P : Nat → Value → Prop} {J : Nat → List Value → List (Addr × Obj) → Prop} {cs : List Addr} {Own : Heap → Prop} {OwnB : Nat → Value → List (Addr × Obj) → Prop} {h₁ : Heap} {tk₁ : Nat}
    (hct : ∀ it D : Value, compTurn (.ListComp elt (⟨target, iter, ifs, 0⟩ :: rest) scope pos) 0 it D env = (do
      standAt iter.pos
      match ← pyNext it with
      | none => pure (.done .next)
      | some v =>
        letOwnedTupleGo target it v
        assign target env v
        let mut ok := true
        for c in ifs do
          if ok then ok ← isTrue c env (eval c env)
        if ok then
          body D
        again (.compLoop (.ListComp elt (⟨target, iter, ifs, 0⟩ :: rest) scope pos) 0 it D env)))
    (S : SrcAt prog w A h₀ L m news n P s₁ it s₂) (O : OwnAt prog w A h₀ L news env target P cs Own OwnB)
    (old : ∀ b o, s₂.heap.get? b = some o → h₁.get? b = some o) (hD : h₁.get? s₂.heap.objs.size = some (LCg.lst [])) (hO : Own h₁) (hcs : ∀ c ∈ cs, s₂.heap.objs.size < c)
    (j0 : J 0 [] news)
    (turn : ∀ i v ys Y I D oI ow h tk (E' : Value → Shared → Prop), i < n → P i v → J i ys Y → (∀ p ∈ news, p ∈ Y) → Off Y I D cs → OwnB i v ow → (∀ p ∈ ow, p.1 ∈ cs) → D ≠ I → D ∉ cs → I ∉ cs → Fr h₀ L h m → News h₀ L h ((I, oI) :: (ow ++ (D, LCg.lst ys) :: Y)) →
      wpAny (model prog w) A (testsOf ifs env) (fun ok s' => if ok = true then wpAny (model prog w) A (body (.ref D)) (fun _ => TurnG h₀ L m { s₂ with heap := h, toks := tk } I D oI cs Own news (J (i + 1))) E' s'
        else TurnG h₀ L m { s₂ with heap := h, toks := tk } I D oI cs Own news (J (i + 1)) s') E' { s₂ with heap := h, toks := tk })
    (hR : ∀ D h tk ys Y, D = s₂.heap.objs.size → Fr h₀ L h m → Own h → News h₀ L h ((D, LCg.lst ys) :: Y) → (∀ p ∈ news, p ∈ Y) → (∀ p ∈ Y, p.1 ≠ D ∧ p.1 ∉ cs) → (∀ p ∈ news, p.1 < D) → (∀ c ∈ cs, c ≠ L ∧ h₀.get? c = none ∧ c ≠ D) → J n ys Y → R (.ok .next) { s₂ with heap := h, toks := tk }) :
    codeAny (model prog w) A (.compStart (.ListComp elt (⟨target, iter, ifs, 0⟩ :: rest) scope pos) 0 it (.ref s₂.heap.objs.size) env) R { s₂ with heap := h₁, toks := tk₁ } := by
  refine e3a12 (S.ex) fun I fp St ze0 W hIo hSt hst hfp hIL hI₀ off F N zt1 => ?_
  subst ze0
  refine e1a1 (zt1) fun g ze2 => ?_
  clear zt1
  subst ze2
  dsimp only at *
  have none₀ : ∀ a, g.objs.size ≤ a → h₀.get? a = none := fun a ha => by
    cases e : h₀.get? a with
    | none => rfl
    | some o => exact absurd (Heap.lt_size (F.keep a o e)) (Nat.not_lt.mpr ha)
  have hLlt : L < g.objs.size := F.ns.lt
  have hIlt : I < g.objs.size := hfp I (W.sub I (List.mem_singleton.mpr rfl))
  have nlt : ∀ p ∈ news, p.1 < g.objs.size := fun p hp => Heap.lt_size (N p hp).1
  have hcL : ∀ c ∈ cs, c ≠ L ∧ h₀.get? c = none ∧ c ≠ g.objs.size ∧ c ∉ fp ∧ c ≠ I := fun c hc => by
    have h1 := hcs c hc
    exact ⟨Nat.ne_of_gt (Nat.lt_trans hLlt h1), none₀ c (Nat.le_of_lt h1), Nat.ne_of_gt h1, fun hm => Nat.lt_asymm h1 (hfp c hm), Nat.ne_of_gt (Nat.lt_trans hIlt h1)⟩
  have hDc : g.objs.size ∉ cs := fun hc => Nat.lt_irrefl _ (hcs _ hc)
  have hDI : g.objs.size ≠ I := Nat.ne_of_gt hIlt
  have hst₁ : St 0 h₁ := W.frame _ _ _ hst fun b _ o e => old b o e
  have loop : codeAny (model prog w) A (.compLoop (.ListComp elt (⟨target, iter, ifs, 0⟩ :: rest) scope pos) 0 (.ref I) (.ref g.objs.size) env) R { s₁ with heap := h₁, toks := tk₁ } := by
    refine comp_go (J := J) (cs := cs) (s := { s₁ with heap := h₁, toks := tk₁ }) (ys₀ := []) (Y₀ := news) (hct _ _) W hIo hSt O hIL hI₀ (Nat.ne_of_gt hLlt) (none₀ _ (Nat.le_refl _)) hDI (fun hm => Nat.lt_irrefl _ (hfp _ hm)) hcL hst₁ (F.keeps old) ?_ hO (fun p hp => hp) ?_ j0 ?_ ?_
    · intro p hp
      rcases List.mem_cons.mp hp with rfl | hp
      · exact ⟨hD, Nat.ne_of_gt hLlt, none₀ _ (Nat.le_refl _)⟩
      · exact ⟨old _ _ (N p hp).1, (N p hp).2⟩
    · exact fun p hp => ⟨off p hp, Nat.ne_of_lt (nlt p hp), fun hc => Nat.lt_asymm (hcs _ hc) (nlt p hp)⟩
    · intro i v ys Y oI ow h tk E' hi hP hJ hsub hoff hB how F' N'
      exact turn i v ys Y I _ oI ow h tk E' hi hP hJ hsub hoff hB how hDI hDc (fun hc => (hcL I hc).2.2.2.2 rfl) F' N'
    · intro h tk ys Y F' hO' N' hsub hoff hJ
      exact hR _ h tk ys Y rfl F' hO' N' hsub (fun p hp => (hoff p hp).2) nlt (fun c hc => ⟨(hcL c hc).1, (hcL c hc).2.1, (hcL c hc).2.2.1⟩) hJ
  exact codeAny_compStart_list loop (W.self 0 _ _ _ hst₁ loop)

/-- a turn that leaves the list as it is -/
noncomputable def TurnS (h₀ : Heap) (L : Addr) (m : Str → Option Value) (s₁ : Shared) (I D : Addr) (oI : Obj) (cs : List Addr) (ow : List (Addr × Obj)) (news : List (Addr × Obj)) (ys : List Value) (J : List Value → List (Addr × Obj) → Prop) (s₂ : Shared) : Prop :=
  ∃ h' tk Y, s₂ = { s₁ with heap := h', toks := tk } ∧ Fr h₀ L h' m ∧ News h₀ L h' ((I, oI) :: (ow ++ (D, LCg.lst ys) :: Y)) ∧ (∀ p ∈ news, p ∈ Y) ∧ Off Y I D cs ∧ J ys Y
theorem TurnS.intro {s₁ : Shared} {I D : Addr} {oI : Obj} {cs : List Addr} {ow all news : List (Addr × Obj)} {ys : List Value} {J : List Value → List (Addr × Obj) → Prop} {h' : Heap} {tk : Nat} (Y : List (Addr × Obj)) (F : Fr h₀ L h' m) (N : News h₀ L h' all)
    (hs : ∀ p ∈ (I, oI) :: (ow ++ (D, LCg.lst ys) :: Y), p ∈ all) (hsub : ∀ p ∈ news, p ∈ Y) (hoff : Off Y I D cs) (j : J ys Y) : TurnS h₀ L m s₁ I D oI cs ow news ys J { s₁ with heap := h', toks := tk } :=
  ⟨h', tk, Y, rfl, F, fun p hp => N p (hs p hp), hsub, hoff, j⟩
theorem TurnS.go {s₁ s₂ : Shared} {env : Env} {target : Expr} {P : Nat → Value → Prop} {I D : Addr} {oI : Obj} {cs : List Addr} {ow : List (Addr × Obj)} {ys : List Value} {Own : Heap → Prop} {OwnB : Nat → Value → List (Addr × Obj) → Prop} {J : List Value → List (Addr × Obj) → Prop} {i : Nat} {v : Value}
    (O : OwnAt prog w A h₀ L news env target P cs Own OwnB) (hB : OwnB i v ow) (h : TurnS h₀ L m s₁ I D oI cs ow news ys J s₂) : TurnG h₀ L m s₁ I D oI cs Own news J s₂ := by
  obtain ⟨h₄, tk₄, Y, rfl, F₄, N₄, hsub, hoff, hJ⟩ := h
  exact ⟨h₄, tk₄, ys, Y, rfl, F₄, (N₄ _ (.head _)).1, O.back _ _ _ _ hB fun p hp => (N₄ p (.tail _ (List.mem_append_left _ hp))).1, fun p hp => N₄ p (.tail _ (List.mem_append_right _ hp)), hsub, hoff, hJ⟩

/-- what a comprehension of one clause asks behind its iterator; its elements may be made objects -/
noncomputable def CompG (prog : Program) (w : World) (A : Around) (L : Addr) (env : Env) (elt target : Expr) (ifs : List Expr) (scope : Scope) (cl : List (Str × Addr))
    (Fin : Heap → Addr → (Str → Option Value) → List (Addr × Obj) → Addr → Shared → Prop) (s₁ : Shared) (it : Value) (s₂ : Shared) : Prop :=
  ∃ (h₀ : Heap) (m : Str → Option Value) (news : List (Addr × Obj)) (n : Nat) (P : Nat → Value → Prop) (J : Nat → List Value → List (Addr × Obj) → Prop) (B : Nat → Value → (Str → Option Value) → Prop),
    SrcAt prog w A h₀ L m news n P s₁ it s₂ ∧ n ≤ sizeLine ∧
    (∀ i v C m' (s' : Shared) (Q : Unit → Shared → Prop) (E' : Value → Shared → Prop), P i v → s'.heap.Ns C m' → News h₀ L s'.heap news →
      (∀ h' tk m'', h'.Ns C m'' → B i v m'' → (∀ c o, c ≠ C → s'.heap.get? c = some o → h'.get? c = some o) → Q () { s' with heap := h', toks := tk }) → wpAny (model prog w) A (assign target (compEnvC scope cl C env) v) Q E' s') ∧
    J 0 [] news ∧
    (∀ i v ys Y I oI C oC D m₂ h tk (E' : Value → Shared → Prop), i < n → P i v → J i ys Y → (∀ p ∈ news, p ∈ Y) → Off Y I D [C] → LCg.NsObj oC m₂ → B i v m₂ → Fr h₀ L h m → News h₀ L h ((I, oI) :: (C, oC) :: (D, LCg.lst ys) :: Y) →
      wpAny (model prog w) A (testsOf ifs (compEnvC scope cl C env)) (fun ok s' => if ok = true then wpAny (model prog w) A (eval elt (compEnvC scope cl C env)) (TurnE h₀ L m { s₂ with heap := h, toks := tk } I D oI [C] [(C, oC)] news ys (J (i + 1))) E' s'
        else TurnS h₀ L m { s₂ with heap := h, toks := tk } I D oI [C] [(C, oC)] news ys (J (i + 1)) s') E' { s₂ with heap := h, toks := tk }) ∧
    (∀ i ys Y, J i ys Y → ys.length ≤ i) ∧
    (∀ D ys Y, J n ys Y → (∀ p ∈ news, p ∈ Y) → (∀ p ∈ Y, p.1 ≠ D) → (∀ p ∈ news, p.1 < D) → Fin h₀ L m ((D, listOf ys.toArray ys.length) :: Y) D s₂)

theorem ownAt_name {env : Env} {scope : Scope} {cl : List (Str × Addr)} {target : Expr} {C : Addr} {P : Nat → Value → Prop} {B : Nat → Value → (Str → Option Value) → Prop}
    (hasg : ∀ i v C m' (s' : Shared) (Q : Unit → Shared → Prop) (E' : Value → Shared → Prop), P i v → s'.heap.Ns C m' → News h₀ L s'.heap news →
      (∀ h' tk m'', h'.Ns C m'' → B i v m'' → (∀ c o, c ≠ C → s'.heap.get? c = some o → h'.get? c = some o) → Q () { s' with heap := h', toks := tk }) → wpAny (model prog w) A (assign target (compEnvC scope cl C env) v) Q E' s') :
    OwnAt prog w A h₀ L news (compEnvC scope cl C env) target P [C] (fun h => ∃ m', h.Ns C m') (fun i v ow => ∃ oC m₂, ow = [(C, oC)] ∧ LCg.NsObj oC m₂ ∧ B i v m₂) where
  frame := fun h h' ⟨m', hn⟩ hk => ⟨m', hn.at' fun o e => hk C (.head _) o e⟩
  back := by rintro i v ow h ⟨oC, m₂, rfl, hn, _⟩ hp; exact ⟨m₂, hn.ns (hp _ (.head _))⟩
  inn := by rintro i v ow ⟨oC, m₂, rfl, _⟩ p hp; rw [List.mem_singleton.mp hp]; exact .head _
  asg := by
    intro i v s' Q E' hP zr0 N hq
    refine e1a1 (zr0) fun m' hn => ?_
    clear zr0
    refine hasg i v C m' s' Q E' hP hn N fun h' tk m'' hn' hB hk => ?_
    obtain ⟨oC, heC, hoC⟩ := LCg.ns_obj hn'
    exact hq h' tk [(C, oC)] ⟨oC, m'', rfl, hoC, hB⟩ (fun p hp => by rw [List.mem_singleton.mp hp]; exact heC) fun c o hc e => hk c o (fun q => hc (by rw [q]; exact .head _)) e

theorem compG_block {elt target iter : Expr} {ifs : List Expr} {scope : Scope} {cl : List (Str × Addr)} {pos : Pos} {env : Env} {s₁ s₂ : Shared} {it : Value} {RR : Value → Addr → Result → Shared → Prop}
    {Fin : Heap → Addr → (Str → Option Value) → List (Addr × Obj) → Addr → Shared → Prop} (hcell : ∀ y ∈ scope.names, y.2 ≠ .cell) (hkind : scope.kind = .function)
    (H : CompG prog w A L env elt target ifs scope cl Fin s₁ it s₂)
    (hRR : ∀ h₀ m D C h tk m' ys Y, Fr h₀ L h m → News h₀ L h ((D, LCg.lst ys) :: Y) → h.Ns C m' → h₀.get? C = none → C ≠ L → C ≠ D → (∀ p ∈ Y, p.1 ≠ C) → Fin h₀ L m ((D, listOf ys.toArray ys.length) :: Y) D s₂ → RR (.ref D) C (.ok .next) { s₂ with heap := h, toks := tk }) :
    wpAny (model prog w) A (newList []) (fun acc s₃ => wpAny (model prog w) A (newFunctionEnv scope env.globals cl [] env.qual none .none (some env)) (fun cenv s₄ =>
      codeAny (model prog w) A (.compStart (.ListComp elt [⟨target, iter, ifs, 0⟩] scope pos) 0 it acc { cenv with scope := relabel scope env }) (RR acc cenv.locals) s₄) E s₃) E s₂ := by
  refine e7a7 (H) fun h₀ m news n P J B S hsz hasg j0 turn hlen fin => ?_
  clear H
  have hS := S
  refine e3a12 (S.ex) fun I fp St _ _ _ _ _ _ _ _ _ F N zt0 => ?_
  refine e1a1 (zt0) fun g ze1 => ?_
  clear zt0
  subst ze1
  refine wpAny_newObj_type (wpAny_newFunctionEnv hcell (by intro y hy; simp at hy) (fun h₁ hns₁ hsb₁ => ?_) hkind)
  dsimp only at F N hns₁ hsb₁ ⊢
  generalize hH2 : g.push { cls := .type "list", dict := none, data := .seq ([] : List Value).toArray } = H2 at hns₁ hsb₁ ⊢
  have hC : H2.objs.size = g.objs.size + 1 := by rw [← hH2, Heap.size_push]
  have hDC : g.objs.size ≠ H2.objs.size := by rw [hC]; exact Nat.ne_of_lt (Nat.lt_succ_self _)
  have old : ∀ b o, g.get? b = some o → h₁.get? b = some o := fun b o e => hsb₁.extBut b o (by rw [hC]; exact Nat.ne_of_lt (Nat.lt_succ_of_lt (Heap.lt_size e))) (Heap.get?_push_of_some _ (hH2 ▸ Heap.get?_push_of_some _ e))
  have hacc : h₁.get? g.objs.size = some (LCg.lst []) := hsb₁.extBut _ _ hDC (Heap.get?_push_of_some _ (hH2 ▸ Heap.get?_push_size _ rfl))
  have O := ownAt_name (cl := cl) (scope := scope) (env := env) (C := H2.objs.size) hasg
  refine comp_core (J := J) (body := fun D => do let _ ← call (.builtin "list.append") [D, ← eval elt (compEnvC scope cl H2.objs.size env)]) (fun it D => compTurn_list elt target iter ifs scope pos it D _) hS O old hacc ⟨_, hns₁⟩ (fun c hc => by rw [List.mem_singleton.mp hc, hC]; exact Nat.lt_succ_self _) j0 ?_ ?_
  · rintro i v ys Y I D oI ow h tk E' hi hP hJ hsub hoff hB how hDI hDc _ F' N'
    have hB' := hB
    refine e2a3 (hB) fun oC m₂ ze0 hn₂ hB₂ => ?_
    clear hB
    subst ze0
    refine wpAny_mono (turn i v ys Y I oI _ oC D m₂ h tk E' hi hP hJ hsub hoff hn₂ hB₂ F' N') (fun ok s₄ h₄ => ?_) fun _ _ e => e
    cases ok with
    | false =>
      simp only [Bool.false_eq_true, if_false] at h₄ ⊢
      exact h₄.go O hB'
    | true =>
      simp only [if_true] at h₄ ⊢
      exact emit_go O hB' hDI hDc (Nat.le_trans (hlen _ _ _ hJ) (Nat.le_trans (Nat.le_of_lt hi) hsz)) h₄
  · intro D h tk ys Y zr0 F' zr1 N' hsub hoff hlt hcs hJ
    obtain rfl := zr0
    refine e1a1 (zr1) fun m' hn' => ?_
    clear zr1
    have hc := hcs _ (.head _)
    exact hRR h₀ m _ _ h tk m' ys Y F' N' hn' hc.2.1 hc.1 hc.2.2 (fun p hp e => (hoff p hp).2 (by rw [e]; exact .head _)) (fin _ ys Y hJ hsub (fun p hp => (hoff p hp).1) hlt)

theorem compG_e {elt target iter : Expr} {ifs : List Expr} {scope : Scope} {cl : List (Str × Addr)} {pos : Pos} {env : Env} {Q : Value → Shared → Prop}
    (hLe : env.locals = L) (hclos : closureFor scope env = pure cl) (hcell : ∀ y ∈ scope.names, y.2 ≠ .cell) (hkind : scope.kind = .function)
    (hnames : ∀ y ∈ scope.names, y.2 = .local → scope.names.lookup y.1 = some .local) (hs : ∀ x, foldedSetIterable iter env x = pure x)
    (h : wpAny (model prog w) A (eval iter env) (fun xv s₁ => wpAny (model prog w) A (pyIter xv) (CompG prog w A L env elt target ifs scope cl (CFinE Q) s₁) E s₁) E s) :
    wpAny (model prog w) A (eval (.ListComp elt [⟨target, iter, ifs, 0⟩] scope pos) env) Q E s := by
  have _ := hLe
  rw [eval_ListComp]
  refine wpAny_comprehension_free (use := none) rfl hs hclos hkind hnames (wpAny_mono h (fun xv s₁ h₁ => wpAny_mono h₁ (fun it s₂ h₂ => ?_) fun _ _ e => e) fun _ _ e => e)
  refine compG_block hcell hkind h₂ ?_
  intro h₀ m D C h tk m' ys Y F' N' hn hC₀ hCL hCD offC fin
  refine ⟨m', hn, fun h'' hs'' => fin h'' tk (F'.change hs'' hCL hC₀) (fun p hp => ?_)⟩
  refine ⟨hs''.extBut _ _ ?_ (N' p hp).1, (N' p hp).2⟩
  rcases List.mem_cons.mp hp with rfl | hp
  · exact Ne.symm hCD
  · exact offC p hp

theorem compG_a {elt target iter : Expr} {ifs : List Expr} {y : Str} {py : Pos} {scope : Scope} {cl : List (Str × Addr)} {pos spos : Pos} {env : Env} {Q : Flow → Shared → Prop} (hLe : env.locals = L)
    (hsw : swapsWith (.ListComp elt [⟨target, iter, ifs, 0⟩] scope pos) (some (.Name y py)) spos.line env = pure true)
    (hclos : closureFor scope env = pure cl) (hcell : ∀ y ∈ scope.names, y.2 ≠ .cell) (hkind : scope.kind = .function)
    (hnames : ∀ y ∈ scope.names, y.2 = .local → scope.names.lookup y.1 = some .local) (hs : ∀ x, foldedSetIterable iter env x = pure x)
    (hy : env.kindOf y = some .local) (hp : (env.scope.kind == .class || (env.scope.kind == .module && env.locals != env.globals)) = false)
    (h : wpAny (model prog w) A (eval iter env) (fun xv s₁ => wpAny (model prog w) A (pyIter xv) (CompG prog w A L env elt target ifs scope cl (CFinA y Q) s₁) E s₁) E s) :
    wpAny (model prog w) A (exec (.Assign [.Name y py] (.ListComp elt [⟨target, iter, ifs, 0⟩] scope pos) spos) env) Q E s := by
  subst hLe
  rw [exec_Assign_Name_used _ _ _ _ hsw]
  refine wpAny_bind (wpAny_standAt (wpAny_bind ?_))
  show wpAny _ A (do let _ ← comprehension (.ListComp elt [⟨target, iter, ifs, 0⟩] scope pos) scope env _ (newList []) false (eval iter env) (some (assign (.Name y py) env))) _ _ s
  refine wpAny_bind (wpAny_mono (wpAny_comprehension_free (use := some (assign (.Name y py) env)) (Q := fun _ s' => Q .next s') rfl hs hclos hkind hnames
    (wpAny_mono h (fun xv s₁ h₁ => wpAny_mono h₁ (fun it s₂ h₂ => ?_) fun _ _ e => e) fun _ _ e => e)) (fun _ s' hq => wpAny_pure (wpAny_pure hq)) fun _ _ e => e)
  refine compG_block hcell hkind h₂ ?_
  intro h₀ m D C h' tk m' ys Y F' N' hn hC₀ hCL hCD offC fin
  show wpAny _ A (assign (.Name y py) env (.ref D)) _ _ _
  refine wpAny_assign_Name (wpAny_storeName_local hy F'.ns (fun h₂ hn₂ hs₂ => ?_) hp)
  refine ⟨m', hn.sameBut hs₂ hCL, fun h'' hs'' => fin h'' _ ((F'.set hn₂ hs₂).change hs'' hCL hC₀) (fun p hp => ?_)⟩
  have z : h₂.get? p.1 = some p.2 := hs₂.extBut _ _ (N' p hp).2.1 (N' p hp).1
  refine ⟨hs''.extBut _ _ ?_ z, (N' p hp).2⟩
  rcases List.mem_cons.mp hp with rfl | hp
  · exact Ne.symm hCD
  · exact offC p hp
/-- a name as the target -/
theorem CompG.name {elt : Expr} {x : Str} {px : Pos} {ifs : List Expr} {scope : Scope} {cl : List (Str × Addr)} {env : Env} {Fin : Heap → Addr → (Str → Option Value) → List (Addr × Obj) → Addr → Shared → Prop} {s₁ s₂ : Shared} {it : Value} {n : Nat} {P : Nat → Value → Prop}
    (J : Nat → List Value → List (Addr × Obj) → Prop) (hx : scope.names.lookup x = some .local) (hkind : scope.kind = .function) (S : SrcAt prog w A h₀ L m news n P s₁ it s₂) (hsz : n ≤ sizeLine) (j0 : J 0 [] news)
    (turn : ∀ i v ys Y I oI C oC D m₂ h tk (E' : Value → Shared → Prop), i < n → P i v → J i ys Y → (∀ p ∈ news, p ∈ Y) → Off Y I D [C] → LCg.NsObj oC m₂ → m₂ x = some v → Fr h₀ L h m → News h₀ L h ((I, oI) :: (C, oC) :: (D, LCg.lst ys) :: Y) →
      wpAny (model prog w) A (testsOf ifs (compEnvC scope cl C env)) (fun ok s' => if ok = true then wpAny (model prog w) A (eval elt (compEnvC scope cl C env)) (TurnE h₀ L m { s₂ with heap := h, toks := tk } I D oI [C] [(C, oC)] news ys (J (i + 1))) E' s'
        else TurnS h₀ L m { s₂ with heap := h, toks := tk } I D oI [C] [(C, oC)] news ys (J (i + 1)) s') E' { s₂ with heap := h, toks := tk })
    (hlen : ∀ i ys Y, J i ys Y → ys.length ≤ i)
    (fin : ∀ D ys Y, J n ys Y → (∀ p ∈ news, p ∈ Y) → (∀ p ∈ Y, p.1 ≠ D) → (∀ p ∈ news, p.1 < D) → Fin h₀ L m ((D, listOf ys.toArray ys.length) :: Y) D s₂) : CompG prog w A L env elt (.Name x px) ifs scope cl Fin s₁ it s₂ := by
  refine ⟨h₀, m, news, n, P, J, fun _ v m₂ => m₂ x = some v, S, hsz, ?_, j0, turn, hlen, fin⟩
  intro i v C m' s' Q E' _ hn _ hq
  refine wpAny_assign_Name (wpAny_storeName_local (lookup_relabel_local hx) hn (fun h₃ hn₃ hs₃ => ?_) (by simp [compEnvC, relabel, hkind]))
  exact hq h₃ _ _ hn₃ (by simp) fun c o hc e => hs₃.extBut c o hc e
end
end Mine
end
section
namespace Mine
theorem compTurn_two0 (elt t0 i0 t1 i1 : Expr) (scope : Scope) (pos : Pos) (it acc : Value) (env : Env) :
    compTurn (.ListComp elt [⟨t0, i0, [], 0⟩, ⟨t1, i1, [], 0⟩] scope pos) 0 it acc env = (do
      standAt i0.pos
      match ← pyNext it with
      | none => pure (.done .next)
      | some v =>
        letOwnedTupleGo t0 it v
        assign t0 env v
        let mut ok := true
        for c in ([] : List Expr) do
          if ok then ok ← isTrue c env (eval c env)
        if ok then
          (do
            let x ← eval i1 env
            standAt i1.pos
            let x ← foldedSetIterable i1 env x
            let _ ← runOwn (.compStart (.ListComp elt [⟨t0, i0, [], 0⟩, ⟨t1, i1, [], 0⟩] scope pos) 1 (← holding [x] (pyIter x)) acc env) env)
        again (.compLoop (.ListComp elt [⟨t0, i0, [], 0⟩, ⟨t1, i1, [], 0⟩] scope pos) 0 it acc env)) := by
  simp only [bind_assoc]
  rfl
theorem compTurn_two1 (elt t0 i0 t1 i1 : Expr) (scope : Scope) (pos : Pos) (it acc : Value) (env : Env) :
    compTurn (.ListComp elt [⟨t0, i0, [], 0⟩, ⟨t1, i1, [], 0⟩] scope pos) 1 it acc env = (do
      standAt i1.pos
      match ← pyNext it with
      | none => pure (.done .next)
      | some v =>
        letOwnedTupleGo t1 it v
        assign t1 env v
        let mut ok := true
        for c in ([] : List Expr) do
          if ok then ok ← isTrue c env (eval c env)
        if ok then
          (do let _ ← call (.builtin "list.append") [acc, ← eval elt env])
        again (.compLoop (.ListComp elt [⟨t0, i0, [], 0⟩, ⟨t1, i1, [], 0⟩] scope pos) 1 it acc env)) := by rfl
section
variable {prog : Program} {w : World} {A : Around} {E : Value → Shared → Prop} {s : Shared} {h₀ : Heap} {L : Addr} {m : Str → Option Value} {news : List (Addr × Obj)}
theorem codeAny_compStart_two1 {R : Result → Shared → Prop} {elt t0 i0 t1 i1 scope pos it acc env}
    (h0 : codeAny (model prog w) A (.compLoop (.ListComp elt [⟨t0, i0, [], 0⟩, ⟨t1, i1, [], 0⟩] scope pos) 1 it acc env) R s)
    (h : wpAny (model prog w) A (pyIter it) (fun it' s' => codeAny (model prog w) A (.compLoop (.ListComp elt [⟨t0, i0, [], 0⟩, ⟨t1, i1, [], 0⟩] scope pos) 1 it' acc env) R s')
      (notedBy (model prog w) A env fun x s' => R (.error x) s') s) :
    codeAny (model prog w) A (.compStart (.ListComp elt [⟨t0, i0, [], 0⟩, ⟨t1, i1, [], 0⟩] scope pos) 1 it acc env) R s := by
  refine codeAny_of_tree ?_
  show wpAny _ _ ((compStart (.ListComp elt [⟨t0, i0, [], 0⟩, ⟨t1, i1, [], 0⟩] scope pos) 1 it acc env).onRaise (fun x => do noteFrame x env; standAt theWindowsPlace)) _ _ s
  refine wpAny_notedAt ?_
  unfold compStart
  show wpAny _ _ (ask >>= _) _ _ s
  refine wpAny_bind (wpAny_askSetting (wpAny_ite ?_))
  split
  · first
      | exact wpAny_bind (wpAny_pure (wpAny_pure (And.intro rfl h0)))
      | exact wpAny_pure (And.intro rfl h0)
  · first
      | exact wpAny_bind (wpAny_rule (wpAny_bind (wpAny_standAt (wpAny_bind (wpAny_mono h (fun it' s' h' => wpAny_pure (And.intro rfl h')) fun _ _ x => x)))))
      | (refine wpAny_bind (wpAny_rule ?_); show wpAny _ _ (standAt i1.pos >>= _) _ _ s; exact wpAny_bind (wpAny_standAt (wpAny_bind (wpAny_mono h (fun it' s' h' => wpAny_pure (And.intro rfl h')) fun _ _ x => x))))

/-- behind an element of the inner loop -/
noncomputable def TurnT (h₀ : Heap) (L : Addr) (m : Str → Option Value) (s₁ : Shared) (I I0 C D : Addr) (oI oI0 oC : Obj) (Y : List (Addr × Obj)) (ys : List Value) (J : List Value → List (Addr × Obj) → Prop) (y : Value) (s₂ : Shared) : Prop :=
  ∃ h' tk Y', s₂ = { s₁ with heap := h', toks := tk } ∧ Fr h₀ L h' m ∧ News h₀ L h' ((I, oI) :: (C, oC) :: (D, LCg.lst ys) :: (I0, oI0) :: Y') ∧ (∀ p ∈ Y, p ∈ Y') ∧ (∀ p ∈ Y', p.1 ≠ I ∧ p.1 ≠ I0 ∧ p.1 ≠ D ∧ p.1 ≠ C) ∧ J (ys ++ [y]) Y'
theorem TurnT.intro {s₁ : Shared} {I I0 C D : Addr} {oI oI0 oC : Obj} {Y all : List (Addr × Obj)} {ys : List Value} {J : List Value → List (Addr × Obj) → Prop} {y : Value} {h' : Heap} {tk : Nat} (Y' : List (Addr × Obj)) (F : Fr h₀ L h' m) (N : News h₀ L h' all)
    (hs : ∀ p ∈ (I, oI) :: (C, oC) :: (D, LCg.lst ys) :: (I0, oI0) :: Y', p ∈ all) (hsub : ∀ p ∈ Y, p ∈ Y') (hoff : ∀ p ∈ Y', p.1 ≠ I ∧ p.1 ≠ I0 ∧ p.1 ≠ D ∧ p.1 ≠ C) (j : J (ys ++ [y]) Y') : TurnT h₀ L m s₁ I I0 C D oI oI0 oC Y ys J y { s₁ with heap := h', toks := tk } :=
  ⟨h', tk, Y', rfl, F, fun p hp => N p (hs p hp), hsub, hoff, j⟩
/-- a range as the source of an inner loop -/
noncomputable def SrcR (prog : Program) (w : World) (A : Around) (n : Nat) (s₁ : Shared) (it : Value) (s₂ : Shared) : Prop :=
  ∃ r a t u v, IsRange s₁.heap r a ((a : Int) + n) 1 t u v ∧ a = 0 ∧ it = .ref s₁.heap.objs.size ∧ s₂ = { s₁ with heap := s₁.heap.push { cls := .type "range_iterator", data := .fields #[rawInt a, rawInt n, rawInt 1] } }
theorem srcR_range {r : Addr} {b : Int} {t u v : Tok} {n : Nat} {Q : Value → Shared → Prop} (hr : IsRange s.heap r 0 b 1 t u v) (hb : b = n) (hsm : Builtin.Range.small 0 b 1 = true) (hn : Builtin.Range.rangeSize 0 b 1 = ((n : Nat) : Int))
    (h : ∀ it s₂, SrcR prog w A n s it s₂ → Q it s₂) : wpAny (model prog w) A (pyIter (.ref r)) Q E s :=
  wpAny_pyIter_range hr hsm (h _ _ ⟨r, 0, t, u, v, by rw [Int.zero_add, ← hb]; exact hr, rfl, rfl, by rw [hn]⟩)

/-- what a comprehension of two clauses asks behind its first iterator: the inner one a range of cnt i -/
noncomputable def Comp2 (prog : Program) (w : World) (A : Around) (L : Addr) (env : Env) (elt : Expr) (x0 x1 : Str) (i1 : Expr) (scope : Scope) (cl : List (Str × Addr))
    (Fin : Heap → Addr → (Str → Option Value) → List (Addr × Obj) → Addr → Shared → Prop) (s₁ : Shared) (it : Value) (s₂ : Shared) : Prop :=
  ∃ (h₀ : Heap) (m : Str → Option Value) (news : List (Addr × Obj)) (n : Nat) (P : Nat → Value → Prop) (cnt : Nat → Nat) (J : Nat → Nat → List Value → List (Addr × Obj) → Prop),
    SrcAt prog w A h₀ L m news n P s₁ it s₂ ∧ A.handled = none ∧ J 0 0 [] news ∧
    (∀ i v ys Y I oI C oC D m₂ h tk (E' : Value → Shared → Prop), i < n → P i v → J i 0 ys Y → (∀ p ∈ news, p ∈ Y) → Off Y I D [C] → LCg.NsObj oC m₂ → m₂ x0 = some v → Fr h₀ L h m → News h₀ L h ((I, oI) :: (C, oC) :: (D, LCg.lst ys) :: Y) →
      wpAny (model prog w) A (eval i1 (compEnvC scope cl C env)) (fun xv s' => (∃ h' tk', s' = { s₂ with heap := h', toks := tk' } ∧ Fr h₀ L h' m ∧ News h₀ L h' ((I, oI) :: (C, oC) :: (D, LCg.lst ys) :: Y)) ∧ wpAny (model prog w) A (pyIter xv) (SrcR prog w A (cnt i) s') E' s') E' { s₂ with heap := h, toks := tk }) ∧
    (∀ i v j tj ys Y I oI I0 oI0 C oC D m₂ h tk (E' : Value → Shared → Prop), i < n → P i v → j < cnt i → J i j ys Y → (∀ p ∈ news, p ∈ Y) → (∀ p ∈ Y, p.1 ≠ I ∧ p.1 ≠ I0 ∧ p.1 ≠ D ∧ p.1 ≠ C) → LCg.NsObj oC m₂ → m₂ x0 = some v → m₂ x1 = some (.int (j : Int) tj) → Fr h₀ L h m → News h₀ L h ((I, oI) :: (C, oC) :: (D, LCg.lst ys) :: (I0, oI0) :: Y) →
      wpAny (model prog w) A (eval elt (compEnvC scope cl C env)) (TurnT h₀ L m { s₂ with heap := h, toks := tk } I I0 C D oI oI0 oC Y ys (J i (j + 1))) E' { s₂ with heap := h, toks := tk }) ∧
    (∀ i ys Y, J i (cnt i) ys Y → J (i + 1) 0 ys Y) ∧ (∀ i j ys Y, J i j ys Y → ys.length < sizeLine) ∧
    (∀ D ys Y, J n 0 ys Y → (∀ p ∈ news, p ∈ Y) → (∀ p ∈ Y, p.1 ≠ D) → (∀ p ∈ news, p.1 < D) → Fin h₀ L m ((D, listOf ys.toArray ys.length) :: Y) D s₂)

theorem Comp2.put {env : Env} {elt : Expr} {x0 x1 : Str} {i1 : Expr} {scope : Scope} {cl : List (Str × Addr)}
    {Fin : Heap → Addr → (Str → Option Value) → List (Addr × Obj) → Addr → Shared → Prop} {s₁ : Shared} {it : Value} {s₂ : Shared} {n : Nat} {P : Nat → Value → Prop} (cnt : Nat → Nat) (J : Nat → Nat → List Value → List (Addr × Obj) → Prop)
    (src : SrcAt prog w A h₀ L m news n P s₁ it s₂) (hh : A.handled = none) (j0 : J 0 0 [] news) (t1 : ∀ i v ys Y I oI C oC D m₂ h tk (E' : Value → Shared → Prop), i < n → P i v → J i 0 ys Y → (∀ p ∈ news, p ∈ Y) → Off Y I D [C] → LCg.NsObj oC m₂ → m₂ x0 = some v → Fr h₀ L h m → News h₀ L h ((I, oI) :: (C, oC) :: (D, LCg.lst ys) :: Y) →
      wpAny (model prog w) A (eval i1 (compEnvC scope cl C env)) (fun xv s' => (∃ h' tk', s' = { s₂ with heap := h', toks := tk' } ∧ Fr h₀ L h' m ∧ News h₀ L h' ((I, oI) :: (C, oC) :: (D, LCg.lst ys) :: Y)) ∧ wpAny (model prog w) A (pyIter xv) (SrcR prog w A (cnt i) s') E' s') E' { s₂ with heap := h, toks := tk }) (t2 : ∀ i v j tj ys Y I oI I0 oI0 C oC D m₂ h tk (E' : Value → Shared → Prop), i < n → P i v → j < cnt i → J i j ys Y → (∀ p ∈ news, p ∈ Y) → (∀ p ∈ Y, p.1 ≠ I ∧ p.1 ≠ I0 ∧ p.1 ≠ D ∧ p.1 ≠ C) → LCg.NsObj oC m₂ → m₂ x0 = some v → m₂ x1 = some (.int (j : Int) tj) → Fr h₀ L h m → News h₀ L h ((I, oI) :: (C, oC) :: (D, LCg.lst ys) :: (I0, oI0) :: Y) →
      wpAny (model prog w) A (eval elt (compEnvC scope cl C env)) (TurnT h₀ L m { s₂ with heap := h, toks := tk } I I0 C D oI oI0 oC Y ys (J i (j + 1))) E' { s₂ with heap := h, toks := tk }) (adv : ∀ i ys Y, J i (cnt i) ys Y → J (i + 1) 0 ys Y) (sz : ∀ i j ys Y, J i j ys Y → ys.length < sizeLine) (done : ∀ D ys Y, J n 0 ys Y → (∀ p ∈ news, p ∈ Y) → (∀ p ∈ Y, p.1 ≠ D) → (∀ p ∈ news, p.1 < D) → Fin h₀ L m ((D, listOf ys.toArray ys.length) :: Y) D s₂) : Comp2 prog w A L env elt x0 x1 i1 scope cl Fin s₁ it s₂ :=
  ⟨h₀, m, news, n, P, cnt, J, src, hh, j0, t1, t2, adv, sz, done⟩


theorem comp2_block {elt i0 i1 : Expr} {x0 x1 : Str} {p0 p1 : Pos} {scope : Scope} {cl : List (Str × Addr)} {pos : Pos} {env : Env} {s₁ s₂ : Shared} {it : Value} {RR : Value → Addr → Result → Shared → Prop}
    {Fin : Heap → Addr → (Str → Option Value) → List (Addr × Obj) → Addr → Shared → Prop} (hcell : ∀ y ∈ scope.names, y.2 ≠ .cell) (hkind : scope.kind = .function) (h0 : scope.names.lookup x0 = some .local) (h1 : scope.names.lookup x1 = some .local) (hne : x0 ≠ x1)
    (hs1 : ∀ (env : Env) x, foldedSetIterable i1 env x = pure x) (H : Comp2 prog w A L env elt x0 x1 i1 scope cl Fin s₁ it s₂)
    (hRR : ∀ h₀ m D C h tk m' ys Y, Fr h₀ L h m → News h₀ L h ((D, LCg.lst ys) :: Y) → h.Ns C m' → h₀.get? C = none → C ≠ L → C ≠ D → (∀ p ∈ Y, p.1 ≠ C) → Fin h₀ L m ((D, listOf ys.toArray ys.length) :: Y) D s₂ → RR (.ref D) C (.ok .next) { s₂ with heap := h, toks := tk }) :
    wpAny (model prog w) A (newList []) (fun acc s₃ => wpAny (model prog w) A (newFunctionEnv scope env.globals cl [] env.qual none .none (some env)) (fun cenv s₄ =>
      codeAny (model prog w) A (.compStart (.ListComp elt [⟨.Name x0 p0, i0, [], 0⟩, ⟨.Name x1 p1, i1, [], 0⟩] scope pos) 0 it acc { cenv with scope := relabel scope env }) (RR acc cenv.locals) s₄) E s₃) E s₂ := by
  refine e7a8 (H) fun h₀ m news n P cnt J S hh j0 inner turn next hlen fin => ?_
  clear H
  have hS := S
  refine e3a12 (S.ex) fun I fp St _ _ _ _ _ _ _ _ _ F N zt0 => ?_
  refine e1a1 (zt0) fun g ze1 => ?_
  clear zt0
  subst ze1
  refine wpAny_newObj_type (wpAny_newFunctionEnv hcell (by intro y hy; simp at hy) (fun h₁ hns₁ hsb₁ => ?_) hkind)
  dsimp only at F N hns₁ hsb₁ ⊢
  generalize hH2 : g.push { cls := .type "list", dict := none, data := .seq ([] : List Value).toArray } = H2 at hns₁ hsb₁ ⊢
  have hC : H2.objs.size = g.objs.size + 1 := by rw [← hH2, Heap.size_push]
  have hDC : g.objs.size ≠ H2.objs.size := by rw [hC]; exact Nat.ne_of_lt (Nat.lt_succ_self _)
  have old : ∀ b o, g.get? b = some o → h₁.get? b = some o := fun b o e => hsb₁.extBut b o (by rw [hC]; exact Nat.ne_of_lt (Nat.lt_succ_of_lt (Heap.lt_size e))) (Heap.get?_push_of_some _ (hH2 ▸ Heap.get?_push_of_some _ e))
  have hacc : h₁.get? g.objs.size = some (LCg.lst []) := hsb₁.extBut _ _ hDC (Heap.get?_push_of_some _ (hH2 ▸ Heap.get?_push_size _ rfl))
  have O := ownAt_name (cl := cl) (scope := scope) (env := env) (target := .Name x0 p0) (C := H2.objs.size) (P := P) (news := news) (h₀ := h₀) (L := L) (prog := prog) (w := w) (A := A) (B := fun _ v m₂ => m₂ x0 = some v) (by
    intro i v C m' s' Q E' _ hn _ hq
    refine wpAny_assign_Name (wpAny_storeName_local (lookup_relabel_local h0) hn (fun h₃ hn₃ hs₃ => ?_) (by simp [compEnvC, relabel, hkind]))
    exact hq h₃ _ _ hn₃ (by simp) fun c o hc e => hs₃.extBut c o hc e)
  refine comp_core (J := fun i => J i 0) (fun it D => compTurn_two0 elt _ i0 _ i1 scope pos it D _) hS O old hacc ⟨_, hns₁⟩ (fun c hc => by rw [List.mem_singleton.mp hc, hC]; exact Nat.lt_succ_self _) j0 ?_ ?_
  · intro i v ys Y I0 D oI0 ow h tk E' hi hP hJ hsub hoff zr0 how hDI hDc hIc F' N'
    refine e2a3 (zr0) fun oC m₂ ze0 hn₂ hB₂ => ?_
    clear zr0
    subst ze0
    refine wpAny_tests_nil ?_
    simp only [if_true]
    generalize hCC : H2.objs.size = C at *
    have hCD : C ≠ D := fun e => hDc (by rw [e]; exact .head _)
    refine wpAny_bind (wpAny_mono (inner i v ys Y I0 oI0 C oC D m₂ h tk E' hi hP hJ hsub hoff hn₂ hB₂ F' N') (fun xv s₃ h₃ => ?_) fun _ _ e => e)
    refine a2 (h₃) fun zt0 hit => ?_
    clear h₃
    refine e2a3 (zt0) fun g₃ tk₃ ze1 F₃ N₃ => ?_
    clear zt0
    subst ze1
    refine wpAny_bind (wpAny_standAt (wpAny_bind (wpAny_of_eq (hs1 _ xv) (wpAny_bind (wpAny_holding (wpAny_mono hit (fun it₁ s₄ h₄ => ?_) fun _ _ e => e))))))
    refine e5a4 (h₄) fun r a t u v' _ ze0 ze1 ze2 => ?_
    clear h₄
    subst ze0
    subst ze1
    subst ze2
    dsimp only
    have hI1n : ∀ b o, g₃.get? b = some o → b ≠ g₃.objs.size := fun b o e => Nat.ne_of_lt (Heap.lt_size e)
    generalize hoI : ({ cls := .type "range_iterator", data := .fields #[rawInt 0, rawInt (cnt i), rawInt 1] } : Obj) = oI1
    have push : ∀ b o, g₃.get? b = some o → (g₃.push oI1).get? b = some o := fun b o e => Heap.get?_push_of_some _ e
    have none₀ : h₀.get? g₃.objs.size = none := next_is_new F₃
    have F₄ := F₃.push oI1
    have hLI : L ≠ g₃.objs.size := Nat.ne_of_lt F₃.ns.lt
    have nI0 := N₃ (I0, oI0) (.head _)
    have nC := N₃ (C, oC) (.tail _ (.head _))
    have nD := N₃ (D, LCg.lst ys) (.tail _ (.tail _ (.head _)))
    have nY : ∀ p ∈ Y, g₃.get? p.1 = some p.2 ∧ p.1 ≠ L ∧ h₀.get? p.1 = none := fun p hp => N₃ p (.tail _ (.tail _ (.tail _ hp)))
    have st0 : IsRangeIter (g₃.push oI1) g₃.objs.size (0 + (0 : Nat) * 1) ((cnt i : Int) - (0 : Nat)) 1 := by
      show IsRangeIter _ _ _ _ _
      rw [← hoI]
      simpa using Heap.get?_push_size _ rfl
    have hIC : C ≠ g₃.objs.size := hI1n _ _ nC.1
    have hID : D ≠ g₃.objs.size := hI1n _ _ nD.1
    have hII : I0 ≠ g₃.objs.size := hI1n _ _ nI0.1
    -- the inner names
    have O1 : OwnAt prog w A h₀ L ((I0, oI0) :: Y) (compEnvC scope cl C env) (.Name x1 p1) (fun j v => ∃ t, v = .int (0 + (j : Int)) t) [C] (fun h => ∃ m', h.Ns C m' ∧ m' x0 = some v) (fun j v' ow => ∃ oC m₂, ow = [(C, oC)] ∧ LCg.NsObj oC m₂ ∧ m₂ x0 = some v ∧ m₂ x1 = some v') := {
      frame := fun h h' ⟨m', hn, hv⟩ hk => ⟨m', hn.at' fun o e => hk C (.head _) o e, hv⟩
      back := by rintro j v' ow h ⟨oC, m₂, rfl, hn, hv, _⟩ hp; exact ⟨m₂, hn.ns (hp _ (.head _)), hv⟩
      inn := by rintro j v' ow ⟨oC, m₂, rfl, _⟩ p hp; rw [List.mem_singleton.mp hp]; exact .head _
      asg := by
        intro j v' s' Q E' _ zr0 _ hq
        refine e1a2 (zr0) fun m' hn hv => ?_
        clear zr0
        refine wpAny_assign_Name (wpAny_storeName_local (lookup_relabel_local h1) hn (fun h₃ hn₃ hs₃ => ?_) (by simp [compEnvC, relabel, hkind]))
        obtain ⟨oC, heC, hoC⟩ := LCg.ns_obj hn₃
        exact hq h₃ _ [(C, oC)] ⟨oC, _, rfl, hoC, by rw [if_neg hne]; exact hv, by simp⟩ (fun p hp => by rw [List.mem_singleton.mp hp]; exact heC) fun c o hc e => hs₃.extBut c o (fun q => hc (by rw [q]; exact .head _)) e }
    have loop : ∀ R : Result → Shared → Prop, (∀ h tk ys Y', Fr h₀ L h m → (∃ m', h.Ns C m') → News h₀ L h ((D, LCg.lst ys) :: (I0, oI0) :: Y') → (∀ p ∈ news, p ∈ Y') → Off Y' I0 D [C] → J i (cnt i) ys Y' → R (.ok .next) { s₁ with heap := h, toks := tk }) →
        codeAny (model prog w) A (.compLoop (.ListComp elt [⟨.Name x0 p0, i0, [], 0⟩, ⟨.Name x1 p1, i1, [], 0⟩] scope pos) 1 (.ref g₃.objs.size) (.ref D) (compEnvC scope cl C env)) R { s₁ with heap := g₃.push oI1, toks := tk₃ } := by
      intro R hR
      refine comp_go (news := (I0, oI0) :: Y) (n := cnt i) (J := fun j ys Y' => ∃ Y'', Y' = (I0, oI0) :: Y'' ∧ (∀ p ∈ Y, p ∈ Y'') ∧ (∀ p ∈ Y'', p.1 ≠ I0) ∧ J i j ys Y'') (cs := [C]) (s := { s₁ with heap := g₃.push oI1, toks := tk₃ }) (ys₀ := ys) (Y₀ := (I0, oI0) :: Y)
        (compTurn_two1 elt _ i0 _ i1 scope pos _ _ _) (LCg.range_walks hh 0 (cnt i)) (fun i h st => ⟨_, "range_iterator", st, rfl, by decide⟩) (fun j h h' o st e e' _ _ => ?_) O1 hLI none₀ nD.2.1 nD.2.2 hID (by simpa using hID) ?_ st0 F₄ ?_ ?_ (fun p hp => hp) ?_ ⟨Y, rfl, fun p hp => hp, fun p hp => (hoff p hp).1, hJ⟩ ?_ ?_
      · have st' : h.get? g₃.objs.size = some _ := st
        show h'.get? g₃.objs.size = some _
        rw [e', ← e]; exact st'
      · intro c hc
        rw [List.mem_singleton.mp hc]
        exact ⟨nC.2.1, nC.2.2, hCD, by simpa using hIC, hIC⟩
      · intro p hp
        rcases List.mem_cons.mp hp with rfl | hp
        · exact ⟨push _ _ nD.1, nD.2⟩
        · rcases List.mem_cons.mp hp with rfl | hp
          · exact ⟨push _ _ nI0.1, nI0.2⟩
          · exact ⟨push _ _ (nY p hp).1, (nY p hp).2⟩
      · exact ⟨m₂, (hn₂.ns nC.1).at' fun o e => push _ _ e, hB₂⟩
      · intro p hp
        rcases List.mem_cons.mp hp with rfl | hp
        · exact ⟨hII, fun e => hDI (by rw [← e]), hIc⟩
        · exact ⟨hI1n _ _ (nY p hp).1, (hoff p hp).2.1, (hoff p hp).2.2⟩
      · intro j v₁ ys₁ Y₁ oI ow h tk E'' hj zr0 zr1 hsub₁ hoff₁ hB₁ how₁ F₁ N₁
        refine e1a1 (zr0) fun tj ze0 => ?_
        clear zr0
        subst ze0
        refine e1a4 (zr1) fun Y'' ze0 hs'' hI'' hJ'' => ?_
        clear zr1
        subst ze0
        have hB₁' := hB₁
        refine e2a4 (hB₁) fun oC₁ m₃ ze0 hn₃ hv₃ hw₃ => ?_
        clear hB₁
        subst ze0
        refine wpAny_tests_nil ?_
        simp only [if_true]
        rw [Int.zero_add] at hw₃
        have hoffT : ∀ p ∈ Y'', p.1 ≠ g₃.objs.size ∧ p.1 ≠ I0 ∧ p.1 ≠ D ∧ p.1 ≠ C := fun p hp => ⟨(hoff₁ p (.tail _ hp)).1, hI'' p hp, (hoff₁ p (.tail _ hp)).2.1, fun e => (hoff₁ p (.tail _ hp)).2.2 (by rw [e]; exact .head _)⟩
        refine emit_go (i := j) O1 hB₁' hID hDc (Nat.le_of_lt (hlen _ _ _ _ hJ'')) (wpAny_mono (turn i v j tj ys₁ Y'' _ oI I0 oI0 C oC₁ D m₃ h tk E'' hi hP hj hJ'' (fun p hp => hs'' p (hsub p hp)) hoffT hn₃ hv₃ hw₃ F₁ N₁) (fun y s₅ zq₅ => ?_) fun _ _ e => e)
        refine e3a6 (zq₅) fun h₅ tk₅ Y₅ ze0 F₅ N₅ hs₅ ho₅ hJ₅ => ?_
        clear zq₅
        subst ze0
        refine ⟨h₅, tk₅, (I0, oI0) :: Y₅, rfl, F₅, N₅, ?_, ?_, Y₅, rfl, fun p hp => hs₅ p (hs'' p hp), fun p hp => (ho₅ p hp).2.1, hJ₅⟩
        · intro p hp
          rcases List.mem_cons.mp hp with rfl | hp
          · exact .head _
          · exact .tail _ (hs₅ p (hs'' p hp))
        · intro p hp
          rcases List.mem_cons.mp hp with rfl | hp
          · exact hoff₁ _ (.head _)
          · exact ⟨(ho₅ p hp).1, (ho₅ p hp).2.2.1, by simpa using (ho₅ p hp).2.2.2⟩
      · intro h tk ys₁ Y₁ F₁ zr0 N₁ hsub₁ hoff₁ zr1
        obtain ⟨m', hn', _⟩ := zr0
        obtain ⟨Y'', rfl, hs'', hI'', hJ''⟩ := zr1
        exact hR h tk ys₁ Y'' F₁ ⟨m', hn'⟩ N₁ (fun p hp => hs'' p (hsub p hp)) (fun p hp => ⟨hI'' p hp, (hoff₁ p (.tail _ hp)).2⟩) hJ''
    have done : ∀ h tk ys Y', Fr h₀ L h m → (∃ m', h.Ns C m') → News h₀ L h ((D, LCg.lst ys) :: (I0, oI0) :: Y') → (∀ p ∈ news, p ∈ Y') → Off Y' I0 D [C] → J i (cnt i) ys Y' →
        TurnG h₀ L m { s₁ with heap := g₃, toks := tk₃ } I0 D oI0 [C] (fun h => ∃ m', h.Ns C m') news (J (i + 1) 0) { s₁ with heap := h, toks := tk } := fun h tk ys Y' F₁ hn N₁ hs ho hJ' =>
      ⟨h, tk, ys, Y', rfl, F₁, (N₁ _ (.tail _ (.head _))).1, hn, fun p hp => N₁ p (by rcases List.mem_cons.mp hp with rfl | hp; exact .head _; exact .tail _ (.tail _ hp)), hs, ho, next _ _ _ hJ'⟩
    refine wpAny_bind (wpAny_runOwn (codeAny_compStart_two1 (loop _ ?_) ((LCg.range_walks hh 0 (cnt i)).self 0 _ _ _ st0 (loop _ ?_))) (by intro x; cases x))
    all_goals exact fun h tk ys Y' a b c d e f => wpAny_pure (done h tk ys Y' a b c d e f)
  · intro D h tk ys Y zr0 F' zr1 N' hsub hoff hlt hcs hJ
    obtain rfl := zr0
    refine e1a1 (zr1) fun m' hn' => ?_
    clear zr1
    have hc := hcs _ (.head _)
    exact hRR h₀ m _ _ h tk m' ys Y F' N' hn' hc.2.1 hc.1 hc.2.2 (fun p hp e => (hoff p hp).2 (by rw [e]; exact .head _)) (fin _ ys Y hJ hsub (fun p hp => (hoff p hp).1) hlt)
end
end Mine
end
section
namespace Mine
section
variable {prog : Program} {w : World} {A : Around} {E : Value → Shared → Prop} {s : Shared} {h₀ : Heap} {L : Addr} {m : Str → Option Value} {news : List (Addr × Obj)}
theorem comp2_a {elt i0 i1 : Expr} {x0 x1 : Str} {p0 p1 : Pos} {y : Str} {py : Pos} {scope : Scope} {cl : List (Str × Addr)} {pos spos : Pos} {env : Env} {Q : Flow → Shared → Prop} (hLe : env.locals = L)
    (hsw : swapsWith (.ListComp elt [⟨.Name x0 p0, i0, [], 0⟩, ⟨.Name x1 p1, i1, [], 0⟩] scope pos) (some (.Name y py)) spos.line env = pure true)
    (hclos : closureFor scope env = pure cl) (hcell : ∀ y ∈ scope.names, y.2 ≠ .cell) (hkind : scope.kind = .function)
    (hnames : ∀ y ∈ scope.names, y.2 = .local → scope.names.lookup y.1 = some .local) (hs : ∀ x, foldedSetIterable i0 env x = pure x)
    (h0 : scope.names.lookup x0 = some .local) (h1 : scope.names.lookup x1 = some .local) (hne : x0 ≠ x1) (hs1 : ∀ (env : Env) x, foldedSetIterable i1 env x = pure x)
    (hy : env.kindOf y = some .local) (hp : (env.scope.kind == .class || (env.scope.kind == .module && env.locals != env.globals)) = false)
    (h : wpAny (model prog w) A (eval i0 env) (fun xv s₁ => wpAny (model prog w) A (pyIter xv) (Comp2 prog w A L env elt x0 x1 i1 scope cl (CFinA y Q) s₁) E s₁) E s) :
    wpAny (model prog w) A (exec (.Assign [.Name y py] (.ListComp elt [⟨.Name x0 p0, i0, [], 0⟩, ⟨.Name x1 p1, i1, [], 0⟩] scope pos) spos) env) Q E s := by
  subst hLe
  rw [exec_Assign_Name_used _ _ _ _ hsw]
  refine wpAny_bind (wpAny_standAt (wpAny_bind ?_))
  show wpAny _ A (do let _ ← comprehension (.ListComp elt [⟨.Name x0 p0, i0, [], 0⟩, ⟨.Name x1 p1, i1, [], 0⟩] scope pos) scope env _ (newList []) false (eval i0 env) (some (assign (.Name y py) env))) _ _ s
  refine wpAny_bind (wpAny_mono (wpAny_comprehension_free (use := some (assign (.Name y py) env)) (Q := fun _ s' => Q .next s') rfl hs hclos hkind hnames
    (wpAny_mono h (fun xv s₁ h₁ => wpAny_mono h₁ (fun it s₂ h₂ => ?_) fun _ _ e => e) fun _ _ e => e)) (fun _ s' hq => wpAny_pure (wpAny_pure hq)) fun _ _ e => e)
  refine comp2_block hcell hkind h0 h1 hne hs1 h₂ ?_
  intro h₀ m D C h' tk m' ys Y F' N' hn hC₀ hCL hCD offC fin
  show wpAny _ A (assign (.Name y py) env (.ref D)) _ _ _
  refine wpAny_assign_Name (wpAny_storeName_local hy F'.ns (fun h₂ hn₂ hs₂ => ?_) hp)
  refine ⟨m', hn.sameBut hs₂ hCL, fun h'' hs'' => fin h'' _ ((F'.set hn₂ hs₂).change hs'' hCL hC₀) (fun p hp => ?_)⟩
  have z : h₂.get? p.1 = some p.2 := hs₂.extBut _ _ (N' p hp).2.1 (N' p hp).1
  refine ⟨hs''.extBut _ _ ?_ z, (N' p hp).2⟩
  rcases List.mem_cons.mp hp with rfl | hp
  · exact Ne.symm hCD
  · exact offC p hp

/-- a comprehension whose target an inner one captures -/
noncomputable def CompK (prog : Program) (w : World) (A : Around) (L : Addr) (env : Env) (elt : Expr) (x : Str) (scope : Scope) (cl : List (Str × Addr))
    (Fin : Heap → Addr → (Str → Option Value) → List (Addr × Obj) → Addr → Shared → Prop) (s₁ : Shared) (it : Value) (s₂ : Shared) : Prop :=
  ∃ (h₀ : Heap) (m : Str → Option Value) (news : List (Addr × Obj)) (n : Nat) (P : Nat → Value → Prop) (J : Nat → List Value → List (Addr × Obj) → Prop),
    SrcAt prog w A h₀ L m news n P s₁ it s₂ ∧ n ≤ sizeLine ∧ J 0 [] news ∧
    (∀ i v ys Y I oI C oC K oK D h tk (E' : Value → Shared → Prop), i < n → P i v → J i ys Y → (∀ p ∈ news, p ∈ Y) → Off Y I D [C, K] → C ≠ K → oK.data = .cell (some v) → Fr h₀ L h m → News h₀ L h ((I, oI) :: (C, oC) :: (K, oK) :: (D, LCg.lst ys) :: Y) →
      wpAny (model prog w) A (eval elt (compEnvC scope ((x, K) :: cl) C env)) (TurnE h₀ L m { s₂ with heap := h, toks := tk } I D oI [C, K] [(C, oC), (K, oK)] news ys (J (i + 1))) E' { s₂ with heap := h, toks := tk }) ∧
    (∀ i ys Y, J i ys Y → ys.length ≤ i) ∧
    (∀ D ys Y, J n ys Y → (∀ p ∈ news, p ∈ Y) → (∀ p ∈ Y, p.1 ≠ D) → (∀ p ∈ news, p.1 < D) → Fin h₀ L m ((D, listOf ys.toArray ys.length) :: Y) D s₂)

theorem newEnv_cell {a x f : Str} {scope : Scope} {cl : List (Str × Addr)} {env : Env} {Q : Env → Shared → Prop} (hn : scope.names = [(a, .local), (x, .cell), (f, .free)])
    (h : ∀ h', h' = (s.heap.push { cls := .type "dict", data := .dict #[] }).push { cls := .type "cell", data := .cell none } →
      Q { scope, locals := s.heap.objs.size, globals := env.globals, cells := (x, s.heap.objs.size + 1) :: cl, qual := env.qual, func := none, code := env.code, frame := env.frame, builtins := env.builtins } { s with heap := h' }) :
    wpAny (model prog w) A (newFunctionEnv scope env.globals cl [] env.qual none .none (some env)) Q E s := by
  unfold newFunctionEnv
  rw [hn]
  refine wpAny_bind (wpAny_alloc ?_)
  refine wpAny_bind ?_
  simp only [List.forIn_cons, List.forIn_nil, pure_bind, bind_assoc, show (NameKind.local == NameKind.cell) = false from rfl, show (NameKind.cell == NameKind.cell) = true from rfl, show (NameKind.free == NameKind.cell) = false from rfl, Bool.false_eq_true, if_false, if_true]
  refine wpAny_bind (wpAny_alloc ?_)
  refine wpAny_pure ?_
  refine wpAny_bind (wpAny_pure ?_)
  refine wpAny_pure ?_
  have hz : (s.heap.push ({ cls := .type "dict", data := .dict #[] } : Obj)).objs.size = s.heap.objs.size + 1 := Heap.size_push ..
  have := h _ rfl
  rw [← hz] at this
  exact this

theorem compK_block {elt iter : Expr} {a x f : Str} {px : Pos} {scope : Scope} {cl : List (Str × Addr)} {pos : Pos} {env : Env} {s₁ s₂ : Shared} {it : Value} {RR : Value → Addr → Result → Shared → Prop}
    {Fin : Heap → Addr → (Str → Option Value) → List (Addr × Obj) → Addr → Shared → Prop} (hn : scope.names = [(a, .local), (x, .cell), (f, .free)]) (hkind : scope.kind = .function) (hax : a ≠ x)
    (H : CompK prog w A L env elt x scope cl Fin s₁ it s₂)
    (hRR : ∀ h₀ m D C h tk m' ys Y, Fr h₀ L h m → News h₀ L h ((D, LCg.lst ys) :: Y) → h.Ns C m' → h₀.get? C = none → C ≠ L → C ≠ D → (∀ p ∈ Y, p.1 ≠ C) → Fin h₀ L m ((D, listOf ys.toArray ys.length) :: Y) D s₂ → RR (.ref D) C (.ok .next) { s₂ with heap := h, toks := tk }) :
    wpAny (model prog w) A (newList []) (fun acc s₃ => wpAny (model prog w) A (newFunctionEnv scope env.globals cl [] env.qual none .none (some env)) (fun cenv s₄ =>
      codeAny (model prog w) A (.compStart (.ListComp elt [⟨.Name x px, iter, [], 0⟩] scope pos) 0 it acc { cenv with scope := relabel scope env }) (RR acc cenv.locals) s₄) E s₃) E s₂ := by
  refine e6a6 (H) fun h₀ m news n P J S hsz j0 turn hlen fin => ?_
  clear H
  have hS := S
  refine e3a12 (S.ex) fun I fp St _ _ _ _ _ _ _ _ _ F N zt0 => ?_
  refine e1a1 (zt0) fun g ze1 => ?_
  clear zt0
  subst ze1
  refine wpAny_newObj_type (newEnv_cell hn fun h₁ hh₁ => ?_)
  dsimp only at F N hh₁ ⊢
  generalize hH2 : g.push { cls := .type "list", dict := none, data := .seq ([] : List Value).toArray } = H2 at hh₁ ⊢
  have hC : H2.objs.size = g.objs.size + 1 := by rw [← hH2, Heap.size_push]
  have hH3 : (H2.push ({ cls := .type "dict", data := .dict #[] } : Obj)).objs.size = H2.objs.size + 1 := Heap.size_push ..
  have old2 : ∀ b o, H2.get? b = some o → h₁.get? b = some o := fun b o e => by rw [hh₁]; exact Heap.get?_push_of_some _ (Heap.get?_push_of_some _ e)
  have old : ∀ b o, g.get? b = some o → h₁.get? b = some o := fun b o e => old2 b o (hH2 ▸ Heap.get?_push_of_some _ e)
  have hacc : h₁.get? g.objs.size = some (LCg.lst []) := old2 _ _ (hH2 ▸ Heap.get?_push_size _ rfl)
  have hns : h₁.Ns H2.objs.size (fun _ => none) := by rw [hh₁]; exact (Heap.Ns.new H2 (.type "dict")).at' fun o e => Heap.get?_push_of_some _ e
  have hcl : h₁.IsCell (H2.objs.size + 1) none := ⟨_, by rw [hh₁, ← hH3]; exact Heap.get?_push_size _ rfl, rfl⟩
  generalize H2.objs.size = C at *
  have hkx : (relabel scope env).names.lookup x = some .cell := by
    unfold relabel
    rw [hn]
    have : (x == a) = false := beq_eq_false_iff_ne.mpr (Ne.symm hax)
    simp [List.lookup_cons, this]
  have O : OwnAt prog w A h₀ L news (compEnvC scope ((x, C + 1) :: cl) C env) (.Name x px) P [C, C + 1] (fun h => (∃ m', h.Ns C m') ∧ ∃ v, h.IsCell (C + 1) v) (fun _ v ow => ∃ oC m₂ oK, ow = [(C, oC), (C + 1, oK)] ∧ LCg.NsObj oC m₂ ∧ oK.data = .cell (some v)) := {
    frame := by
      intro h h' zr0 hk
      obtain ⟨⟨m', hn⟩, v, o, e, hd⟩ := zr0
      exact ⟨⟨m', hn.at' fun o e => hk C (.head _) o e⟩, v, o, hk _ (.tail _ (.head _)) o e, hd⟩
    back := by
      intro i v ow h zr0 hp
      obtain ⟨oC, m₂, oK, rfl, hn, hd⟩ := zr0
      exact ⟨⟨m₂, hn.ns (hp _ (.head _))⟩, _, oK, hp _ (.tail _ (.head _)), hd⟩
    inn := by
      intro i v ow zr0 p hp
      obtain ⟨oC, m₂, oK, rfl, _⟩ := zr0
      rcases List.mem_cons.mp hp with rfl | hp
      · exact .head _
      · rw [List.mem_singleton.mp hp]; exact .tail _ (.head _)
    asg := by
      intro i v s' Q E' _ zr0 _ hq
      refine a2 (zr0) fun zt0 zt1 => ?_
      clear zr0
      refine e1a1 (zt0) fun m' hn' => ?_
      clear zt0
      refine e1a1 (zt1) fun v₀ hc => ?_
      clear zt1
      refine wpAny_assign_Name (wpAny_storeName_cell (c := C + 1) (v₀ := v₀) (by simp [compEnvC, relabel, hkind]) hkx (by show List.lookup x ((x, C + 1) :: cl) = _; simp) hc fun h₃ hc₃ hs₃ => ?_)
      obtain ⟨oC, heC, hoC⟩ := LCg.ns_obj (hn'.sameBut hs₃ (Nat.ne_of_lt (Nat.lt_succ_self C)))
      obtain ⟨oK, heK, hoK⟩ := hc₃
      refine hq h₃ _ [(C, oC), (C + 1, oK)] ⟨oC, m', oK, rfl, hoC, hoK⟩ (fun p hp => ?_) fun c o hc e => hs₃.extBut c o (fun q => hc (by rw [q]; exact .tail _ (.head _))) e
      rcases List.mem_cons.mp hp with rfl | hp
      · exact heC
      · rw [List.mem_singleton.mp hp]; exact heK }
  refine comp_core (J := J) (body := fun D => do let _ ← call (.builtin "list.append") [D, ← eval elt (compEnvC scope ((x, C + 1) :: cl) C env)]) (fun it D => compTurn_list elt (.Name x px) iter [] scope pos it D _) hS O old hacc ⟨⟨_, hns⟩, _, hcl⟩ (fun c hc => ?_) j0 ?_ ?_
  · rcases List.mem_cons.mp hc with rfl | hc
    · show g.objs.size < c; (first | lia | omega)
    · rw [List.mem_singleton.mp hc]; show g.objs.size < C + 1; (first | lia | omega)
  · rintro i v ys Y I D oI ow h tk E' hi hP hJ hsub hoff hB how hDI hDc _ F' N'
    have hB' := hB
    refine e3a3 (hB) fun oC m₂ oK ze0 hn₂ hB₂ => ?_
    clear hB
    subst ze0
    refine wpAny_tests_nil ?_
    simp only [if_true]
    exact emit_go (i := i) O hB' hDI hDc (Nat.le_trans (hlen _ _ _ hJ) (Nat.le_trans (Nat.le_of_lt hi) hsz)) (turn i v ys Y I oI C oC (C + 1) oK D h tk E' hi hP hJ hsub hoff (Nat.ne_of_lt (Nat.lt_succ_self C)) hB₂ F' N')
  · intro D h tk ys Y zr0 F' zr1 N' hsub hoff hlt hcs hJ
    obtain rfl := zr0
    obtain ⟨⟨m', hn'⟩, _⟩ := zr1
    have hc := hcs C (.head _)
    exact hRR h₀ m _ _ h tk m' ys Y F' N' hn' hc.2.1 hc.1 hc.2.2 (fun p hp e => (hoff p hp).2 (by rw [e]; exact .head _)) (fin _ ys Y hJ hsub (fun p hp => (hoff p hp).1) hlt)

theorem compK_a {elt iter : Expr} {a x f : Str} {px : Pos} {y : Str} {py : Pos} {scope : Scope} {cl : List (Str × Addr)} {pos spos : Pos} {env : Env} {Q : Flow → Shared → Prop} (hLe : env.locals = L)
    (hsw : swapsWith (.ListComp elt [⟨.Name x px, iter, [], 0⟩] scope pos) (some (.Name y py)) spos.line env = pure true)
    (hclos : closureFor scope env = pure cl) (hn : scope.names = [(a, .local), (x, .cell), (f, .free)]) (hkind : scope.kind = .function) (hax : a ≠ x)
    (hs : ∀ x, foldedSetIterable iter env x = pure x)
    (hy : env.kindOf y = some .local) (hp : (env.scope.kind == .class || (env.scope.kind == .module && env.locals != env.globals)) = false)
    (h : wpAny (model prog w) A (eval iter env) (fun xv s₁ => wpAny (model prog w) A (pyIter xv) (CompK prog w A L env elt x scope cl (CFinA y Q) s₁) E s₁) E s) :
    wpAny (model prog w) A (exec (.Assign [.Name y py] (.ListComp elt [⟨.Name x px, iter, [], 0⟩] scope pos) spos) env) Q E s := by
  subst hLe
  rw [exec_Assign_Name_used _ _ _ _ hsw]
  refine wpAny_bind (wpAny_standAt (wpAny_bind ?_))
  show wpAny _ A (do let _ ← comprehension (.ListComp elt [⟨.Name x px, iter, [], 0⟩] scope pos) scope env _ (newList []) false (eval iter env) (some (assign (.Name y py) env))) _ _ s
  refine wpAny_bind (wpAny_mono (wpAny_comprehension_free (use := some (assign (.Name y py) env)) (Q := fun _ s' => Q .next s') rfl hs hclos hkind (by
      rw [hn]
      intro y hy hl
      simp only [List.mem_cons, List.not_mem_nil, or_false] at hy
      rcases hy with rfl | rfl | rfl
      · simp
      · exact absurd (show NameKind.cell = NameKind.local from hl) (by decide)
      · exact absurd (show NameKind.free = NameKind.local from hl) (by decide))
    (wpAny_mono h (fun xv s₁ h₁ => wpAny_mono h₁ (fun it s₂ h₂ => ?_) fun _ _ e => e) fun _ _ e => e)) (fun _ s' hq => wpAny_pure (wpAny_pure hq)) fun _ _ e => e)
  refine compK_block hn hkind hax h₂ ?_
  intro h₀ m D C h' tk m' ys Y F' N' hn hC₀ hCL hCD offC fin
  show wpAny _ A (assign (.Name y py) env (.ref D)) _ _ _
  refine wpAny_assign_Name (wpAny_storeName_local hy F'.ns (fun h₂ hn₂ hs₂ => ?_) hp)
  refine ⟨m', hn.sameBut hs₂ hCL, fun h'' hs'' => fin h'' _ ((F'.set hn₂ hs₂).change hs'' hCL hC₀) (fun p hp => ?_)⟩
  have z : h₂.get? p.1 = some p.2 := hs₂.extBut _ _ (N' p hp).2.1 (N' p hp).1
  refine ⟨hs''.extBut _ _ ?_ z, (N' p hp).2⟩
  rcases List.mem_cons.mp hp with rfl | hp
  · exact Ne.symm hCD
  · exact offC p hp
/-- a comprehension inside another: its frame is the def's -/
theorem compG_in {elt target iter : Expr} {ifs : List Expr} {scope : Scope} {cl : List (Str × Addr)} {pos : Pos} {env : Env} {Q : Value → Shared → Prop}
    (hF : Fr h₀ L s.heap m) (hclos : closureFor scope env = pure cl) (hcell : ∀ y ∈ scope.names, y.2 ≠ .cell) (hkind : scope.kind = .function)
    (hnames : ∀ y ∈ scope.names, y.2 = .local → scope.names.lookup y.1 = some .local) (hs : ∀ x, foldedSetIterable iter env x = pure x)
    (h : wpAny (model prog w) A (eval iter env) (fun xv s₁ => wpAny (model prog w) A (pyIter xv) (CompG prog w A L env elt target ifs scope cl (CFinE Q) s₁) E s₁) E s) :
    wpAny (model prog w) A (eval (.ListComp elt [⟨target, iter, ifs, 0⟩] scope pos) env) Q E s := by
  have _ := hF
  rw [eval_ListComp]
  refine wpAny_comprehension_free (use := none) rfl hs hclos hkind hnames (wpAny_mono h (fun xv s₁ h₁ => wpAny_mono h₁ (fun it s₂ h₂ => ?_) fun _ _ e => e) fun _ _ e => e)
  refine compG_block hcell hkind h₂ ?_
  intro h₀ m D C h tk m' ys Y F' N' hn hC₀ hCL hCD offC fin
  refine ⟨m', hn, fun h'' hs'' => fin h'' tk (F'.change hs'' hCL hC₀) (fun p hp => ?_)⟩
  refine ⟨hs''.extBut _ _ ?_ (N' p hp).1, (N' p hp).2⟩
  rcases List.mem_cons.mp hp with rfl | hp
  · exact Ne.symm hCD
  · exact offC p hp
end
end Mine
end
section
set_option maxRecDepth 100000
set_option maxHeartbeats 8000000
namespace Mine




theorem bisL_call0 (w : World) (news : List (Addr × Obj)) (x : Int) (t1 : Tok) (l : Addr) (vs : List Value) (ns : List Int) (n : Nat) (hi : IntsAre vs ns) (hn : ns.length < 1000) (hs : Srt ns) :
    Call1 1 w 50 ((l, listOf vs.toArray n) :: news) [.ref l, .int x t1] (fun v news' => (∃ t, v = .int (cL ns x) t) ∧ news' = (l, listOf vs.toArray n) :: news) := by
  have hrow : PySem.Challenge.rw_ty0036_02.most = some 63 := rfl
  unfold Call1
  revert hrow
  k_with_none
  w_top off
  k_with "storeName" => ((k_here; k_dflt (refine' storeX_Lf ?zqeg ?zqed ?zqeo ?zqet ?zqF ?zqN ?_ ?zqa ?zqb; (case zqeg => dsimp only); (case zqed => dsimp only); (case zqeo => dsimp only); (case zqet => dsimp only); (case zqF => k_asm); (case zqN => k_asm); (case zqa => rfl); (case zqb => rfl); k_whole; intro h' F' N'; (try k_sweep))))
  k_with "tb_start" => (k_dflt (first
  | (refine' code_def ?zqk1 ?zqk2 ?zqk3 ?zqk4 ?zqk5 ?zqkA ?zqkF ?zqkK ?zqk6 ?zqk7 ?zqk8 ?zqk9 ?zqkB ?_ ?zqc2 ?zqc3 ?zqc4 ?zqc5; (case zqkA => exact rfl); (case zqkF => exact rfl); (case zqkK => assumption); (case zqk1 => k_asm); (case zqk2 => k_asm); (case zqk3 => k_asm); (case zqk4 => k_asm); (case zqk5 => k_asm); (case zqk6 => k_is); (case zqk7 => k_is); (case zqk8 => ktr_room); (case zqk9 => first | exact BindsTo.of_eq rfl | (refine' kp_binds ?zqkx ?zqke; (case zqkx => k_in); (case zqke => exact fun _ => rfl))); (case zqc5 => decide); (case zqkB => exact locs rfl); (case zqc2 => exact rfl); (case zqc3 => exact rfl); (case zqc4 => exact rfl); k_whole; intro g' L' h' FG' F' N' B' X' T'; (try dsimp only); (try k_lift B'); (try k_fold))
  | (refine' code_defC ?zqk1 ?zqk2 ?zqk3 ?zqk4 ?zqk5 ?zqkA ?zqkF ?zqkK ?zqk6 ?zqk7 ?zqk8 ?zqk9 ?zqkB ?zqkD ?_ ?zqc2 ?zqc3 ?zqc4; (case zqkA => exact rfl); (case zqkF => exact rfl); (case zqkK => assumption); (case zqk1 => k_asm); (case zqk2 => k_asm); (case zqk3 => k_asm); (case zqk4 => k_asm); (case zqk5 => k_asm); (case zqk6 => k_is); (case zqk7 => k_is); (case zqk8 => ktr_room); (case zqk9 => first | exact BindsTo.of_eq rfl | (refine' kp_binds ?zqkx ?zqke; (case zqkx => k_in); (case zqke => exact fun _ => rfl))); (case zqkB => exact rfl); (case zqkD => decide +kernel); (case zqc2 => exact rfl); (case zqc3 => exact rfl); (case zqc4 => exact rfl); k_whole; intro g' L' h' tk' cells' FG' F' N' Y' B' X' T' l1; (try k_lt l1); k_cells Y'; (try simp only [List.cons_append, List.nil_append] at N'); (try dsimp only); (try k_lift B'); (try k_fold))))
  k_with "k_all" => (first | assumption | exact all_ne (by assumption) (by omega) | fail)
  k_fill
  intro hrow
  clear hrow
  intro p loose mean mg mb dp un gd cn cs a ccd cl outer A₀ base h₀ L m s Q E B F X N T hk hdp hun hret
  refine wpAny_call ?_
  k_extra "tb_start"
  refine tok_gen fun tk0 => ?_
  (k_with "exec While Compare cons nil" => k_while (fun ns lo hi => 0 ≤ lo ∧ lo ≤ hi ∧ hi ≤ (ns.length : Int) ∧ BL x ns lo hi) (fun _ lo hi => (hi - lo).toNat) "lo" "hi")
  (k_with "state" => first | exact bl_start _ _ | exact bl_up (by assumption) (by assumption) (by assumption) (by assumption) (by assumption) (by assumption) (by assumption) | exact bl_dn (by assumption) (by assumption) (by assumption) (by assumption) (by assumption) (by assumption) (by assumption))
  (k_with "measure" => first | exact mid_less1 (by assumption) | exact mid_less2 (by assumption))
  k_steps
  all_goals exact hret _ _ _ _ ⟨ktn_int (bl_end (by assumption) (by assumption) (by assumption) (by assumption) (by assumption)), rfl⟩ (by k_asm) (by k_asm)
theorem bisL_call (w : World) (news : List (Addr × Obj)) (x : Int) (t1 : Tok) (l : Addr) (vs : List Value) (ns : List Int) (n : Nat) (hl : (l, listOf vs.toArray n) ∈ news) (hi : IntsAre vs ns) (hn : ns.length < 1000) (hs : Srt ns) :
    Call1 1 w 50 news [.ref l, .int x t1] (fun v news' => (∃ t, v = .int (cL ns x) t) ∧ news' = news) :=
  (bisL_call0 w news x t1 l vs ns n hi hn hs).weak (List.forall_mem_cons.mpr ⟨hl, fun _ h => h⟩) (fun _ _ hr => ⟨news, ⟨hr.1, rfl⟩, fun _ hp => hr.2 ▸ .tail _ hp⟩)

theorem bisL4_call0 (w : World) (news : List (Addr × Obj)) (x : Int) (t1 t2 : Tok) (l : Addr) (vs : List Value) (ns : List Int) (n : Nat) (hi : IntsAre vs ns) (hn : ns.length < 1000) (hs : Srt ns) :
    Call1 1 w 50 ((l, listOf vs.toArray n) :: news) [.ref l, .int x t1, .int 0 t2, .none] (fun v news' => (∃ t, v = .int (cL ns x) t) ∧ news' = (l, listOf vs.toArray n) :: news) := by
  have hrow : PySem.Challenge.rw_ty0036_02.most = some 63 := rfl
  unfold Call1
  revert hrow
  k_with_none
  w_top off
  k_with "storeName" => ((k_here; k_dflt (refine' storeX_Lf ?zqeg ?zqed ?zqeo ?zqet ?zqF ?zqN ?_ ?zqa ?zqb; (case zqeg => dsimp only); (case zqed => dsimp only); (case zqeo => dsimp only); (case zqet => dsimp only); (case zqF => k_asm); (case zqN => k_asm); (case zqa => rfl); (case zqb => rfl); k_whole; intro h' F' N'; (try k_sweep))))
  k_with "tb_start" => (k_dflt (first
  | (refine' code_def ?zqk1 ?zqk2 ?zqk3 ?zqk4 ?zqk5 ?zqkA ?zqkF ?zqkK ?zqk6 ?zqk7 ?zqk8 ?zqk9 ?zqkB ?_ ?zqc2 ?zqc3 ?zqc4 ?zqc5; (case zqkA => exact rfl); (case zqkF => exact rfl); (case zqkK => assumption); (case zqk1 => k_asm); (case zqk2 => k_asm); (case zqk3 => k_asm); (case zqk4 => k_asm); (case zqk5 => k_asm); (case zqk6 => k_is); (case zqk7 => k_is); (case zqk8 => ktr_room); (case zqk9 => first | exact BindsTo.of_eq rfl | (refine' kp_binds ?zqkx ?zqke; (case zqkx => k_in); (case zqke => exact fun _ => rfl))); (case zqc5 => decide); (case zqkB => exact locs rfl); (case zqc2 => exact rfl); (case zqc3 => exact rfl); (case zqc4 => exact rfl); k_whole; intro g' L' h' FG' F' N' B' X' T'; (try dsimp only); (try k_lift B'); (try k_fold))
  | (refine' code_defC ?zqk1 ?zqk2 ?zqk3 ?zqk4 ?zqk5 ?zqkA ?zqkF ?zqkK ?zqk6 ?zqk7 ?zqk8 ?zqk9 ?zqkB ?zqkD ?_ ?zqc2 ?zqc3 ?zqc4; (case zqkA => exact rfl); (case zqkF => exact rfl); (case zqkK => assumption); (case zqk1 => k_asm); (case zqk2 => k_asm); (case zqk3 => k_asm); (case zqk4 => k_asm); (case zqk5 => k_asm); (case zqk6 => k_is); (case zqk7 => k_is); (case zqk8 => ktr_room); (case zqk9 => first | exact BindsTo.of_eq rfl | (refine' kp_binds ?zqkx ?zqke; (case zqkx => k_in); (case zqke => exact fun _ => rfl))); (case zqkB => exact rfl); (case zqkD => decide +kernel); (case zqc2 => exact rfl); (case zqc3 => exact rfl); (case zqc4 => exact rfl); k_whole; intro g' L' h' tk' cells' FG' F' N' Y' B' X' T' l1; (try k_lt l1); k_cells Y'; (try simp only [List.cons_append, List.nil_append] at N'); (try dsimp only); (try k_lift B'); (try k_fold))))
  k_with "k_all" => (first | assumption | exact all_ne (by assumption) (by omega) | fail)
  k_fill
  intro hrow
  clear hrow
  intro p loose mean mg mb dp un gd cn cs a ccd cl outer A₀ base h₀ L m s Q E B F X N T hk hdp hun hret
  refine wpAny_call ?_
  k_extra "tb_start"
  refine tok_gen fun tk0 => ?_
  (k_with "exec While Compare cons nil" => k_while (fun ns lo hi => 0 ≤ lo ∧ lo ≤ hi ∧ hi ≤ (ns.length : Int) ∧ BL x ns lo hi) (fun _ lo hi => (hi - lo).toNat) "lo" "hi")
  (k_with "state" => first | exact bl_start _ _ | exact bl_up (by assumption) (by assumption) (by assumption) (by assumption) (by assumption) (by assumption) (by assumption) | exact bl_dn (by assumption) (by assumption) (by assumption) (by assumption) (by assumption) (by assumption) (by assumption))
  (k_with "measure" => first | exact mid_less1 (by assumption) | exact mid_less2 (by assumption))
  k_steps
  all_goals exact hret _ _ _ _ ⟨ktn_int (bl_end (by assumption) (by assumption) (by assumption) (by assumption) (by assumption)), rfl⟩ (by k_asm) (by k_asm)
theorem bisL4_call (w : World) (news : List (Addr × Obj)) (x : Int) (t1 t2 : Tok) (l : Addr) (vs : List Value) (ns : List Int) (n : Nat) (hl : (l, listOf vs.toArray n) ∈ news) (hi : IntsAre vs ns) (hn : ns.length < 1000) (hs : Srt ns) :
    Call1 1 w 50 news [.ref l, .int x t1, .int 0 t2, .none] (fun v news' => (∃ t, v = .int (cL ns x) t) ∧ news' = news) :=
  (bisL4_call0 w news x t1 t2 l vs ns n hi hn hs).weak (List.forall_mem_cons.mpr ⟨hl, fun _ h => h⟩) (fun _ _ hr => ⟨news, ⟨hr.1, rfl⟩, fun _ hp => hr.2 ▸ .tail _ hp⟩)

end Mine
end
section
set_option maxRecDepth 100000
set_option maxHeartbeats 8000000
namespace Mine











theorem insL_call (w : World) (news : List (Addr × Obj)) (x : Int) (t1 : Tok) (l : Addr) (vs : List Value) (ns : List Int) (n : Nat) (hi : IntsAre vs ns) (hn : ns.length < 900) (hs : Srt ns) (hne : ∀ p ∈ news, p.1 ≠ l) :
    Call1 3 w 41 ((l, listOf vs.toArray n) :: news) [.ref l, .int x t1] (fun v news' => v = .none ∧ news' = (l, listOf (insV vs (cL ns x) (.int x t1)).toArray (n + 1)) :: news) := by
  have hvl : vs.length = ns.length := hi.length
  have hcl := cL_le ns x
  have hrow : PySem.Challenge.rw_ty0036_02.most = some 63 := rfl
  unfold Call1
  revert hrow
  k_with_none
  w_top off
  k_with "storeName" => ((k_here; k_dflt (refine' storeX_Lf ?zqeg ?zqed ?zqeo ?zqet ?zqF ?zqN ?_ ?zqa ?zqb; (case zqeg => dsimp only); (case zqed => dsimp only); (case zqeo => dsimp only); (case zqet => dsimp only); (case zqF => k_asm); (case zqN => k_asm); (case zqa => rfl); (case zqb => rfl); k_whole; intro h' F' N'; (try k_sweep))))
  k_with "tb_start" => (k_dflt (first
  | (refine' code_def ?zqk1 ?zqk2 ?zqk3 ?zqk4 ?zqk5 ?zqkA ?zqkF ?zqkK ?zqk6 ?zqk7 ?zqk8 ?zqk9 ?zqkB ?_ ?zqc2 ?zqc3 ?zqc4 ?zqc5; (case zqkA => exact rfl); (case zqkF => exact rfl); (case zqkK => assumption); (case zqk1 => k_asm); (case zqk2 => k_asm); (case zqk3 => k_asm); (case zqk4 => k_asm); (case zqk5 => k_asm); (case zqk6 => k_is); (case zqk7 => k_is); (case zqk8 => ktr_room); (case zqk9 => first | exact BindsTo.of_eq rfl | (refine' kp_binds ?zqkx ?zqke; (case zqkx => k_in); (case zqke => exact fun _ => rfl))); (case zqc5 => decide); (case zqkB => exact locs rfl); (case zqc2 => exact rfl); (case zqc3 => exact rfl); (case zqc4 => exact rfl); k_whole; intro g' L' h' FG' F' N' B' X' T'; (try dsimp only); (try k_lift B'); (try k_fold))
  | (refine' code_defC ?zqk1 ?zqk2 ?zqk3 ?zqk4 ?zqk5 ?zqkA ?zqkF ?zqkK ?zqk6 ?zqk7 ?zqk8 ?zqk9 ?zqkB ?zqkD ?_ ?zqc2 ?zqc3 ?zqc4; (case zqkA => exact rfl); (case zqkF => exact rfl); (case zqkK => assumption); (case zqk1 => k_asm); (case zqk2 => k_asm); (case zqk3 => k_asm); (case zqk4 => k_asm); (case zqk5 => k_asm); (case zqk6 => k_is); (case zqk7 => k_is); (case zqk8 => ktr_room); (case zqk9 => first | exact BindsTo.of_eq rfl | (refine' kp_binds ?zqkx ?zqke; (case zqkx => k_in); (case zqke => exact fun _ => rfl))); (case zqkB => exact rfl); (case zqkD => decide +kernel); (case zqc2 => exact rfl); (case zqc3 => exact rfl); (case zqc4 => exact rfl); k_whole; intro g' L' h' tk' cells' FG' F' N' Y' B' X' T' l1; (try k_lt l1); k_cells Y'; (try simp only [List.cons_append, List.nil_append] at N'); (try dsimp only); (try k_lift B'); (try k_fold))))
  k_with "call ref" => ((k_here; (with_reducible show wpAny _ _ (call (Value.ref 50) [Value.ref _, Value.int _ _, Value.int 0 _, Value.none]) _ _ _); k_dflt (refine' Call1.useI (bisL4_call _ _ _ _ _ _ _ _ _ ?zqhl ?zqhi ?zqhn ?zqhs) ?zqk1 ?zqk2 ?zqk3 ?zqk4 ?zqk5 ?zqkK ?zqkd ?zqku ?_; (case zqk1 => k_asm); (case zqk2 => k_asm); (case zqk3 => k_asm); (case zqk4 => k_asm); (case zqk5 => k_asm); (case zqkK => first | exact rfl | assumption); (case zqhl => k_mem); (case zqhi => l_ints); (case zqhn => omega); (case zqhs => assumption); (case zqkd => ktr_room); (case zqku => ktr_units); intro h9 tk9 F9 N9 t9; (try dsimp only); (try k_fold))))
  k_with "call ref" => ((k_here; (with_reducible show wpAny _ _ (call (Value.ref 32) [Value.ref _, Value.int _ _, Value.int 0 _, Value.none]) _ _ _); k_dflt (refine' Call1.useI (bisR4_call _ _ _ _ _ _ _ _ _ ?zqhl ?zqhi ?zqhn ?zqhs) ?zqk1 ?zqk2 ?zqk3 ?zqk4 ?zqk5 ?zqkK ?zqkd ?zqku ?_; (case zqk1 => k_asm); (case zqk2 => k_asm); (case zqk3 => k_asm); (case zqk4 => k_asm); (case zqk5 => k_asm); (case zqkK => first | exact rfl | assumption); (case zqhl => k_mem); (case zqhi => l_ints); (case zqhn => omega); (case zqhs => assumption); (case zqkd => ktr_room); (case zqku => ktr_units); intro h9 tk9 F9 N9 t9; (try dsimp only); (try k_fold))))
  k_with "k_all" => (first | assumption | exact all_ne (by assumption) (by omega) | fail)
  k_fill
  intro hrow
  clear hrow
  intro p loose mean mg mb dp un gd cn cs a ccd cl outer A₀ base h₀ L m s Q E B F X N T hk hdp hun hret
  refine wpAny_call ?_
  k_extra "tb_start"
  refine tok_gen fun tk0 => ?_
  (k_with "call builtin:list.insert" => (refine' my_insert ?F ?N ?m ?k ?v ?U ?_; (case F => k_asm); (case N => k_asm); (case m => k_mem); (case U => k_upd); (case k => (first | lia | omega)); (case v => (first | lia | omega)); intro h' F' N'; (try dsimp only [List.nil_append, List.cons_append] at N')))
  k_steps
  all_goals exact hret _ _ _ _ ⟨rfl, rfl⟩ (by k_asm) (by k_asm)

end Mine
end
section
set_option maxRecDepth 100000
set_option maxHeartbeats 8000000
namespace Mine

/-- what a call with a keyword does -/
noncomputable def CallW (r : Nat) (w : World) (f : Addr) (news : List (Addr × Obj)) (vs : List Value) (kw : List (Str × Value)) (R : (Value → List (Addr × Obj) → Prop)) : Prop :=
  ∀ (p : Program) (loose : List Str) (mean : ExcName → Option Value) (mg mb : Str → Option Value)
    (dp un : Nat) (gd : Option (List Code)) (cn : Str) (cs : Scope) (a : Addr) (ccd : Value) (cl : List (Str × Addr)) (outer : List Env) (A₀ : Around) (base h₀ : Heap) (L : Addr) (m : Str → Option Value) (s : Shared) (Q E : Value → Shared → Prop),
    Below A₀ base outer h₀ → Fr h₀ L s.heap m → (hd2.heap_1 w.params).In h₀ → News h₀ L s.heap news → Top p loose mean mg mb h₀ → cs.kind = .function →
    dp + r < recursionLimit → un + 8 * r < cLine →
    (∀ (v : Value) (news' : List (Addr × Obj)) (h' : Heap) (tk' : Nat), R v news' → Fr h₀ L h' m → News h₀ L h' news' → Q v { s with heap := h', toks := tk' }) →
    wpAny (model P1 w) (ktrTop dp un gd cn cs L a ccd cl outer) (call (.ref f) vs kw) Q E s
theorem CallW.weak {r : Nat} {w : World} {f : Addr} {need news : List (Addr × Obj)} {vs : List Value} {kw : List (Str × Value)} {R R' : Value → List (Addr × Obj) → Prop} (h : CallW r w f need vs kw R) (hs : ∀ p ∈ need, p ∈ news)
    (hR : ∀ v n', R v n' → ∃ n'', R' v n'' ∧ ∀ p ∈ n'', p ∈ n') : CallW r w f news vs kw R' := by
  intro p loose mean mg mb dp un gd cn cs a ccd cl outer A₀ base h₀ L m s Q E B F X N T hk hdp hun hret
  refine h p loose mean mg mb dp un gd cn cs a ccd cl outer A₀ base h₀ L m s Q E B F X (fun q hq => N q (hs q hq)) T hk hdp hun ?_
  intro v n' h' tk' hr F' N'
  obtain ⟨n'', hr', hsub⟩ := hR v n' hr
  exact hret v n'' h' tk' hr' F' (fun q hq => N' q (hsub q hq))
theorem CallW.use {r : Nat} {w : World} {f : Addr} {news : List (Addr × Obj)} {vs : List Value} {kw : List (Str × Value)} {R : Value → List (Addr × Obj) → Prop} (C : CallW r w f news vs kw R)
    {p : Program} {loose : List Str} {mean : ExcName → Option Value} {mg mb : Str → Option Value}
    {dp un : Nat} {gd : Option (List Code)} {cn : Str} {cs : Scope} {a : Addr} {ccd : Value} {cl : List (Str × Addr)} {outer : List Env} {A₀ : Around} {base h₀ : Heap} {L : Addr} {m : Str → Option Value} {s : Shared} {Q E : Value → Shared → Prop}
    (B : Below A₀ base outer h₀) (F : Fr h₀ L s.heap m) (X : (hd2.heap_1 w.params).In h₀) (N : News h₀ L s.heap news) (T : Top p loose mean mg mb h₀) (hk : cs.kind = .function)
    (hd : dp + r < recursionLimit) (hu : un + 8 * r < cLine)
    (ret : ∀ (v : Value) (news' : List (Addr × Obj)) (h' : Heap) (tk' : Nat), R v news' → Fr h₀ L h' m → News h₀ L h' news' → Q v { s with heap := h', toks := tk' }) :
    wpAny (model P1 w) (ktrTop dp un gd cn cs L a ccd cl outer) (call (.ref f) vs kw) Q E s :=
  C _ _ _ _ _ _ _ _ _ _ _ _ _ _ _ _ _ _ _ _ _ _ B F X N T hk hd hu ret
theorem CallW.useI {r : Nat} {w : World} {f : Addr} {news : List (Addr × Obj)} {vs : List Value} {kw : List (Str × Value)} {x : Int} (C : CallW r w f news vs kw (fun v n' => (∃ t, v = .int x t) ∧ n' = news))
    {p : Program} {loose : List Str} {mean : ExcName → Option Value} {mg mb : Str → Option Value}
    {dp un : Nat} {gd : Option (List Code)} {cn : Str} {cs : Scope} {a : Addr} {ccd : Value} {cl : List (Str × Addr)} {outer : List Env} {A₀ : Around} {base h₀ : Heap} {L : Addr} {m : Str → Option Value} {s : Shared} {Q E : Value → Shared → Prop}
    (B : Below A₀ base outer h₀) (F : Fr h₀ L s.heap m) (X : (hd2.heap_1 w.params).In h₀) (N : News h₀ L s.heap news) (T : Top p loose mean mg mb h₀) (hk : cs.kind = .function)
    (hd : dp + r < recursionLimit) (hu : un + 8 * r < cLine)
    (ret : ∀ (h' : Heap) (tk' : Nat), Fr h₀ L h' m → News h₀ L h' news → ∀ t, Q (.int x t) { s with heap := h', toks := tk' }) :
    wpAny (model P1 w) (ktrTop dp un gd cn cs L a ccd cl outer) (call (.ref f) vs kw) Q E s :=
  C _ _ _ _ _ _ _ _ _ _ _ _ _ _ _ _ _ _ _ _ _ _ B F X N T hk hd hu fun _ _ h' tk' R F' N' => R.1.elim fun t e => e ▸ ret h' tk' F' (R.2 ▸ N') t
section
variable {prog : Program} {w : World} {A : Around} {E : Value → Shared → Prop} {s : Shared} {env : Env} {h₀ : Heap} {L : Addr} {m : Str → Option Value} {news : List (Addr × Obj)} {Q : Flow → Shared → Prop}
/-- a while, with what holds behind it told apart -/
theorem while_rule2 {test : Expr} {body : List Stmt} {pos : Pos} (J : Nat → (Str → Option Value) → Prop) (K : (Str → Option Value) → Prop) {n₀ : Nat} (F : Fr h₀ L s.heap m) (N : News h₀ L s.heap news) (j : J n₀ m)
    (turn : ∀ n m₁ h₁ tk₁ (E' : Value → Shared → Prop), Fr h₀ L h₁ m₁ → News h₀ L h₁ news → J n m₁ →
      wpAny (model prog w) A (isTrue test env (eval test env)) (fun b s₂ => if b = true then wpAny (model prog w) A (execs body env) (WStep h₀ L news { s with heap := h₁, toks := tk₁ } J n) E' s₂ else WOut h₀ L news { s with heap := h₁, toks := tk₁ } (fun _ => K) s₂) E' { s with heap := h₁, toks := tk₁ })
    (done : ∀ m₁ h₁ tk₁, Fr h₀ L h₁ m₁ → News h₀ L h₁ news → K m₁ → Q .next { s with heap := h₁, toks := tk₁ }) :
    wpAny (model prog w) A (exec (.While test body [] pos) env) Q E s := by
  refine wpAny_While (codeAny_whileLoop (fun n s' => ∃ h₁ tk₁ m₁, s' = { s with heap := h₁, toks := tk₁ } ∧ Fr h₀ L h₁ m₁ ∧ News h₀ L h₁ news ∧ J n m₁) ?_ n₀ ⟨s.heap, s.toks, m, rfl, F, N, j⟩)
  intro n s' zr0
  refine e3a4 (zr0) fun h₁ tk₁ m₁ ze0 F₁ N₁ J₁ => ?_
  clear zr0
  subst ze0
  refine wpAny_mono (turn n m₁ h₁ tk₁ _ F₁ N₁ J₁) (fun b s₂ h₂ => ?_) fun _ _ e => e
  cases b with
  | false =>
    simp only [Bool.false_eq_true, if_false] at h₂ ⊢
    refine e4a4 (h₂) fun h' tk m₂ n' ze0 F₂ N₂ J₂ => ?_
    clear h₂
    subst ze0
    exact wpAny_execs_nil (done m₂ h' tk F₂ N₂ J₂)
  | true =>
    simp only [if_true] at h₂ ⊢
    refine wpAny_mono h₂ (fun f s₃ h₃ => ?_) fun _ _ e => e
    refine a2 (h₃) fun ze0 zt1 => ?_
    clear h₃
    subst ze0
    refine e4a5 (zt1) fun h' tk m₂ n' ze2 F₂ N₂ hn J₂ => ?_
    clear zt1
    subst ze2
    exact ⟨n', hn, h', tk, m₂, rfl, F₂, N₂, J₂⟩
end
section
variable {prog : Program} {w : World} {A : Around} {E : Value → Shared → Prop} {s : Shared} {h₀ : Heap} {L D : Addr} {news : List (Addr × Obj)} {vs : List Value} {n : Nat}
/-- an item of a made list -/
theorem sub_at {k : Int} {u : Tok} {x : Value} {value slice : PySem.Expr} {Q : Value → Shared → Prop} (N : News h₀ L s.heap news) (hm : (D, listOf vs.toArray n) ∈ news)
    (h0 : 0 ≤ k) (hfit : k < 2 ^ 63) (hx : vs[k.toNat]? = some x) (h : Q x s)
    (hs : subscripted slice false (.ref D) (.int k u) = operate [.ref D, .int k u] (getItem (.ref D) (.int k u))) :
    wpAny (model prog w) A (subscriptTail value slice (.ref D) (.int k u)) Q E s :=
  item_listR (items := vs.toArray) (PySem.IsL.isList (n := n) (N _ hm).1) h0 hfit (by simpa using hx) h hs
/-- a made list's length -/
theorem len_at {Q : Value → Shared → Prop} (N : News h₀ L s.heap news) (hm : (D, listOf vs.toArray n) ∈ news) (hb : vs.length < 2 ^ 20) (h : ∀ t tk, Q (.int (vs.length : Int) t) { s with toks := tk }) :
    wpAny (model prog w) A (call (.builtin "len") [.ref D]) Q E s :=
  len_list (items := vs.toArray) (PySem.IsL.isList (n := n) (N _ hm).1) (by rw [List.size_toArray]; omega) (by rw [List.size_toArray]; exact h _ _)
end
end Mine
end
section
namespace Mine
/-- values and what they stand for, one by one -/
inductive Are {α : Type} (R : Value → α → Prop) : List Value → List α → Prop
  | nil : Are R [] []
  | cons {v x vs xs} : R v x → Are R vs xs → Are R (v :: vs) (x :: xs)
namespace Are
variable {α : Type} {R R' : Value → α → Prop} {vs ws : List Value} {xs ys : List α}
theorem len (h : Are R vs xs) : vs.length = xs.length := by induction h with
  | nil => rfl
  | cons _ _ ih => simp [ih]
theorem imp (h : Are R vs xs) (f : ∀ v x, R v x → R' v x) : Are R' vs xs := by induction h with
  | nil => exact .nil
  | cons a _ ih => exact .cons (f _ _ a) ih
theorem app (h : Are R vs xs) (h' : Are R ws ys) : Are R (vs ++ ws) (xs ++ ys) := by induction h with
  | nil => exact h'
  | cons a _ ih => exact .cons a ih
theorem snoc (h : Are R vs xs) {v : Value} {x : α} (a : R v x) : Are R (vs ++ [v]) (xs ++ [x]) := h.app (.cons a .nil)
theorem get (h : Are R vs xs) : ∀ {i : Nat} {v : Value}, vs[i]? = some v → ∃ x, xs[i]? = some x ∧ R v x := by
  induction h with
  | nil => intro i v e; simp at e
  | cons a _ ih =>
    intro i v e
    cases i with
    | zero => simp at e; subst e; exact ⟨_, rfl, a⟩
    | succ i => exact ih e
theorem get' (h : Are R vs xs) {i : Nat} {x : α} (e : xs[i]? = some x) : ∃ v, vs[i]? = some v ∧ R v x := by
  have hi : i < vs.length := by rw [h.len]; exact (List.getElem?_eq_some_iff.mp e).1
  obtain ⟨y, hy, r⟩ := h.get (List.getElem?_eq_getElem hi)
  rw [e] at hy
  cases hy
  exact ⟨_, List.getElem?_eq_getElem hi, r⟩
theorem takeM (h : Are R vs xs) (k : Nat) : Are R (vs.take k) (xs.take k) := by induction h generalizing k with
  | nil => simp; exact .nil
  | cons a _ ih => cases k with
    | zero => exact .nil
    | succ k => exact .cons a (ih k)
theorem dropM (h : Are R vs xs) (k : Nat) : Are R (vs.drop k) (xs.drop k) := by induction h generalizing k with
  | nil => simp; exact .nil
  | cons a h ih => cases k with
    | zero => exact .cons a h
    | succ k => exact ih k
theorem ins (h : Are R vs xs) (k : Nat) {v : Value} {x : α} (a : R v x) : Are R (insV vs k v) (xs.take k ++ x :: xs.drop k) := (h.takeM k).app (.cons a (h.dropM k))
theorem of_ints {ns : List Int} (h : IntsAre vs ns) : Are (fun v n => ∃ t, v = .int n t) vs ns := by induction h with
  | nil => exact .nil
  | cons n t _ ih => exact .cons ⟨t, rfl⟩ ih
end Are
end Mine
end
local macro_rules | `(tactic| walk_at "pm3") => `(tactic| (intro t9 tk9))
local macro_rules | `(tactic| walk_at "pm4") => `(tactic| (intro h9 tk9 F9 N9 t9))
section
set_option maxRecDepth 100000
set_option maxHeartbeats 8000000
namespace Mine

/-- what a key function does with the items of a row -/
noncomputable def KeyAt (w : World) (f : Addr) (news : List (Addr × Obj)) (vs : List Value) (ks : List Int) : Prop := (∃ oc od fd sl, (f, (⟨oc, od, .func fd, sl⟩ : Obj)) ∈ news) ∧ ks.length = vs.length ∧ ∀ (i : Nat) (v : Value) (k : Int), vs[i]? = some v → ks[i]? = some k → Call1 1 w f news [v] (fun y news' => (∃ t, y = .int k t) ∧ news' = news)
noncomputable def BisJ (l f : Addr) (x : Int) (t1 : Tok) (ks : List Int) (n : Nat) (m : Str → Option Value) : Prop :=
  ∃ (lo hi : Int) (tl th : Tok), m (S' "a") = some (.ref l) ∧ m (S' "x") = some (.int x t1) ∧ m (S' "key") = some (.ref f) ∧ m (S' "lo") = some (.int lo tl) ∧ m (S' "hi") = some (.int hi th) ∧ 0 ≤ lo ∧ lo ≤ hi ∧ hi ≤ (ks.length : Int) ∧ BR x ks lo hi ∧ n = (hi - lo).toNat
theorem key_item {vs : List Value} {ks : List Int} (h : ks.length = vs.length) (hb : ks.length < 1000) {lo hi : Int} (h1 : 0 ≤ lo) (h2 : lo < hi) (h3 : hi ≤ (ks.length : Int)) : ∃ v, vs[((lo + hi).fdiv 2).toNat]? = some v ∧ ks[((lo + hi).fdiv 2).toNat]? = some (ks.getD ((lo + hi).fdiv 2).toNat 0) ∧ 0 ≤ (lo + hi).fdiv 2 ∧ (lo + hi).fdiv 2 < 2 ^ 63 := by
  rw [mid_eq]
  have e : ((lo + hi) / 2).toNat < ks.length := by (first | lia | omega)
  refine ⟨vs[((lo + hi) / 2).toNat]'(by (first | lia | omega)), List.getElem?_eq_getElem _, ?_, by (first | lia | omega), by (first | lia | omega)⟩
  rw [List.getElem?_eq_getElem e, List.getD_eq_getElem?_getD, List.getElem?_eq_getElem e]
  rfl
section
variable {h₀ h' : Heap} {L l f : Addr} {s : Shared} {news : List (Addr × Obj)} {m : Str → Option Value} {x lo hi z : Int} {t1 tl th : Tok} {ks : List Int} {n tk : Nat}
theorem BisJ.start {c : Int} (a1 : m (S' "a") = some (.ref l)) (a2 : m (S' "x") = some (.int x t1)) (a3 : m (S' "key") = some (.ref f)) (a4 : m (S' "lo") = some (.int 0 tl)) (a5 : m (S' "hi") = some (.int c th)) (hc : c = (ks.length : Int)) : BisJ l f x t1 ks ks.length m := by
  subst hc
  exact ⟨0, _, tl, th, a1, a2, a3, a4, a5, (br_start x ks).1, (br_start x ks).2.1, (br_start x ks).2.2.1, (br_start x ks).2.2.2, by (first | lia | omega)⟩
theorem BisJ.up (F : Fr h₀ L h' m) (N : News h₀ L h' news) (a1 : m (S' "a") = some (.ref l)) (a2 : m (S' "x") = some (.int x t1)) (a3 : m (S' "key") = some (.ref f)) (a4 : m (S' "lo") = some (.int ((lo + hi).fdiv 2 + 1) tl)) (a5 : m (S' "hi") = some (.int hi th))
    (hs : Srt ks) (b1 : 0 ≤ lo) (b2 : lo ≤ hi) (b3 : hi ≤ (ks.length : Int)) (b4 : BR x ks lo hi) (hlt : lo < hi) (hx : ¬ x < ks.getD ((lo + hi).fdiv 2).toNat 0) (hn : n = (hi - lo).toNat) : WStep h₀ L news s (BisJ l f x t1 ks) n .next { s with heap := h', toks := tk } := by
  obtain ⟨c1, c2, c3, c4⟩ := br_up hs b1 b2 b3 b4 hlt hx
  exact .intro _ F N (hn ▸ mid_less1 hlt) ⟨_, _, tl, th, a1, a2, a3, a4, a5, c1, c2, c3, c4, rfl⟩
theorem BisJ.dn (F : Fr h₀ L h' m) (N : News h₀ L h' news) (a1 : m (S' "a") = some (.ref l)) (a2 : m (S' "x") = some (.int x t1)) (a3 : m (S' "key") = some (.ref f)) (a4 : m (S' "lo") = some (.int lo tl)) (a5 : m (S' "hi") = some (.int ((lo + hi).fdiv 2) th))
    (hs : Srt ks) (b1 : 0 ≤ lo) (b2 : lo ≤ hi) (b3 : hi ≤ (ks.length : Int)) (b4 : BR x ks lo hi) (hlt : lo < hi) (hx : x < ks.getD ((lo + hi).fdiv 2).toNat 0) (hn : n = (hi - lo).toNat) : WStep h₀ L news s (BisJ l f x t1 ks) n .next { s with heap := h', toks := tk } := by
  obtain ⟨c1, c2, c3, c4⟩ := br_dn hs b1 b2 b3 b4 hlt hx
  exact .intro _ F N (hn ▸ mid_less2 hlt) ⟨_, _, tl, th, a1, a2, a3, a4, a5, c1, c2, c3, c4, rfl⟩
end




























theorem bisK_call0 (w : World) (news : List (Addr × Obj)) (x : Int) (t1 t2 : Tok) (l f : Addr) (vs : List Value) (ks : List Int) (n : Nat) (hk : KeyAt w f ((l, listOf vs.toArray n) :: news) vs ks) (hn : ks.length < 1000) (hs : Srt ks) :
    CallW 2 w 32 ((l, listOf vs.toArray n) :: news) [.ref l, .int x t1, .int 0 t2, .none] [(S' "key", .ref f)] (fun v news' => (∃ t, v = .int (cR ks x) t) ∧ news' = (l, listOf vs.toArray n) :: news) := by
  refine a3 (hk) fun zt0 hlen hkey => ?_
  clear hk
  refine e4a1 (zt0) fun oc od fd sl hf => ?_
  clear zt0
  have hrow : PySem.Challenge.rw_ty0036_02.most = some 63 := rfl
  unfold CallW
  revert hrow
  k_with_none
  w_top off
  k_with "storeName" => ((k_here; k_dflt (refine' storeX_Lf ?zweg ?zwed ?zweo ?zwet ?zwF ?zwN ?_ ?zwa ?zwb; (case zweg => dsimp only); (case zwed => dsimp only); (case zweo => dsimp only); (case zwet => dsimp only); (case zwF => k_asm); (case zwN => k_asm); (case zwa => rfl); (case zwb => rfl); k_whole; walk_at "pm0"; (try k_sweep))))
  k_with "tb_start" => (k_dflt (first
  | (refine' code_def ?zwk1 ?zwk2 ?zwk3 ?zwk4 ?zwk5 ?zwkA ?zwkF ?zwkK ?zwk6 ?zwk7 ?zwk8 ?zwk9 ?zwkB ?_ ?zwc2 ?zwc3 ?zwc4 ?zwc5; (case zwkA => exact rfl); (case zwkF => exact rfl); (case zwkK => first | assumption | exact rfl); (case zwk1 => k_asm); (case zwk2 => k_asm); (case zwk3 => k_asm); (case zwk4 => k_asm); (case zwk5 => k_asm); (case zwk6 => k_is); (case zwk7 => k_is); (case zwk8 => ktr_room); (case zwk9 => first | exact BindsTo.of_eq rfl | (refine' kp_binds ?zwkx ?zwke; (case zwkx => k_in); (case zwke => exact fun _ => rfl))); (case zwc5 => decide); (case zwkB => exact locs rfl); (case zwc2 => exact rfl); (case zwc3 => exact rfl); (case zwc4 => exact rfl); k_whole; walk_at "pm1"; (try dsimp only); (try k_fold))
  | (refine' code_defC ?zwk1 ?zwk2 ?zwk3 ?zwk4 ?zwk5 ?zwkA ?zwkF ?zwkK ?zwk6 ?zwk7 ?zwk8 ?zwk9 ?zwkB ?zwkD ?_ ?zwc2 ?zwc3 ?zwc4; (case zwkA => exact rfl); (case zwkF => exact rfl); (case zwkK => first | assumption | exact rfl); (case zwk1 => k_asm); (case zwk2 => k_asm); (case zwk3 => k_asm); (case zwk4 => k_asm); (case zwk5 => k_asm); (case zwk6 => k_is); (case zwk7 => k_is); (case zwk8 => ktr_room); (case zwk9 => first | exact BindsTo.of_eq rfl | (refine' kp_binds ?zwkx ?zwke; (case zwkx => k_in); (case zwke => exact fun _ => rfl))); (case zwkB => exact rfl); (case zwkD => decide +kernel); (case zwc2 => exact rfl); (case zwc3 => exact rfl); (case zwc4 => exact rfl); k_whole; walk_at "pm2"; (try dsimp only); (try k_fold))))
  k_with "k_all" => (first | assumption | exact all_ne (by assumption) (by omega) | fail)
  k_with "call ref" => ((k_here; refine wpAny_call ?_; k_extra "tb_start"))
  k_with "loadName" => ((k_here; k_dflt (refine' ldn ?zwk1 ?zwk2 ?_; (case zwk1 => k_asm); (case zwk2 => (repeat (first | assumption | exact if_pos rfl | refine' (if_neg (by decide)).trans ?_))))))
  k_with "eval Name" => ((k_here; name_kind "local"; k_dflt (refine' ld ?zwk1 ?zwk2 ?_; (case zwk1 => k_asm); (case zwk2 => (repeat (first | assumption | exact if_pos rfl | refine' (if_neg (by decide)).trans ?_))); k_whole)))
  k_with "pyIter ref" => ((k_here; refine stop_intro ?_))
  k_with "exec For" => ((k_here; k_dflt (refine' for_ruleL ?zwhF ?zwhs ?_; (case zwhF => k_asm); (case zwhs => intro _; rfl))))
  k_with "exec For Name Name cons nil" => ((k_here; k_dflt (refine' for_ruleL ?zwhF ?zwhs ?_; (case zwhF => k_asm); (case zwhs => intro _; rfl))))
  k_with "exec For Name Subscript cons nil" => ((k_here; k_dflt (refine' for_ruleL ?zwhF ?zwhs ?_; (case zwhF => k_asm); (case zwhs => intro _; rfl))))
  k_with "exec For Name Call cons nil" => ((k_here; k_dflt (refine' for_ruleL ?zwhF ?zwhs ?_; (case zwhF => k_asm); (case zwhs => intro _; rfl))))
  k_with "exec For Tuple Name cons nil" => ((k_here; k_dflt (refine' for_ruleL ?zwhF ?zwhs ?_; (case zwhF => k_asm); (case zwhs => intro _; rfl))))
  k_with "exec For Tuple" => ((k_here; k_dflt (refine' for_ruleL ?zwhF ?zwhs ?_; (case zwhF => k_asm); (case zwhs => intro _; rfl))))
  k_with "FnAt" => ((k_dflt (exact FnAt.of (by k_asm) (by first | assumption | k_mem))))
  k_with "callWith ref" => ((k_here; k_dflt (refine' callWith_F ?zwk1 ?_; (case zwk1 => exact FnAt.of (by k_asm) (by first | assumption | k_mem)); k_whole)))
  k_with "And" => (((with_reducible show FnAt _ _ ∧ _); k_dflt (refine ⟨FnAt.of (by k_asm) (by first | assumption | k_mem), ?_⟩); (try dsimp only [List.nil_append, List.cons_append])))
  k_with "exec While Compare cons nil" => ((k_here; refine stop_intro ?_))
  k_with "call builtin:len" => ((k_here; (with_reducible show wpAny _ _ (call (Value.builtin _) [Value.ref _]) _ _ _); k_dflt (refine' len_at ?zwk1 ?zwk2 ?zwk3 ?_; (case zwk1 => k_asm); (case zwk2 => k_mem); (case zwk3 => omega); walk_at "pm3")))
  k_with "subscriptTail Name Name ref int" => ((k_here; (with_reducible show wpAny _ _ (subscriptTail _ _ (Value.ref _) (Value.int _ _)) _ _ _); k_dflt (refine' sub_at ?zwk1 ?zwk2 ?zwk3 ?zwk4 ?zwk5 ?_ ?zwk7; (case zwk1 => k_asm); (case zwk2 => k_mem); (case zwk3 => assumption); (case zwk4 => assumption); (case zwk5 => assumption); (case zwk7 => with_unfolding_all rfl); k_whole)))
  k_with "call ref" => ((k_here; (with_reducible show wpAny _ _ (call (Value.ref _) [_]) _ _ _); k_dflt (refine' Call1.useI (?zwC) ?zwk1 ?zwk2 ?zwk3 ?zwk4 ?zwk5 ?zwkK ?zwkd ?zwku ?_; (case zwk1 => k_asm); (case zwk2 => k_asm); (case zwk3 => k_asm); (case zwk4 => k_asm); (case zwk5 => k_asm); (case zwkK => first | exact rfl | assumption); (case zwC => assumption); (case zwkd => ktr_room); (case zwku => ktr_units); walk_at "pm4"; (try dsimp only); (try k_fold))))
  k_with "k_all" => (first | assumption | exact all_ne (by assumption) (by omega) | fail)
  k_fill
  intro hrow
  clear hrow
  intro p loose mean mg mb dp un gd cn cs a ccd cl outer A₀ base h₀ L m s Q E B F X N T hk hdp hun hret
  refine wpAny_call ?_
  k_extra "tb_start"
  refine tok_gen fun tk0 => ?_
  k_steps
  refine stop_elim ?_
  refine' while_rule2 (BisJ l f x t1 ks) (fun m => ∃ tl, m (S' "lo") = some (.int (cR ks x) tl)) (n₀ := ks.length) ?F ?N ?j ?turn ?done
  case F => k_asm
  case N => k_asm
  case j =>
    refine' BisJ.start ?a1 ?a2 ?a3 ?a4 ?a5 ?b
    case a5 => exact if_pos rfl
    case a1 => refine (if_neg (by decide)).trans ?_; rfl
    case a2 => refine (if_neg (by decide)).trans ?_; rfl
    case a3 => refine (if_neg (by decide)).trans ?_; rfl
    case a4 => refine (if_neg (by decide)).trans ?_; rfl
    case b => (first | lia | omega)
  case turn =>
    intro k m1 h9 tk9 E' F9 N9 zr0
    refine e4a10 (zr0) fun lo hi tl th a1 a2 a3 a4 a5 b1 b2 b3 b4 b5 => ?_
    clear zr0
    (try k_fold)
    by_cases hlt : lo < hi
    · refine e1a4 (key_item hlen hn b1 hlt b3) fun v c1 c2 c3 c4 => ?_
      have hcall := hkey _ v _ c1 c2
      k_steps
      · exact BisJ.dn (by k_asm) (by k_asm) (by (repeat (first | assumption | exact if_pos rfl | refine' (if_neg (by decide)).trans ?_))) (by (repeat (first | assumption | exact if_pos rfl | refine' (if_neg (by decide)).trans ?_))) (by (repeat (first | assumption | exact if_pos rfl | refine' (if_neg (by decide)).trans ?_))) (by (repeat (first | assumption | exact if_pos rfl | refine' (if_neg (by decide)).trans ?_))) (by (repeat (first | assumption | exact if_pos rfl | refine' (if_neg (by decide)).trans ?_))) hs b1 b2 b3 b4 hlt (by assumption) b5
      · exact BisJ.up (by k_asm) (by k_asm) (by (repeat (first | assumption | exact if_pos rfl | refine' (if_neg (by decide)).trans ?_))) (by (repeat (first | assumption | exact if_pos rfl | refine' (if_neg (by decide)).trans ?_))) (by (repeat (first | assumption | exact if_pos rfl | refine' (if_neg (by decide)).trans ?_))) (by (repeat (first | assumption | exact if_pos rfl | refine' (if_neg (by decide)).trans ?_))) (by (repeat (first | assumption | exact if_pos rfl | refine' (if_neg (by decide)).trans ?_))) hs b1 b2 b3 b4 hlt (by assumption) b5
    · k_steps
      exact .intro 0 (by k_asm) (by k_asm) ⟨tl, by rw [a4, br_end b1 b2 b3 b4 hlt]⟩
  case done =>
    intro m1 h9 tk9 F9 N9 zr0
    refine e1a1 (zr0) fun tl a4 => ?_
    clear zr0
    (try k_fold)
    k_steps
    refine hret _ _ _ _ ⟨⟨_, rfl⟩, rfl⟩ (by k_asm) ?_; (intro p9 hp9; refine (show News _ _ _ _ by k_asm) p9 ?_; k_ownIn)
end Mine
end
local macro_rules | `(tactic| walk_at "pm5") => `(tactic| (intro h' F' N'; (try dsimp only [List.nil_append, List.cons_append] at N')))
section
set_option maxRecDepth 100000
set_option maxHeartbeats 8000000
namespace Mine




























theorem insK_call (w : World) (news : List (Addr × Obj)) (x : Value) (kx : Int) (l f : Addr) (vs : List Value) (ks : List Int) (n : Nat) (hk : KeyAt w f ((l, listOf vs.toArray n) :: news) vs ks) (hx : Call1 1 w f ((l, listOf vs.toArray n) :: news) [x] (fun y news' => (∃ t, y = .int kx t) ∧ news' = (l, listOf vs.toArray n) :: news)) (hn : ks.length < 900) (hs : Srt ks) (hne : ∀ p ∈ news, p.1 ≠ l) :
    CallW 4 w 23 ((l, listOf vs.toArray n) :: news) [.ref l, x] [(S' "key", .ref f)] (fun v news' => v = .none ∧ news' = (l, listOf (insV vs (cR ks kx) x).toArray (n + 1)) :: news) := by
  have hbis := fun t1 t2 => bisK_call0 w news kx t1 t2 l f vs ks n hk (by (first | lia | omega)) hs
  refine a3 (hk) fun zt0 hlen hkey => ?_
  clear hk
  refine e4a1 (zt0) fun oc od fd sl hf => ?_
  clear zt0
  have hcl := cR_le ks kx
  have hrow : PySem.Challenge.rw_ty0036_02.most = some 63 := rfl
  unfold CallW
  revert hrow
  k_with_none
  w_top off
  k_with "storeName" => ((k_here; k_dflt (refine' storeX_Lf ?zweg ?zwed ?zweo ?zwet ?zwF ?zwN ?_ ?zwa ?zwb; (case zweg => dsimp only); (case zwed => dsimp only); (case zweo => dsimp only); (case zwet => dsimp only); (case zwF => k_asm); (case zwN => k_asm); (case zwa => rfl); (case zwb => rfl); k_whole; walk_at "pm0"; (try k_sweep))))
  k_with "tb_start" => (k_dflt (first
  | (refine' code_def ?zwk1 ?zwk2 ?zwk3 ?zwk4 ?zwk5 ?zwkA ?zwkF ?zwkK ?zwk6 ?zwk7 ?zwk8 ?zwk9 ?zwkB ?_ ?zwc2 ?zwc3 ?zwc4 ?zwc5; (case zwkA => exact rfl); (case zwkF => exact rfl); (case zwkK => first | assumption | exact rfl); (case zwk1 => k_asm); (case zwk2 => k_asm); (case zwk3 => k_asm); (case zwk4 => k_asm); (case zwk5 => k_asm); (case zwk6 => k_is); (case zwk7 => k_is); (case zwk8 => ktr_room); (case zwk9 => first | exact BindsTo.of_eq rfl | (refine' kp_binds ?zwkx ?zwke; (case zwkx => k_in); (case zwke => exact fun _ => rfl))); (case zwc5 => decide); (case zwkB => exact locs rfl); (case zwc2 => exact rfl); (case zwc3 => exact rfl); (case zwc4 => exact rfl); k_whole; walk_at "pm1"; (try dsimp only); (try k_fold))
  | (refine' code_defC ?zwk1 ?zwk2 ?zwk3 ?zwk4 ?zwk5 ?zwkA ?zwkF ?zwkK ?zwk6 ?zwk7 ?zwk8 ?zwk9 ?zwkB ?zwkD ?_ ?zwc2 ?zwc3 ?zwc4; (case zwkA => exact rfl); (case zwkF => exact rfl); (case zwkK => first | assumption | exact rfl); (case zwk1 => k_asm); (case zwk2 => k_asm); (case zwk3 => k_asm); (case zwk4 => k_asm); (case zwk5 => k_asm); (case zwk6 => k_is); (case zwk7 => k_is); (case zwk8 => ktr_room); (case zwk9 => first | exact BindsTo.of_eq rfl | (refine' kp_binds ?zwkx ?zwke; (case zwkx => k_in); (case zwke => exact fun _ => rfl))); (case zwkB => exact rfl); (case zwkD => decide +kernel); (case zwc2 => exact rfl); (case zwc3 => exact rfl); (case zwc4 => exact rfl); k_whole; walk_at "pm2"; (try dsimp only); (try k_fold))))
  k_with "k_all" => (first | assumption | exact all_ne (by assumption) (by omega) | fail)
  k_with "call ref" => ((k_here; refine wpAny_call ?_; k_extra "tb_start"))
  k_with "loadName" => ((k_here; k_dflt (refine' ldn ?zwk1 ?zwk2 ?_; (case zwk1 => k_asm); (case zwk2 => (repeat (first | assumption | exact if_pos rfl | refine' (if_neg (by decide)).trans ?_))))))
  k_with "eval Name" => ((k_here; name_kind "local"; k_dflt (refine' ld ?zwk1 ?zwk2 ?_; (case zwk1 => k_asm); (case zwk2 => (repeat (first | assumption | exact if_pos rfl | refine' (if_neg (by decide)).trans ?_))); k_whole)))
  k_with "pyIter ref" => ((k_here; refine stop_intro ?_))
  k_with "exec For" => ((k_here; k_dflt (refine' for_ruleL ?zwhF ?zwhs ?_; (case zwhF => k_asm); (case zwhs => intro _; rfl))))
  k_with "exec For Name Name cons nil" => ((k_here; k_dflt (refine' for_ruleL ?zwhF ?zwhs ?_; (case zwhF => k_asm); (case zwhs => intro _; rfl))))
  k_with "exec For Name Subscript cons nil" => ((k_here; k_dflt (refine' for_ruleL ?zwhF ?zwhs ?_; (case zwhF => k_asm); (case zwhs => intro _; rfl))))
  k_with "exec For Name Call cons nil" => ((k_here; k_dflt (refine' for_ruleL ?zwhF ?zwhs ?_; (case zwhF => k_asm); (case zwhs => intro _; rfl))))
  k_with "exec For Tuple Name cons nil" => ((k_here; k_dflt (refine' for_ruleL ?zwhF ?zwhs ?_; (case zwhF => k_asm); (case zwhs => intro _; rfl))))
  k_with "exec For Tuple" => ((k_here; k_dflt (refine' for_ruleL ?zwhF ?zwhs ?_; (case zwhF => k_asm); (case zwhs => intro _; rfl))))
  k_with "FnAt" => ((k_dflt (exact FnAt.of (by k_asm) (by first | assumption | k_mem))))
  k_with "callWith ref" => ((k_here; k_dflt (refine' callWith_F ?zwk1 ?_; (case zwk1 => exact FnAt.of (by k_asm) (by first | assumption | k_mem)); k_whole)))
  k_with "And" => (((with_reducible show FnAt _ _ ∧ _); k_dflt (refine ⟨FnAt.of (by k_asm) (by first | assumption | k_mem), ?_⟩); (try dsimp only [List.nil_append, List.cons_append])))
  k_with "call ref" => ((k_here; (with_reducible show wpAny _ _ (call (Value.ref _) [_]) _ _ _); k_dflt (refine' Call1.useI (?zwC) ?zwk1 ?zwk2 ?zwk3 ?zwk4 ?zwk5 ?zwkK ?zwkd ?zwku ?_; (case zwk1 => k_asm); (case zwk2 => k_asm); (case zwk3 => k_asm); (case zwk4 => k_asm); (case zwk5 => k_asm); (case zwkK => first | exact rfl | assumption); (case zwC => assumption); (case zwkd => ktr_room); (case zwku => ktr_units); walk_at "pm4"; (try dsimp only); (try k_fold))))
  k_with "call ref" => ((k_here; (with_reducible show wpAny _ _ (call (Value.ref _) [_, _, _, _] _) _ _ _); k_dflt (refine' CallW.useI (?zwC) ?zwk1 ?zwk2 ?zwk3 ?zwk4 ?zwk5 ?zwkK ?zwkd ?zwku ?_; (case zwk1 => k_asm); (case zwk2 => k_asm); (case zwk3 => k_asm); (case zwk4 => k_asm); (case zwk5 => k_asm); (case zwkK => first | exact rfl | assumption); (case zwC => (rename (∀ (_ _ : Tok), CallW _ _ _ _ _ _ _) => hq; exact hq _ _)); (case zwkd => ktr_room); (case zwku => ktr_units); walk_at "pm4"; (try dsimp only); (try k_fold))))
  k_with "call builtin:list.insert" => ((k_here; k_dflt (refine' my_insert ?zwF ?zwN ?zwm ?zwk ?zwv ?zwU ?_; (case zwF => k_asm); (case zwN => k_asm); (case zwm => k_mem); (case zwU => k_upd); (case zwk => omega); (case zwv => omega); walk_at "pm5")))
  k_with "k_all" => (first | assumption | exact all_ne (by assumption) (by omega) | fail)
  k_fill
  intro hrow
  clear hrow
  intro p loose mean mg mb dp un gd cn cs a ccd cl outer A₀ base h₀ L m s Q E B F X N T hk hdp hun hret
  refine wpAny_call ?_
  k_extra "tb_start"
  refine tok_gen fun tk0 => ?_
  k_steps
  all_goals exact hret _ _ _ _ ⟨rfl, rfl⟩ (by k_asm) (by k_asm)
end Mine
end
section
namespace Mine
theorem ltN {a b : Nat} (h : a < b) : a ≠ b := Nat.ne_of_lt h
theorem gtN {a b : Nat} (h : b < a) : a ≠ b := Nat.ne_of_gt h
theorem allLt_at {d : Nat} : ∀ {l : List (Addr × Obj)}, AllLt d l → ∀ p ∈ l, p.1 < d
  | [], _, p, hp => nomatch hp
  | _ :: _, h, p, hp => by
    rcases List.mem_cons.mp hp with rfl | hp
    · exact h.1
    · exact allLt_at h.2 p hp
theorem news_pick {h₀ : Heap} {L : Addr} {g : Heap} {all sel : List (Addr × Obj)} (N : News h₀ L g all) (hs : ∀ p ∈ sel, p ∈ all) : News h₀ L g sel := fun p hp => N p (hs p hp)
/-- a def's code table: empty, or with the one lambda's code in it -/
noncomputable def TabX (qual : Str) (pos : Pos) (ps : Array Value) (X : List (Addr × Obj)) : Prop := ps = #[] ∨ ∃ c' oc vs t, ps = #[rawInt pos.line, rawInt pos.col, .ref c'] ∧ (c', oc) ∈ X ∧ oc.data = .fields vs ∧ vs[1]? = some (.str qual t)
theorem updF_eq {d : Addr} {o : Obj} {l : List (Addr × Obj)} {g : Obj → List (Addr × Obj)} (U : UpdF d o l g) : g o = l ∧ (d, o) ∈ l := by
  obtain ⟨pre, post, rfl, h, _⟩ := U.split
  exact ⟨h o, List.mem_append.mpr (.inr (.head _))⟩
section
variable {M : Model} {A : Around} {E : Value → Shared → Prop} {s : Shared} {h₀ : Heap} {L a c P : Addr} {m mg mb : Str → Option Value} {cn : Str} {cs : Scope} {ccd : Value} {cl : List (Str × Addr)} {news X : List (Addr × Obj)} {g : Obj → List (Addr × Obj)}
  {p : Program} {loose : List Str} {mean : ExcName → Option Value} {name qual : Str} {params : Arguments} {body : Expr} {scope : Scope} {ps : Array Value} {pos : Pos} {firstLine : Nat} {clos : List (Str × Addr)}
/-- a lambda made, the first time or a later one -/
theorem lam_any {Q : Value → Shared → Prop} (F : Fr h₀ L s.heap m) (N : News h₀ L s.heap news) (T : Top p loose mean mg mb h₀) (C : CodeHd h₀ c P) (hcd : ccd = .ref c) (U : UpdF P (tabObj ps) news g) (ht : TabX qual pos ps X) (hX : ∀ p ∈ X, p ∈ news)
    (hcl : closureFor scope (envX cn cs L a ccd cl) = pure clos)
    (h : ∀ f c' oc vs t ctv h' tk, Fr h₀ L h' m →
      News h₀ L h' ((f, kla_obj name qual params body scope clos ((mg "__name__").getD .none) c' ctv) :: (c', oc) :: g (tabObj #[rawInt pos.line, rawInt pos.col, .ref c'])) →
      oc.data = .fields vs → vs[1]? = some (.str qual t) → (∀ q ∈ news, q.1 < f) → c' < f → (∀ q ∈ news, (∀ p ∈ X, p.1 ≠ q.1) → c' ≠ q.1) → Q (.ref f) { s with heap := h', toks := tk }) :
    wpAny M A (makeFunction name qual params (.expr body) scope (envX cn cs L a ccd cl) [] [] [] pos firstLine) Q E s := by
  rcases ht with rfl | ⟨c', oc, vs, t, rfl, hm, hd, hv⟩
  · refine kla_nest F N T C hcd U trivial rfl hcl fun f c' oc vs t ctv h' tk F' N' hd hv hlt hf => ?_
    refine h f c' oc vs t ctv h' tk F' (by simpa using N') hd hv (fun q hq => Nat.lt_trans (hlt q hq) hf) hf (fun q hq _ => Nat.ne_of_gt (hlt q hq))
  · refine a2 (updF_eq U) fun hg hmem => ?_
    refine kla_hit (c' := c') F N T C hcd hmem (by simp [TriplesOk, rawInt]) (by simp [codeAmong, rawInt]) hcl fun f ctv h' tk F' N' hlt => ?_
    refine h f c' oc vs t ctv h' tk F' (fun q hq => ?_) hd hv hlt (hlt _ (hX _ hm)) (fun q _ hq => hq _ hm)
    rw [hg] at hq
    rcases List.mem_cons.mp hq with rfl | hq
    · exact N' _ (.head _)
    · rcases List.mem_cons.mp hq with rfl | hq
      · exact N' _ (.tail _ (hX _ hm))
      · exact N' _ (.tail _ hq)
end
theorem KeyAt.same {w : World} {f : Addr} {news news' : List (Addr × Obj)} {vs : List Value} {ks : List Int} (h : KeyAt w f news vs ks) (h1 : ∀ p ∈ news, p ∈ news') (h2 : ∀ p ∈ news', p ∈ news) : KeyAt w f news' vs ks := by
  obtain ⟨⟨oc, od, fd, sl, hf⟩, hl, hc⟩ := h
  exact ⟨⟨oc, od, fd, sl, h1 _ hf⟩, hl, fun i v k hv hk => (hc i v k hv hk).weak h1 fun y n' hr => ⟨news', ⟨hr.1, rfl⟩, fun p hp => hr.2 ▸ h2 p hp⟩⟩
/-- insort_right with a key, at any place of the ledger -/
theorem insK_at (w : World) (news news' : List (Addr × Obj)) (x : Value) (kx : Int) (l f : Addr) (vs : List Value) (ks : List Int) (n : Nat) (U : Upd l (listOf vs.toArray n) (listOf (insV vs (cR ks kx) x).toArray (n + 1)) news news') (hk : KeyAt w f news vs ks) (hx : Call1 1 w f news [x] (fun y n' => (∃ t, y = .int kx t) ∧ n' = news)) (hn : ks.length < 900) (hs : Srt ks) :
    CallW 4 w 23 news [.ref l, x] [(S' "key", .ref f)] (fun v n' => v = .none ∧ n' = news') := by
  obtain ⟨pre, post, rfl, rfl, a, b⟩ := U.split
  have h1 : ∀ p ∈ pre ++ (l, listOf vs.toArray n) :: post, p ∈ (l, listOf vs.toArray n) :: (pre ++ post) := fun p hp => by
    rcases List.mem_append.mp hp with h | h
    · exact .tail _ (List.mem_append.mpr (.inl h))
    · rcases List.mem_cons.mp h with rfl | h
      · exact .head _
      · exact .tail _ (List.mem_append.mpr (.inr h))
  have h2 : ∀ p ∈ (l, listOf vs.toArray n) :: (pre ++ post), p ∈ pre ++ (l, listOf vs.toArray n) :: post := fun p hp => by
    rcases List.mem_cons.mp hp with rfl | hp
    · exact List.mem_append.mpr (.inr (.head _))
    · rcases List.mem_append.mp hp with h | h
      · exact List.mem_append.mpr (.inl h)
      · exact List.mem_append.mpr (.inr (.tail _ h))
  refine (insK_call w (pre ++ post) x kx l f vs ks n (hk.same h1 h2) (hx.weak h1 fun y n' hr => ⟨_, ⟨hr.1, rfl⟩, fun p hp => hr.2 ▸ h2 p hp⟩) hn hs ?_).weak h2 ?_
  · intro p hp
    rcases List.mem_append.mp hp with h | h
    · exact a p h
    · exact b p h
  · intro v n' zr0
    refine a2 (zr0) fun ze0 ze1 => ?_
    clear zr0
    subst ze0
    subst ze1
    refine ⟨_, ⟨rfl, rfl⟩, fun p hp => ?_⟩
    rcases List.mem_append.mp hp with h | h
    · exact .tail _ (List.mem_append.mpr (.inl h))
    · rcases List.mem_cons.mp h with rfl | h
      · exact .head _
      · exact .tail _ (List.mem_append.mpr (.inr h))
end Mine
end
section
set_option maxRecDepth 100000
set_option maxHeartbeats 8000000
namespace Mine
/-- a call whose caller's ground is known to hold something -/
noncomputable def CallH (r : Nat) (w : World) (f : Addr) (H : Heap → Prop) (news : List (Addr × Obj)) (vs : List Value) (R : (Value → List (Addr × Obj) → Prop)) : Prop :=
  ∀ (p : Program) (loose : List Str) (mean : ExcName → Option Value) (mg mb : Str → Option Value)
    (dp un : Nat) (gd : Option (List Code)) (cn : Str) (cs : Scope) (a : Addr) (ccd : Value) (cl : List (Str × Addr)) (outer : List Env) (A₀ : Around) (base h₀ : Heap) (L : Addr) (m : Str → Option Value) (s : Shared) (Q E : Value → Shared → Prop),
    Below A₀ base outer h₀ → Fr h₀ L s.heap m → (hd2.heap_1 w.params).In h₀ → News h₀ L s.heap news → Top p loose mean mg mb h₀ → cs.kind = .function →
    dp + r < recursionLimit → un + 8 * r < cLine → H h₀ →
    (∀ (v : Value) (news' : List (Addr × Obj)) (h' : Heap) (tk' : Nat), R v news' → Fr h₀ L h' m → News h₀ L h' news' → Q v { s with heap := h', toks := tk' }) →
    wpAny (model P1 w) (ktrTop dp un gd cn cs L a ccd cl outer) (call (.ref f) vs) Q E s
theorem CallH.use {r : Nat} {w : World} {f : Addr} {H : Heap → Prop} {news : List (Addr × Obj)} {vs : List Value} {R : Value → List (Addr × Obj) → Prop} (C : CallH r w f H news vs R)
    {p : Program} {loose : List Str} {mean : ExcName → Option Value} {mg mb : Str → Option Value}
    {dp un : Nat} {gd : Option (List Code)} {cn : Str} {cs : Scope} {a : Addr} {ccd : Value} {cl : List (Str × Addr)} {outer : List Env} {A₀ : Around} {base h₀ : Heap} {L : Addr} {m : Str → Option Value} {s : Shared} {Q E : Value → Shared → Prop}
    (B : Below A₀ base outer h₀) (F : Fr h₀ L s.heap m) (X : (hd2.heap_1 w.params).In h₀) (N : News h₀ L s.heap news) (T : Top p loose mean mg mb h₀) (hk : cs.kind = .function)
    (hd : dp + r < recursionLimit) (hu : un + 8 * r < cLine) (hH : H h₀)
    (ret : ∀ (v : Value) (news' : List (Addr × Obj)) (h' : Heap) (tk' : Nat), R v news' → Fr h₀ L h' m → News h₀ L h' news' → Q v { s with heap := h', toks := tk' }) :
    wpAny (model P1 w) (ktrTop dp un gd cn cs L a ccd cl outer) (call (.ref f) vs) Q E s :=
  C _ _ _ _ _ _ _ _ _ _ _ _ _ _ _ _ _ _ _ _ _ _ B F X N T hk hd hu hH ret


/-- as many different items as that: no more than the row has -/
theorem pig : ∀ (l : List Int), l.Nodup → ∀ m : List Int, (∀ x ∈ l, x ∈ m) → l.length ≤ m.length
  | [], _, _, _ => Nat.zero_le _
  | x :: l, h, m, hs => by
    have hx := hs x (.head _)
    have h1 := pig l (List.nodup_cons.mp h).2 (m.erase x) fun y hy => (List.mem_erase_of_ne (fun e => (List.nodup_cons.mp h).1 (by rw [← e]; exact hy))).mpr (hs y (.tail _ hy))
    rw [List.length_erase_of_mem hx] at h1
    have := List.length_pos_of_mem hx
    rw [List.length_cons]; omega
noncomputable def stp (a : Int) (t : Nat) : Int := (a + t) % 255 + 1
theorem stp_in {a : Int} {ls : List Int} {k : Nat} (hk : k ≤ 255) (h : ∀ s, s < k → stp a s ∈ ls) : k ≤ ls.length := by
  have h1 := pig ((List.range k).map (stp a)) (by
    rw [List.nodup_iff_pairwise_ne] 
    rw [List.pairwise_map]
    refine (List.nodup_range (n := k)).imp_of_mem fun {x y} hx hy hne => ?_
    rw [List.mem_range] at hx hy
    unfold stp
    (first | lia | omega)) ls (by
    intro x hx
    obtain ⟨s, hs, rfl⟩ := List.mem_map.mp hx
    exact h s (List.mem_range.mp hs))
  simpa using h1
theorem stp_next (a : Int) (k : Nat) : (stp a k).fmod 255 + 1 = stp a (k + 1) := by
  rw [Int.fmod_eq_emod_of_nonneg _ (by decide)]; unfold stp; (first | lia | omega)
theorem stp_bd (a : Int) (k : Nat) : 1 ≤ stp a k ∧ stp a k ≤ 255 := by unfold stp; (first | lia | omega)
structure LeafSt (ls : List Int) (i : Nat) : Prop where
  len : ls.length = i
  bd : ∀ x ∈ ls, 1 ≤ x ∧ x ≤ 255
  nd : ls.Nodup
theorem LeafSt.snoc {ls : List Int} {i : Nat} (h : LeafSt ls i) {y : Int} (hy : 1 ≤ y ∧ y ≤ 255) (hn : y ∉ ls) : LeafSt (ls ++ [y]) (i + 1) := by
  refine ⟨by rw [List.length_append, h.len]; rfl, fun x hx => ?_, ?_⟩
  · rcases List.mem_append.mp hx with hx | hx
    · exact h.bd x hx
    · rw [List.mem_singleton.mp hx]; exact hy
  · rw [List.nodup_append]
    exact ⟨h.nd, by simp, fun a ha b hb => by rw [List.mem_singleton.mp hb]; exact fun e => hn (e ▸ ha)⟩
theorem any_int {y : Int} {lvs : List Value} {lsx : List Int} (h : IntsAre lvs lsx) : lvs.any (isInt y) = decide (y ∈ lsx) ∧ kf_ints lvs = true := by
  induction h with
  | nil => exact ⟨rfl, rfl⟩
  | cons n t _ ih =>
    obtain ⟨h1, h2⟩ := ih
    constructor
    · rw [List.any_cons, h1]
      by_cases e : y = n
      · subst e; simp [isInt]
      · have : isInt y (.int n t) = false := by simp [isInt]; exact fun h => e h.symm
        rw [this]; simp [e]
    · simp [kf_ints] at h2 ⊢; exact h2
theorem in_ints {prog : Program} {w : World} {A : Around} {E : Value → Shared → Prop} {s : Shared} {h₀ : Heap} {L D : Addr} {news : List (Addr × Obj)} {lvs : List Value} {lsx : List Int} {n : Nat} {y : Int} {t : Tok} {Q : Value → Shared → Prop} (N : News h₀ L s.heap news) (hm : (D, listOf lvs.toArray n) ∈ news) (hi : IntsAre lvs lsx)
    (h1 : y ∈ lsx → Q (.bool true) s) (h2 : y ∉ lsx → Q (.bool false) s) : wpAny (model prog w) A (compareOp .In (.int y t) (.ref D)) Q E s := by
  by_cases hy : y ∈ lsx
  · exact kf_in N hm (by simpa using (any_int (y := y) hi).2) (b := true) (by have := (any_int (y := y) hi).1; rw [show lvs.toArray.toList = lvs from rfl, this]; exact decide_eq_true hy) (h1 hy)
  · exact kf_in N hm (by simpa using (any_int (y := y) hi).2) (b := false) (by have := (any_int (y := y) hi).1; rw [show lvs.toArray.toList = lvs from rfl, this]; exact decide_eq_false hy) (h2 hy)
theorem lvs_len (ns : List Int) (fixed : List Int) (hf : fixed.length = 4) (k : Int) (hk : k = ((ns.take 5).length : Int)) : 4 ≤ (ns.take 5 ++ fixed.drop k.toNat).length ∧ (ns.take 5 ++ fixed.drop k.toNat).length ≤ 5 := by
  subst hk
  rw [List.length_append, List.length_drop, List.length_take, hf]
  omega
noncomputable def LfJ (T : Addr) (ls : List Int) (n : Nat) (m : Str → Option Value) : Prop :=
  ∃ (a : Int) (k : Nat) (y : Int) (t : Tok), m (S' "leaves") = some (.ref T) ∧ m (S' "leaf") = some (.int y t) ∧ 0 ≤ a ∧ a < 255 ∧ y = stp a k ∧ (∀ s, s < k → stp a s ∈ ls) ∧ k ≤ ls.length ∧ n = 10 - k
noncomputable def LfK (T : Addr) (ls : List Int) (m : Str → Option Value) : Prop :=
  ∃ (y : Int) (t : Tok), m (S' "leaves") = some (.ref T) ∧ m (S' "leaf") = some (.int y t) ∧ 1 ≤ y ∧ y ≤ 255 ∧ y ∉ ls























theorem leaves_call (w : World) (news : List (Addr × Obj)) (l : Addr) (vs : List Value) (ns : List Int) (hi : IntsAre vs ns) (hn : ns.length ≤ 63) :
    CallH 2 w 106 (fun h => h.IsList l vs.toArray) news [.ref l] (fun v news' => ∃ D ws ds c, v = .ref D ∧ AllLt D news ∧ IntsAre ws ds ∧ (4 ≤ ds.length ∧ ds.length ≤ 5) ∧ LeafSt ds ds.length ∧ news' = (D, listOf (List.toArray ws) c) :: news) := by
  have hrow : PySem.Challenge.rw_ty0036_02.most = some 63 := rfl
  unfold CallH
  revert hrow
  k_with_none
  w_top off
  k_with "storeName" => ((k_here; k_dflt (refine' storeX_Lf ?zweg ?zwed ?zweo ?zwet ?zwF ?zwN ?_ ?zwa ?zwb; (case zweg => dsimp only); (case zwed => dsimp only); (case zweo => dsimp only); (case zwet => dsimp only); (case zwF => k_asm); (case zwN => k_asm); (case zwa => rfl); (case zwb => rfl); k_whole; walk_at "pm0"; (try k_sweep))))
  k_with "tb_start" => (k_dflt (first
  | (refine' code_def ?zwk1 ?zwk2 ?zwk3 ?zwk4 ?zwk5 ?zwkA ?zwkF ?zwkK ?zwk6 ?zwk7 ?zwk8 ?zwk9 ?zwkB ?_ ?zwc2 ?zwc3 ?zwc4 ?zwc5; (case zwkA => exact rfl); (case zwkF => exact rfl); (case zwkK => first | assumption | exact rfl); (case zwk1 => k_asm); (case zwk2 => k_asm); (case zwk3 => k_asm); (case zwk4 => k_asm); (case zwk5 => k_asm); (case zwk6 => k_is); (case zwk7 => k_is); (case zwk8 => ktr_room); (case zwk9 => first | exact BindsTo.of_eq rfl | (refine' kp_binds ?zwkx ?zwke; (case zwkx => k_in); (case zwke => exact fun _ => rfl))); (case zwc5 => decide); (case zwkB => exact locs rfl); (case zwc2 => exact rfl); (case zwc3 => exact rfl); (case zwc4 => exact rfl); k_whole; walk_at "pm1"; (try dsimp only); (try k_fold))
  | (refine' code_defC ?zwk1 ?zwk2 ?zwk3 ?zwk4 ?zwk5 ?zwkA ?zwkF ?zwkK ?zwk6 ?zwk7 ?zwk8 ?zwk9 ?zwkB ?zwkD ?_ ?zwc2 ?zwc3 ?zwc4; (case zwkA => exact rfl); (case zwkF => exact rfl); (case zwkK => first | assumption | exact rfl); (case zwk1 => k_asm); (case zwk2 => k_asm); (case zwk3 => k_asm); (case zwk4 => k_asm); (case zwk5 => k_asm); (case zwk6 => k_is); (case zwk7 => k_is); (case zwk8 => ktr_room); (case zwk9 => first | exact BindsTo.of_eq rfl | (refine' kp_binds ?zwkx ?zwke; (case zwkx => k_in); (case zwke => exact fun _ => rfl))); (case zwkB => exact rfl); (case zwkD => decide +kernel); (case zwc2 => exact rfl); (case zwc3 => exact rfl); (case zwc4 => exact rfl); k_whole; walk_at "pm2"; (try dsimp only); (try k_fold))))
  k_with "k_all" => (first | assumption | exact all_ne (by assumption) (by omega) | fail)
  k_with "call ref" => ((k_here; refine wpAny_call ?_; k_extra "tb_start"))
  k_with "k_all" => (first | assumption | (refine' List.forall_mem_cons.mpr ⟨?zwkza, ?zwkzb⟩; (case zwkza => (try dsimp only); first | assumption | exact ltN (by omega) | exact gtN (by omega) | fail); (case zwkzb => k_all)) | exact all_ne (by assumption) (by omega) | fail)
  k_with "loadName" => ((k_here; k_dflt (refine' ldn ?zwk1 ?zwk2 ?_; (case zwk1 => k_asm); (case zwk2 => (repeat (first | assumption | exact if_pos rfl | refine' (if_neg (by decide)).trans ?_))))))
  k_with "eval Name" => ((k_here; name_kind "local"; k_dflt (refine' ld ?zwk1 ?zwk2 ?_; (case zwk1 => k_asm); (case zwk2 => (repeat (first | assumption | exact if_pos rfl | refine' (if_neg (by decide)).trans ?_))); k_whole)))
  k_with "pyIter ref" => ((k_here; refine stop_intro ?_))
  k_with "exec For" => ((k_here; k_dflt (refine' for_ruleL ?zwhF ?zwhs ?_; (case zwhF => k_asm); (case zwhs => intro _; rfl))))
  k_with "exec For Name Name cons nil" => ((k_here; k_dflt (refine' for_ruleL ?zwhF ?zwhs ?_; (case zwhF => k_asm); (case zwhs => intro _; rfl))))
  k_with "exec For Name Subscript cons nil" => ((k_here; k_dflt (refine' for_ruleL ?zwhF ?zwhs ?_; (case zwhF => k_asm); (case zwhs => intro _; rfl))))
  k_with "exec For Name Call cons nil" => ((k_here; k_dflt (refine' for_ruleL ?zwhF ?zwhs ?_; (case zwhF => k_asm); (case zwhs => intro _; rfl))))
  k_with "exec For Tuple Name cons nil" => ((k_here; k_dflt (refine' for_ruleL ?zwhF ?zwhs ?_; (case zwhF => k_asm); (case zwhs => intro _; rfl))))
  k_with "exec For Tuple" => ((k_here; k_dflt (refine' for_ruleL ?zwhF ?zwhs ?_; (case zwhF => k_asm); (case zwhs => intro _; rfl))))
  k_with "exec While Compare cons nil" => ((k_here; refine stop_intro ?_))
  k_with "compareOp In int ref" => ((k_here; k_dflt (refine' in_ints ?zwk1 ?zwk2 ?zwk3 ?_ ?_; (case zwk1 => k_asm); (case zwk2 => k_mem); (case zwk3 => assumption)); all_goals (intro hy9)))
  k_with "k_all" => (first | assumption | exact all_ne (by assumption) (by omega) | fail)
  k_fill
  intro hrow
  clear hrow
  intro p loose mean mg mb dp un gd cn cs a ccd cl outer A₀ base h₀ L m s Q E B F X N T hk hdp hun hH hret
  have hH : h₀.IsList l vs.toArray := hH
  refine wpAny_call ?_
  k_extra "tb_start"
  refine tok_gen fun tk0 => ?_
  have hG := hH.at (fun o e => (by assumption : Fr h₀ L _ m).keep l o e)
  k_steps
  rename_i T gA lT gB D1 ws1 gC i1 i2 i3 l4 D ws gD FD ND hI lD
  refine e1a1 ((⟨_, rfl⟩ : ∃ ds, ds = List.take 5 ns ++ List.drop ((List.take 5 ns).length : Int).toNat [28, 19, 29, 27])) fun ds hds => ?_
  have hlen : 4 ≤ ds.length ∧ ds.length ≤ 5 := by rw [hds]; exact lvs_len ns _ rfl _ rfl
  rw [← hds] at hI
  have hwl := hI.length
  have hTn : ∀ p ∈ (D, listOf (List.toArray ws) 0) :: news, p.1 ≠ T := by
    intro p hp
    rcases List.mem_cons.mp hp with rfl | hp
    · exact gtN lD.2.1
    · exact ltN (allLt_at lT.2.2.2 p hp)
  have hTl : ∀ p ∈ news, p.1 < T := fun p hp => allLt_at lT.2.2.2 p hp
  refine stop_elim ?_
  refine' srcF_list (ax := D) (its := List.toArray ws) (k := 0) (news := (T, listOf (List.toArray ([] : List Value)) 0) :: (D, listOf (List.toArray ws) 0) :: news) rfl ?F ?N (.tail _ (.head _)) ?_
  case F => k_asm
  case N => exact news_pick ND (by intro p hp; simp only [List.mem_cons] at hp ⊢; rcases hp with rfl | rfl | hp <;> simp_all)
  intro it9 s9 S9
  refine e1a1 (SrcF.same S9) fun g9 e9 => ?_
  subst e9
  refine LoopOK.put (fun i m nw => ∃ lvs lsx c, nw = (T, listOf (List.toArray lvs) c) :: (D, listOf (List.toArray ws) 0) :: news ∧ IntsAre lvs lsx ∧ LeafSt lsx i ∧ m (S' "leaves") = some (.ref T)) S9 ?ja ?jb ?jc ?jd
  case ja => exact ⟨[], [], 0, rfl, .nil, ⟨rfl, by simp, by simp⟩, if_pos rfl⟩
  case jb => rintro i m nw ⟨lvs, lsx, c, rfl, _⟩; exact .tail _ (.head _)
  case jc =>
    intro i v m1 nw I oI h tk E' hi9 hv zr0 off hltI F9 N9
    (try (refine absL ?_; intro QL9))
    (try dsimp only)
    (try k_fold)
    refine e3a4 (zr0) fun lvs lsx c ze0 hL st hm => ?_
    clear zr0
    subst ze0
    refine e1a2 ((Are.of_ints hI).get (arr_at hv)) fun x hx zt0 => ?_
    refine e1a1 (zt0) fun t9 ze1 => ?_
    clear zt0
    subst ze1
    have hlv := hL.length
    have hsl := st.len
    have hi5 : i < 5 := by have : i < ws.length := by simpa using hi9
                           (first | lia | omega)
    have hlA := hltI
    k_lt hlA
    (try k_fold)
    k_steps
    refine stop_elim ?_
    refine' while_rule2 (LfJ T lsx) (LfK T lsx) (n₀ := 10) ?za ?zb ?zc ?zd ?ze
    case za => k_asm
    case zb => k_asm
    case zc =>
      refine ⟨x % 255, 0, _, _, ?y1, if_pos rfl, by (first | lia | omega), by (first | lia | omega), ?y2, fun s hs => by (first | lia | omega), Nat.zero_le _, rfl⟩
      case y1 => (repeat (first | assumption | exact if_pos rfl | refine' (if_neg (by decide)).trans ?_))
      case y2 => rw [show x.fmod 255 = x % 255 from Int.fmod_eq_emod_of_nonneg _ (by decide)]; unfold stp; (first | lia | omega)
    case zd =>
      intro n2 m2 h2 tk2 E2 F8 N8 zr0
      refine e4a8 (zr0) fun a k y ty hm1 hm2 ha ha' hy hs hk hn2 => ?_
      clear zr0
      (try k_fold)
      k_steps
      · have hk1 : ∀ s, s < k + 1 → stp a s ∈ lsx := fun s h => by
          rcases Nat.lt_succ_iff_lt_or_eq.mp h with h | rfl
          · exact hs s h
          · rw [← hy]; assumption
        have hk2 := stp_in (show k + 1 ≤ 255 by (first | lia | omega)) hk1
        exact .intro (10 - (k + 1)) (by k_asm) (by k_asm) (by (first | lia | omega)) ⟨a, k + 1, _, _, by (repeat (first | assumption | exact if_pos rfl | refine' (if_neg (by decide)).trans ?_)), if_pos rfl, ha, ha', by rw [hy]; exact stp_next a k, hk1, hk2, rfl⟩
      · exact .intro 0 (by k_asm) (by k_asm) ⟨y, ty, hm1, hm2, by rw [hy]; exact (stp_bd a k).1, by rw [hy]; exact (stp_bd a k).2, by assumption⟩
    case ze =>
      intro m2 h2 tk2 F8 N8 zr0
      obtain ⟨y, ty, hm1, hm2, hy1, hy2, hy3⟩ := zr0
      (try k_fold)
      k_steps
      refine ForEnd.intro ((T, listOf (List.toArray (lvs ++ [.int y ty])) (c + 1)) :: (D, listOf (List.toArray ws) 0) :: news) (by k_asm) (by k_asm) ?zf ?zg ⟨_, _, _, rfl, PyProof.Rows.IntsAre.append hL (.cons _ _ .nil), st.snoc ⟨hy1, hy2⟩ hy3, by (repeat (first | assumption | exact if_pos rfl | refine' (if_neg (by decide)).trans ?_))⟩
      case zf => intro p hp; rw [← List.push_toArray] at hp; exact hp
      case zg =>
        intro p hp
        rcases List.mem_cons.mp hp with rfl | hp
        · exact ltN hlA.1
        · rcases List.mem_cons.mp hp with rfl | hp
          · exact ltN hlA.2.1
          · exact ltN (allLt_at hlA.2.2 p hp)
  case jd =>
    intro h tk m1 nw zr0 F9 N9
    (try dsimp only)
    (try k_fold)
    refine e3a4 (zr0) fun lvs lsx c ze0 hL st hm => ?_
    clear zr0
    subst ze0
    (try k_fold)
    k_steps
    have hdl : ds.length = lsx.length := by rw [st.len, List.size_toArray, hwl]
    refine hret _ _ _ _ ⟨T, lvs, lsx, c, rfl, allLt_of hTl, hL, by rw [← hdl]; exact hlen, by rw [← hdl]; rw [hdl]; exact ⟨rfl, st.bd, st.nd⟩, rfl⟩ (by k_asm) ?_
    intro p hp
    refine (show News _ _ _ _ by k_asm) p ?_
    rcases List.mem_cons.mp hp with rfl | hp
    · exact .head _
    · exact .tail _ (.tail _ hp)
end Mine
end
section
namespace Mine
/-- rows of ints that lie in the ledger, one object a row -/
inductive RowsAt : List Addr → List (Addr × Obj) → List (List Int) → Prop
  | nil : RowsAt [] [] []
  | cons {a vs c r as R M} : IntsAre vs r → RowsAt as R M → RowsAt (a :: as) ((a, listOf (List.toArray vs) c) :: R) (r :: M)
namespace RowsAt
variable {as : List Addr} {R : List (Addr × Obj)} {M : List (List Int)}
theorem len (h : RowsAt as R M) : as.length = M.length ∧ R.length = M.length := by induction h with
  | nil => exact ⟨rfl, rfl⟩
  | cons _ _ ih => exact ⟨congrArg (· + 1) ih.1, congrArg (· + 1) ih.2⟩
theorem snoc (h : RowsAt as R M) {a : Addr} {vs : List Value} {c : Nat} {r : List Int} (hi : IntsAre vs r) : RowsAt (as ++ [a]) (R ++ [(a, listOf (List.toArray vs) c)]) (M ++ [r]) := by induction h with
  | nil => exact .cons hi .nil
  | cons b _ ih => exact .cons b ih
theorem addr (h : RowsAt as R M) : R.map (·.1) = as := by induction h with
  | nil => rfl
  | cons _ _ ih => rw [List.map_cons, ih]
theorem get (h : RowsAt as R M) : ∀ {j : Nat} {r : List Int}, M[j]? = some r → ∃ a vs c, as[j]? = some a ∧ R[j]? = some (a, listOf (List.toArray vs) c) ∧ IntsAre vs r := by
  induction h with
  | nil => intro j r e; simp at e
  | cons b _ ih =>
    intro j r e
    cases j with
    | zero => simp at e; subst e; exact ⟨_, _, _, rfl, rfl, b⟩
    | succ j => exact ih e
theorem setM (h : RowsAt as R M) : ∀ {j : Nat} {a : Addr} {vs : List Value} {c : Nat} {r : List Int}, as[j]? = some a → IntsAre vs r → RowsAt as (R.set j (a, listOf (List.toArray vs) c)) (M.set j r) := by
  induction h with
  | nil => intro j a vs c r e; simp at e
  | cons b h ih =>
    intro j a vs c r e hi
    cases j with
    | zero => simp at e; subst e; exact .cons hi h
    | succ j => exact .cons b (ih e hi)
end RowsAt
theorem upd_rows {a : Addr} {o o' : Obj} {X : List (Addr × Obj)} : ∀ {R : List (Addr × Obj)} {j : Nat}, R[j]? = some (a, o) → (R.map (·.1)).Nodup → (∀ p ∈ X, p.1 ≠ a) → Upd a o o' (R ++ X) (R.set j (a, o') ++ X)
  | [], j, e, _, _ => by simp at e
  | p :: R, 0, e, h, hX => by
    simp at e
    subst e
    refine .head fun q hq => ?_
    rcases List.mem_append.mp hq with hq | hq
    · exact fun e => (List.nodup_cons.mp h).1 (List.mem_map.mpr ⟨q, hq, e⟩)
    · exact hX q hq
  | p :: R, j + 1, e, h, hX => by
    have e' : R[j]? = some (a, o) := e
    exact .tail (fun q => (List.nodup_cons.mp h).1 (List.mem_map.mpr ⟨(a, o), List.mem_of_getElem? e', q.symm⟩)) (upd_rows e' (List.nodup_cons.mp h).2 hX)
/-- the table, one entry asked -/
noncomputable def gm (M : List (List Int)) (j k : Nat) : Int := (M.getD j []).getD k 0
noncomputable def fwS (b j : Nat) (M : List (List Int)) (k : Nat) : List (List Int) := if max (gm M j b) (gm M b k) < gm M j k then M.set j ((M.getD j []).set k (max (gm M j b) (gm M b k))) else M
noncomputable def fwK (b j : Nat) (M : List (List Int)) (k : Nat) : List (List Int) := (List.range k).foldl (fwS b j) M
noncomputable def fwJ (n b : Nat) (M : List (List Int)) (j : Nat) : List (List Int) := (List.range j).foldl (fun M j => fwK b j M n) M
noncomputable def fwB (n : Nat) (M : List (List Int)) (b : Nat) : List (List Int) := (List.range b).foldl (fun M b => fwJ n b M n) M
theorem fwK_succ (b j : Nat) (M : List (List Int)) (k : Nat) : fwK b j M (k + 1) = fwS b j (fwK b j M k) k := by unfold fwK; rw [List.range_succ, List.foldl_append]; rfl
theorem fwJ_succ (n b : Nat) (M : List (List Int)) (j : Nat) : fwJ n b M (j + 1) = fwK b j (fwJ n b M j) n := by unfold fwJ; rw [List.range_succ, List.foldl_append]; rfl
theorem fwB_succ (n : Nat) (M : List (List Int)) (b : Nat) : fwB n M (b + 1) = fwJ n b (fwB n M b) n := by unfold fwB; rw [List.range_succ, List.foldl_append]; rfl
/-- n rows of n -/
noncomputable def Sq (n : Nat) (M : List (List Int)) : Prop := M.length = n ∧ ∀ r ∈ M, r.length = n
theorem sq_set {n : Nat} {M : List (List Int)} (h : Sq n M) (j : Nat) {r : List Int} (hr : r.length = n) : Sq n (M.set j r) :=
  ⟨by rw [List.length_set]; exact h.1, fun x hx => by rcases List.mem_or_eq_of_mem_set hx with hx | rfl; exact h.2 x hx; exact hr⟩
theorem sq_row {n : Nat} {M : List (List Int)} (h : Sq n M) {j : Nat} (hj : j < n) : M[j]? = some (M.getD j []) ∧ (M.getD j []).length = n := by
  have hj' : j < M.length := by rw [h.1]; exact hj
  have e : M[j]? = some (M.getD j []) := by rw [List.getD_eq_getElem?_getD, List.getElem?_eq_getElem hj']; rfl
  exact ⟨e, h.2 _ (List.mem_of_getElem? e)⟩
theorem sq_fwS {n b j : Nat} {M : List (List Int)} (h : Sq n M) (hj : j < n) (k : Nat) : Sq n (fwS b j M k) := by
  unfold fwS
  split
  · exact sq_set h j (by rw [List.length_set]; exact (sq_row h hj).2)
  · exact h
theorem sq_fwK {n b j : Nat} {M : List (List Int)} (h : Sq n M) (hj : j < n) : ∀ k, Sq n (fwK b j M k)
  | 0 => h
  | k + 1 => by rw [fwK_succ]; exact sq_fwS (sq_fwK h hj k) hj k
theorem sq_fwJ {n b : Nat} {M : List (List Int)} (h : Sq n M) : ∀ j, j ≤ n → Sq n (fwJ n b M j)
  | 0, _ => h
  | j + 1, hj => by rw [fwJ_succ]; exact sq_fwK (sq_fwJ h j (by omega)) (by omega) n
theorem sq_fwB {n : Nat} {M : List (List Int)} (h : Sq n M) : ∀ b, Sq n (fwB n M b)
  | 0 => h
  | b + 1 => by rw [fwB_succ]; exact sq_fwJ (sq_fwB h b) n (Nat.le_refl n)
theorem row_at {as : List Addr} {R : List (Addr × Obj)} {M : List (List Int)} {n j : Nat} (hR : RowsAt as R M) (hs : Sq n M) (hj : j < n) : ∃ a vs c, (as.map Value.ref)[((j : Nat) : Int).toNat]? = some (.ref a) ∧ R[j]? = some (a, listOf (List.toArray vs) c) ∧ IntsAre vs (M.getD j []) ∧ as[j]? = some a ∧ ∀ k, k < n → ∃ t, vs[((k : Nat) : Int).toNat]? = some (.int (gm M j k) t) := by
  refine a2 (sq_row hs hj) fun e hl => ?_
  refine e3a3 (hR.get e) fun a vs c h1 h2 h3 => ?_
  refine ⟨a, vs, c, by show (as.map Value.ref)[j]? = _; rw [List.getElem?_map, h1]; rfl, h2, h3, h1, fun k hk => ?_⟩
  have e2 : (M.getD j [])[k]? = some (gm M j k) := by
    unfold gm
    rw [List.getD_eq_getElem?_getD (l := M.getD j []), List.getElem?_eq_getElem (by (first | lia | omega))]; rfl
  obtain ⟨v, hv, t, rfl⟩ := (Are.of_ints h3).get' e2
  exact ⟨t, hv⟩
theorem off_rows {as : List Addr} {R : List (Addr × Obj)} {M : List (List Int)} {base : List (Addr × Obj)} {I : Addr} (hR : RowsAt as R M) (h1 : ∀ a ∈ as, a ≠ I) (h2 : ∀ p ∈ base, p.1 ≠ I) : ∀ p ∈ R ++ base, p.1 ≠ I := fun p hp => by
  rcases List.mem_append.mp hp with hp | hp
  · exact h1 _ (by rw [← hR.addr]; exact List.mem_map_of_mem (f := (·.1)) hp)
  · exact h2 p hp
theorem lt_rows {as : List Addr} {R : List (Addr × Obj)} {M : List (List Int)} {base Y : List (Addr × Obj)} {I : Addr} (hR : RowsAt as R M) (hY : Y = R ++ base) (h : ∀ p ∈ Y, p.1 < I) : (∀ a ∈ as, a ≠ I ∧ a < I) ∧ ∀ p ∈ base, p.1 ≠ I := by
  subst hY
  refine ⟨fun a ha => ?_, fun p hp => Nat.ne_of_lt (h p (List.mem_append_right _ hp))⟩
  rw [← hR.addr] at ha
  obtain ⟨q, hq, rfl⟩ := List.mem_map.mp ha
  have := h q (List.mem_append_left _ hq)
  exact ⟨Nat.ne_of_lt this, this⟩
end Mine
end
section
set_option maxRecDepth 100000
set_option maxHeartbeats 8000000
namespace Mine



















/-- what one figure costs -/
noncomputable def digP (a b : Int) : Int := if a % 4 / 2 = b % 4 / 2 then (if a % 4 = b % 4 then 0 else 1) else 2
noncomputable def sh : Nat → Int → Int
  | 0, a => a
  | k + 1, a => sh k a / 4
noncomputable def prc : Nat → Int → Int → Int
  | 0, _, _ => 0
  | k + 1, a, b => prc k a b + digP (sh k a) (sh k b)
/-- the price of two leaves: figure by figure -/
noncomputable def price (a b : Int) : Int := prc 4 a b
noncomputable def PriceJ (a b : Int) (i : Nat) (m : Str → Option Value) : Prop :=
  ∃ t1 t2 t3, m (S' "price") = some (.int (prc i a b) t1) ∧ m (S' "one") = some (.int (sh i a) t2) ∧ m (S' "other") = some (.int (sh i b) t3)
theorem m4 (a : Int) : a.fmod 4 = a % 4 := Int.fmod_eq_emod_of_nonneg _ (by decide)
theorem d4 (a : Int) : a.fdiv 4 = a / 4 := Int.fdiv_eq_ediv_of_nonneg _ (by decide)
theorem d2 (a : Int) : a.fdiv 2 = a / 2 := Int.fdiv_eq_ediv_of_nonneg _ (by decide)
theorem price_a {p x y : Int} (h : (x.fmod 4).fdiv 2 ≠ (y.fmod 4).fdiv 2) : p + 2 = p + digP x y := by
  rw [m4, m4, d2, d2] at h; unfold digP; rw [if_neg h]
theorem price_b {p x y : Int} (h : (x.fmod 4).fdiv 2 = (y.fmod 4).fdiv 2) (h2 : x.fmod 4 ≠ y.fmod 4) : p + 1 = p + digP x y := by
  rw [m4, m4, d2, d2] at h; rw [m4, m4] at h2; unfold digP; rw [if_pos h, if_neg h2]
theorem price_c {p x y : Int} (h2 : x.fmod 4 = y.fmod 4) : p = p + digP x y := by
  rw [m4, m4] at h2; unfold digP; rw [if_pos (by rw [h2]), if_pos h2]; (first | lia | omega)
theorem PriceJ.step {a b p x y : Int} {i : Nat} {m : Str → Option Value} {t1 t2 t3 : Tok} (h1 : m (S' "price") = some (.int p t1)) (h2 : m (S' "one") = some (.int (x.fdiv 4) t2)) (h3 : m (S' "other") = some (.int (y.fdiv 4) t3))
    (e2 : x = sh i a) (e3 : y = sh i b) (e1 : p = prc i a b + digP (sh i a) (sh i b)) : PriceJ a b (i + 1) m := by
  subst e1 e2 e3; rw [d4] at h2 h3; exact ⟨_, _, _, h1, h2, h3⟩



theorem price_call (w : World) (news : List (Addr × Obj)) (p1 p2 : Int) (t1 t2 : Tok) :
    Call1 1 w 120 news [.int p1 t1, .int p2 t2] (fun v news' => (∃ t, v = .int (price p1 p2) t) ∧ news' = news) := by
  have hrow : PySem.Challenge.rw_ty0036_02.most = some 63 := rfl
  unfold Call1
  revert hrow
  k_with_none
  w_top off
  k_with "storeName" => ((k_here; k_dflt (refine' storeX_Lf ?zweg ?zwed ?zweo ?zwet ?zwF ?zwN ?_ ?zwa ?zwb; (case zweg => dsimp only); (case zwed => dsimp only); (case zweo => dsimp only); (case zwet => dsimp only); (case zwF => k_asm); (case zwN => k_asm); (case zwa => rfl); (case zwb => rfl); k_whole; walk_at "pm0"; (try k_sweep))))
  k_with "tb_start" => (k_dflt (first
  | (refine' code_def ?zwk1 ?zwk2 ?zwk3 ?zwk4 ?zwk5 ?zwkA ?zwkF ?zwkK ?zwk6 ?zwk7 ?zwk8 ?zwk9 ?zwkB ?_ ?zwc2 ?zwc3 ?zwc4 ?zwc5; (case zwkA => exact rfl); (case zwkF => exact rfl); (case zwkK => first | assumption | exact rfl); (case zwk1 => k_asm); (case zwk2 => k_asm); (case zwk3 => k_asm); (case zwk4 => k_asm); (case zwk5 => k_asm); (case zwk6 => k_is); (case zwk7 => k_is); (case zwk8 => ktr_room); (case zwk9 => first | exact BindsTo.of_eq rfl | (refine' kp_binds ?zwkx ?zwke; (case zwkx => k_in); (case zwke => exact fun _ => rfl))); (case zwc5 => decide); (case zwkB => exact locs rfl); (case zwc2 => exact rfl); (case zwc3 => exact rfl); (case zwc4 => exact rfl); k_whole; walk_at "pm1"; (try dsimp only); (try k_fold))
  | (refine' code_defC ?zwk1 ?zwk2 ?zwk3 ?zwk4 ?zwk5 ?zwkA ?zwkF ?zwkK ?zwk6 ?zwk7 ?zwk8 ?zwk9 ?zwkB ?zwkD ?_ ?zwc2 ?zwc3 ?zwc4; (case zwkA => exact rfl); (case zwkF => exact rfl); (case zwkK => first | assumption | exact rfl); (case zwk1 => k_asm); (case zwk2 => k_asm); (case zwk3 => k_asm); (case zwk4 => k_asm); (case zwk5 => k_asm); (case zwk6 => k_is); (case zwk7 => k_is); (case zwk8 => ktr_room); (case zwk9 => first | exact BindsTo.of_eq rfl | (refine' kp_binds ?zwkx ?zwke; (case zwkx => k_in); (case zwke => exact fun _ => rfl))); (case zwkB => exact rfl); (case zwkD => decide +kernel); (case zwc2 => exact rfl); (case zwc3 => exact rfl); (case zwc4 => exact rfl); k_whole; walk_at "pm2"; (try dsimp only); (try k_fold))))
  k_with "k_all" => (first | assumption | exact all_ne (by assumption) (by omega) | fail)
  k_with "call ref" => ((k_here; refine wpAny_call ?_; k_extra "tb_start"))
  k_with "loadName" => ((k_here; k_dflt (refine' ldn ?zwk1 ?zwk2 ?_; (case zwk1 => k_asm); (case zwk2 => (repeat (first | assumption | exact if_pos rfl | refine' (if_neg (by decide)).trans ?_))))))
  k_with "eval Name" => ((k_here; name_kind "local"; k_dflt (refine' ld ?zwk1 ?zwk2 ?_; (case zwk1 => k_asm); (case zwk2 => (repeat (first | assumption | exact if_pos rfl | refine' (if_neg (by decide)).trans ?_))); k_whole)))
  k_with "pyIter ref" => ((k_here; refine stop_intro ?_))
  k_with "exec For" => ((k_here; k_dflt (refine' for_ruleL ?zwhF ?zwhs ?_; (case zwhF => k_asm); (case zwhs => intro _; rfl))))
  k_with "exec For Name Name cons nil" => ((k_here; k_dflt (refine' for_ruleL ?zwhF ?zwhs ?_; (case zwhF => k_asm); (case zwhs => intro _; rfl))))
  k_with "exec For Name Subscript cons nil" => ((k_here; k_dflt (refine' for_ruleL ?zwhF ?zwhs ?_; (case zwhF => k_asm); (case zwhs => intro _; rfl))))
  k_with "exec For Name Call cons nil" => ((k_here; k_dflt (refine' for_ruleL ?zwhF ?zwhs ?_; (case zwhF => k_asm); (case zwhs => intro _; rfl))))
  k_with "exec For Tuple Name cons nil" => ((k_here; k_dflt (refine' for_ruleL ?zwhF ?zwhs ?_; (case zwhF => k_asm); (case zwhs => intro _; rfl))))
  k_with "exec For Tuple" => ((k_here; k_dflt (refine' for_ruleL ?zwhF ?zwhs ?_; (case zwhF => k_asm); (case zwhs => intro _; rfl))))
  k_with "ForPost" => ((k_dflt (refine' RJ.end_ ?zwzzF ?zwzzN ?zwzzI ?zwzzR ?zwzzl ?zwzzj; (case zwzzF => k_asm); (case zwzzN => k_asm); (case zwzzI => k_mem); (case zwzzR => (repeat (first | (refine List.forall_mem_cons.mpr ⟨(by k_mem), ?_⟩) | (intro p9 hp9; (repeat (first | exact hp9 | apply List.Mem.tail)))))); (case zwzzl => assumption); (case zwzzj => (refine' PriceJ.step ?zwzza ?zwzzb ?zwzzc rfl rfl ?zwzzd; (case zwzza => (repeat (first | assumption | exact if_pos rfl | refine' (if_neg (by decide)).trans ?_))); (case zwzzb => (repeat (first | assumption | exact if_pos rfl | refine' (if_neg (by decide)).trans ?_))); (case zwzzc => (repeat (first | assumption | exact if_pos rfl | refine' (if_neg (by decide)).trans ?_))); (case zwzzd => first | exact price_a (by assumption) | exact price_b (by assumption) (by assumption) | exact price_c (by assumption)))))))
  k_with "k_all" => (first | assumption | exact all_ne (by assumption) (by omega) | fail)
  k_fill
  intro hrow
  clear hrow
  intro p loose mean mg mb dp un gd cn cs a ccd cl outer A₀ base h₀ L m s Q E B F X N T hk hdp hun hret
  refine wpAny_call ?_
  k_extra "tb_start"
  refine tok_gen fun tk0 => ?_
  k_steps
  (first | refine stop_elim ?_ | (rotate_left 1; refine stop_elim ?_) | (rotate_left 2; refine stop_elim ?_) | (rotate_left 3; refine stop_elim ?_) | (rotate_left 4; refine stop_elim ?_) | (rotate_left 5; refine stop_elim ?_) | (rotate_left 6; refine stop_elim ?_) | (rotate_left 7; refine stop_elim ?_) | (rotate_left 8; refine stop_elim ?_) | (rotate_left 9; refine stop_elim ?_) | (rotate_left 10; refine stop_elim ?_) | (rotate_left 11; refine stop_elim ?_) | (rotate_left 12; refine stop_elim ?_) | (rotate_left 13; refine stop_elim ?_) | (rotate_left 14; refine stop_elim ?_) | (rotate_left 15; refine stop_elim ?_) | (rotate_left 16; refine stop_elim ?_) | (rotate_left 17; refine stop_elim ?_) | (rotate_left 18; refine stop_elim ?_) | (rotate_left 19; refine stop_elim ?_) )
  refine' srcF_range rfl ?F ?N ?hr ?sm ?hn ?_
  case F => k_asm
  case N => k_asm
  case hr => assumption
  case sm => decide
  case hn => exact rfl
  intro it9 s9 S9
  obtain ⟨g9, e9⟩ := SrcF.same S9
  subst e9
  refine' range_loop (n := 4) (PriceJ p1 p2) S9 ?j0 ?turn ?_
  case j0 => refine ⟨?u1, ?u2, ?u3, ?a1, ?a2, ?a3⟩; (case a1 => exact if_pos rfl); (case a2 => refine (if_neg (by decide)).trans ?_; rfl); (case a3 => refine (if_neg (by decide)).trans ?_; rfl)
  case turn =>
    intro i t m1 I oI h tk E' hi zr0 hlt F9 N9
    (try (refine absL ?_; intro QL9))
    (try k_fold)
    obtain ⟨t4, t5, t6, hp, ho, hq⟩ := zr0
    (try k_fold)
    k_steps
  intro h9 tk9 m1 zr0 F9 N9
  (try k_fold)
  obtain ⟨t4, t5, t6, hp, ho, hq⟩ := zr0
  (try k_fold)
  k_steps
  refine hret _ _ _ _ ⟨⟨_, rfl⟩, rfl⟩ (by k_asm) ?_; (intro p9 hp9; refine (show News _ _ _ _ by k_asm) p9 ?_; k_ownIn)
end Mine
end
section
set_option maxRecDepth 100000
set_option maxHeartbeats 3600000
namespace Mine
theorem sub40 {a b k : Nat} (h : a = b - k) (hb : b ≤ 40) : a ≤ 40 := h ▸ Nat.le_trans (Nat.sub_le _ _) hb
theorem eq40 {a b : Nat} (h : a = b) (hb : b ≤ 40) : a ≤ 40 := h ▸ hb
theorem le40 {n : Nat} (h : n ≤ 40) : n ≤ 1000 := Nat.le_trans h (by decide)
noncomputable def SameLen (a b : List Nat) : Prop := a.length = b.length
theorem SameLen.len {a b : List Nat} (h : SameLen a b) : a.length = b.length := h
theorem sameLen {a b u v : List Nat} {k : Nat} (h : b.length = v.length - k) (e : SameLen u v) (h' : a.length = u.length - k) : SameLen a b := by
  show a.length = b.length
  rw [h, h', (show u.length = v.length from e)]
theorem sameLen0 {a b u v : List Nat} (h : b.length = v.length) (e : SameLen u v) (h' : a.length = u.length) : SameLen a b := h'.trans ((show u.length = v.length from e).trans h.symm)
theorem pos_of {a b : List Nat} (h : SameLen a b) (ha : 0 < a.length) : 0 < b.length := (show a.length = b.length from h) ▸ ha
theorem take_lt {x u : List Nat} {q : Nat} (h : x.length = u.length - (-(-((q : Nat) : Int))).toNat) (h0 : 0 < x.length) : q < u.length := by
  rw [Int.neg_neg, Int.toNat_natCast] at h; omega
theorem all_lt {x u : List Nat} {q : Nat} (h : x.length = u.length) (hq : -((q : Nat) : Int) = 0) (h0 : 0 < x.length) : q < u.length := by omega
theorem neg_ok {q n : Nat} (h : q < n) : -((n : Nat) : Int) ≤ -((q : Nat) : Int) - 1 := by (first | lia | omega)
theorem neg_okB {q : Nat} {a b : List Nat} (e : SameLen a b) (h : q < a.length) : -((b.length : Nat) : Int) ≤ -((q : Nat) : Int) - 1 := (show a.length = b.length from e) ▸ neg_ok h
theorem nn_ok {q n : Nat} (h : q ≤ n) : -(-((q : Nat) : Int)) ≤ ((n : Nat) : Int) := by rw [Int.neg_neg]; exact Int.ofNat_le.mpr h
theorem nn_okB {q : Nat} {a b : List Nat} (e : SameLen a b) (h : q ≤ a.length) : -(-((q : Nat) : Int)) ≤ ((b.length : Nat) : Int) := (show a.length = b.length from e) ▸ nn_ok h
theorem leB {q : Nat} {a b : List Nat} (e : SameLen a b) (h : q ≤ a.length) : q ≤ b.length := (show a.length = b.length from e) ▸ h
theorem drop_lt {x u : List Nat} {q : Nat} (h : x.length = u.length - ((q : Nat) : Int).toNat) (h0 : 0 < x.length) : q < u.length := by
  rw [Int.toNat_natCast] at h; omega
theorem drop_ltB {x u v : List Nat} {q : Nat} (e : SameLen u v) (h : x.length = u.length - ((q : Nat) : Int).toNat) (h0 : 0 < x.length) : ((q : Nat) : Int) < v.length := (show u.length = v.length from e) ▸ Int.ofNat_lt.mpr (drop_lt h h0)
theorem drop_ltI {x u : List Nat} {q : Nat} (h : x.length = u.length - ((q : Nat) : Int).toNat) (h0 : 0 < x.length) : ((q : Nat) : Int) < u.length := Int.ofNat_lt.mpr (drop_lt h h0)








































theorem lev_call (w : World) (news : List (Addr × Obj)) (t1 t2 t3 : Tok) (u v : List Nat) (mx : Int) (hl : u.length = v.length) (hz : u.length ≤ 40) (hap : Apart u v) (hmx : wcost u v ≤ mx) :
    Call1 3 w 99 news [.str (Tx u) t1, .str (Tx v) t2, .int mx t3] (fun v' news' => (∃ t, v' = .int (wcost u v) t) ∧ news' = news) := by
  have hrow : PySem.Challenge.rw_ty0036_02.most = some 63 := rfl
  unfold Call1
  revert hrow
  k_with_none
  w_top off
  k_with "storeName" => ((k_here; k_dflt (refine' storeX_Lf ?zqeg ?zqed ?zqeo ?zqet ?zqF ?zqN ?_ ?zqa ?zqb; (case zqeg => dsimp only); (case zqed => dsimp only); (case zqeo => dsimp only); (case zqet => dsimp only); (case zqF => k_asm); (case zqN => k_asm); (case zqa => rfl); (case zqb => rfl); k_whole; intro h' F' N'; (try k_sweep))))
  k_with "tb_start" => (k_dflt (first
  | (refine' code_def ?zqk1 ?zqk2 ?zqk3 ?zqk4 ?zqk5 ?zqkA ?zqkF ?zqkK ?zqk6 ?zqk7 ?zqk8 ?zqk9 ?zqkB ?_ ?zqc2 ?zqc3 ?zqc4 ?zqc5; (case zqkA => exact rfl); (case zqkF => exact rfl); (case zqkK => first | assumption | exact rfl); (case zqk1 => k_asm); (case zqk2 => k_asm); (case zqk3 => k_asm); (case zqk4 => k_asm); (case zqk5 => k_asm); (case zqk6 => k_is); (case zqk7 => k_is); (case zqk8 => ktr_room); (case zqk9 => first | exact BindsTo.of_eq rfl | (refine' kp_binds ?zqkx ?zqke; (case zqkx => k_in); (case zqke => exact fun _ => rfl))); (case zqc5 => decide); (case zqkB => exact locs rfl); (case zqc2 => exact rfl); (case zqc3 => exact rfl); (case zqc4 => exact rfl); k_whole; intro g' L' h' FG' F' N' B' X' T'; (try dsimp only); (try k_lift B'); (try k_fold))
  | (refine' code_defC ?zqk1 ?zqk2 ?zqk3 ?zqk4 ?zqk5 ?zqkA ?zqkF ?zqkK ?zqk6 ?zqk7 ?zqk8 ?zqk9 ?zqkB ?zqkD ?_ ?zqc2 ?zqc3 ?zqc4; (case zqkA => exact rfl); (case zqkF => exact rfl); (case zqkK => first | assumption | exact rfl); (case zqk1 => k_asm); (case zqk2 => k_asm); (case zqk3 => k_asm); (case zqk4 => k_asm); (case zqk5 => k_asm); (case zqk6 => k_is); (case zqk7 => k_is); (case zqk8 => ktr_room); (case zqk9 => first | exact BindsTo.of_eq rfl | (refine' kp_binds ?zqkx ?zqke; (case zqkx => k_in); (case zqke => exact fun _ => rfl))); (case zqkB => exact rfl); (case zqkD => decide +kernel); (case zqc2 => exact rfl); (case zqc3 => exact rfl); (case zqc4 => exact rfl); k_whole; intro g' L' h' tk' cells' FG' F' N' Y' B' X' T' l1; (try k_lt l1); k_cells Y'; (try simp only [List.cons_append, List.nil_append] at N'); (try dsimp only); (try k_lift B'); (try k_fold))))
  k_with "call ref" => ((k_here; refine wpAny_call ?_; k_extra "tb_start"))
  k_with "loadName" => ((k_here; k_dflt (refine' ldn ?zqk1 ?zqk2 ?_; (case zqk1 => k_asm); (case zqk2 => (repeat (first | assumption | exact if_pos rfl | refine' (if_neg (by decide)).trans ?_))))))
  k_with "eval Name" => ((k_here; name_kind "local"; k_dflt (refine' ld ?zqk1 ?zqk2 ?_; (case zqk1 => k_asm); (case zqk2 => (repeat (first | assumption | exact if_pos rfl | refine' (if_neg (by decide)).trans ?_))); k_whole)))
  k_with "subscriptTail" => ((k_here; (with_reducible show wpAny _ _ (subscriptTail _ _ (Value.str (Tx _) _) (Value.int _ _)) _ _ _); k_dflt (first | (refine' my_sign ?zqh1 ?zqh2 ?zqh3 ?_ ?zqhs ?zqht; (case zqhs => with_unfolding_all rfl); (case zqht => intro _; with_unfolding_all rfl); (case zqh1 => first | exact Int.natCast_nonneg _ | omega); (case zqh2 => first | exact drop_ltI (by assumption) (by assumption) | exact drop_ltB (by assumption) (by assumption) (by assumption) | exact nn_ok (by assumption) | exact nn_okB (by assumption) (by assumption) | exact neg_ok (take_lt (by assumption) (by assumption)) | exact neg_ok (all_lt (by assumption) (by assumption) (by assumption)) | exact neg_okB (by assumption) (take_lt (by assumption) (by assumption)) | exact neg_okB (by assumption) (all_lt (by assumption) (by assumption) (by assumption)) | omega); (case zqh3 => first | exact le40 (by assumption) | omega)) | (refine' my_signN ?zqh1 ?zqh2 ?zqh3 ?_ ?zqhs ?zqht; (case zqhs => with_unfolding_all rfl); (case zqht => intro _; with_unfolding_all rfl); (case zqh1 => first | exact Int.natCast_nonneg _ | omega); (case zqh2 => first | exact drop_ltI (by assumption) (by assumption) | exact drop_ltB (by assumption) (by assumption) (by assumption) | exact nn_ok (by assumption) | exact nn_okB (by assumption) (by assumption) | exact neg_ok (take_lt (by assumption) (by assumption)) | exact neg_ok (all_lt (by assumption) (by assumption) (by assumption)) | exact neg_okB (by assumption) (take_lt (by assumption) (by assumption)) | exact neg_okB (by assumption) (all_lt (by assumption) (by assumption) (by assumption)) | omega); (case zqh3 => first | exact le40 (by assumption) | omega)))))
  k_with "subscriptTail Name Name str int" => ((k_here; (with_reducible show wpAny _ _ (subscriptTail _ _ (Value.str (Tx _) _) (Value.int _ _)) _ _ _); k_dflt (first | (refine' my_sign ?zqh1 ?zqh2 ?zqh3 ?_ ?zqhs ?zqht; (case zqhs => with_unfolding_all rfl); (case zqht => intro _; with_unfolding_all rfl); (case zqh1 => first | exact Int.natCast_nonneg _ | omega); (case zqh2 => first | exact drop_ltI (by assumption) (by assumption) | exact drop_ltB (by assumption) (by assumption) (by assumption) | exact nn_ok (by assumption) | exact nn_okB (by assumption) (by assumption) | exact neg_ok (take_lt (by assumption) (by assumption)) | exact neg_ok (all_lt (by assumption) (by assumption) (by assumption)) | exact neg_okB (by assumption) (take_lt (by assumption) (by assumption)) | exact neg_okB (by assumption) (all_lt (by assumption) (by assumption) (by assumption)) | omega); (case zqh3 => first | exact le40 (by assumption) | omega)) | (refine' my_signN ?zqh1 ?zqh2 ?zqh3 ?_ ?zqhs ?zqht; (case zqhs => with_unfolding_all rfl); (case zqht => intro _; with_unfolding_all rfl); (case zqh1 => first | exact Int.natCast_nonneg _ | omega); (case zqh2 => first | exact drop_ltI (by assumption) (by assumption) | exact drop_ltB (by assumption) (by assumption) (by assumption) | exact nn_ok (by assumption) | exact nn_okB (by assumption) (by assumption) | exact neg_ok (take_lt (by assumption) (by assumption)) | exact neg_ok (all_lt (by assumption) (by assumption) (by assumption)) | exact neg_okB (by assumption) (take_lt (by assumption) (by assumption)) | exact neg_okB (by assumption) (all_lt (by assumption) (by assumption) (by assumption)) | omega); (case zqh3 => first | exact le40 (by assumption) | omega)))))
  k_with "subscriptTail Name BinOp str int" => ((k_here; (with_reducible show wpAny _ _ (subscriptTail _ _ (Value.str (Tx _) _) (Value.int _ _)) _ _ _); k_dflt (first | (refine' my_sign ?zqh1 ?zqh2 ?zqh3 ?_ ?zqhs ?zqht; (case zqhs => with_unfolding_all rfl); (case zqht => intro _; with_unfolding_all rfl); (case zqh1 => first | exact Int.natCast_nonneg _ | omega); (case zqh2 => first | exact drop_ltI (by assumption) (by assumption) | exact drop_ltB (by assumption) (by assumption) (by assumption) | exact nn_ok (by assumption) | exact nn_okB (by assumption) (by assumption) | exact neg_ok (take_lt (by assumption) (by assumption)) | exact neg_ok (all_lt (by assumption) (by assumption) (by assumption)) | exact neg_okB (by assumption) (take_lt (by assumption) (by assumption)) | exact neg_okB (by assumption) (all_lt (by assumption) (by assumption) (by assumption)) | omega); (case zqh3 => first | exact le40 (by assumption) | omega)) | (refine' my_signN ?zqh1 ?zqh2 ?zqh3 ?_ ?zqhs ?zqht; (case zqhs => with_unfolding_all rfl); (case zqht => intro _; with_unfolding_all rfl); (case zqh1 => first | exact Int.natCast_nonneg _ | omega); (case zqh2 => first | exact drop_ltI (by assumption) (by assumption) | exact drop_ltB (by assumption) (by assumption) (by assumption) | exact nn_ok (by assumption) | exact nn_okB (by assumption) (by assumption) | exact neg_ok (take_lt (by assumption) (by assumption)) | exact neg_ok (all_lt (by assumption) (by assumption) (by assumption)) | exact neg_okB (by assumption) (take_lt (by assumption) (by assumption)) | exact neg_okB (by assumption) (all_lt (by assumption) (by assumption) (by assumption)) | omega); (case zqh3 => first | exact le40 (by assumption) | omega)))))
  k_with "subscriptTail Name Slice str ref" => ((k_here; (with_reducible show wpAny _ _ (subscriptTail _ (Expr.Slice (some _) none none _) (Value.str (Tx _) _) _) _ _ _); refine' my_from (s := ⟨_, _, _, _, _⟩) (hs := ?zqhs) (ht := ?zqht) (hF := ?zqF) (hN := ?zqN) (h0 := ?zqh1) (h1 := ?zqh2) (hz := ?zqh3) ?_; (case zqF => k_asm); (case zqN => k_asm); (case zqh1 => first | exact Int.natCast_nonneg _ | omega); (case zqh2 => first | exact drop_ltI (by assumption) (by assumption) | exact drop_ltB (by assumption) (by assumption) (by assumption) | exact nn_ok (by assumption) | exact nn_okB (by assumption) (by assumption) | exact neg_ok (take_lt (by assumption) (by assumption)) | exact neg_ok (all_lt (by assumption) (by assumption) (by assumption)) | exact neg_okB (by assumption) (take_lt (by assumption) (by assumption)) | exact neg_okB (by assumption) (all_lt (by assumption) (by assumption) (by assumption)) | omega); (case zqh3 => first | exact le40 (by assumption) | omega); (case zqhs => with_unfolding_all rfl); (case zqht => intro _; with_unfolding_all rfl); intro x9 h9 t9 tk9 e9 l9 F9 N9; (try have s40 := sub40 l9 (by assumption)); (try have s40 := eq40 l9 (by assumption)); (try have s41 := sameLen l9 (by first | assumption | exact SameLen.symm (by assumption)) (by assumption)); (try have s41 := sameLen0 l9 (by first | assumption | exact SameLen.symm (by assumption)) (by assumption))))
  k_with "subscriptTail Name Slice str ref" => ((k_here; (with_reducible show wpAny _ _ (subscriptTail _ (Expr.Slice none (some _) none _) (Value.str (Tx _) _) _) _ _ _); (first | (refine' my_to (s := ⟨_, _, _, _, _⟩) (hs := ?zqhs) (ht := ?zqht) (hF := ?zqF) (hN := ?zqN) (h0 := ?zqh1) (h1 := ?zqh2) (hz := ?zqh3) ?_; (case zqF => k_asm); (case zqN => k_asm); (case zqh1 => first | exact Int.natCast_nonneg _ | omega); (case zqh2 => first | exact drop_ltI (by assumption) (by assumption) | exact drop_ltB (by assumption) (by assumption) (by assumption) | exact nn_ok (by assumption) | exact nn_okB (by assumption) (by assumption) | exact neg_ok (take_lt (by assumption) (by assumption)) | exact neg_ok (all_lt (by assumption) (by assumption) (by assumption)) | exact neg_okB (by assumption) (take_lt (by assumption) (by assumption)) | exact neg_okB (by assumption) (all_lt (by assumption) (by assumption) (by assumption)) | omega); (case zqh3 => first | exact le40 (by assumption) | omega); (case zqhs => with_unfolding_all rfl); (case zqht => intro _; with_unfolding_all rfl)) | (refine' my_all (s := ⟨_, _, _, _, _⟩) (hs := ?zqhs) (ht := ?zqht) (hF := ?zqF) (hN := ?zqN) (hz := ?zqh3) ?_; (case zqF => k_asm); (case zqN => k_asm); (case zqh3 => first | exact le40 (by assumption) | omega); (case zqhs => with_unfolding_all rfl); (case zqht => intro _; with_unfolding_all rfl))); intro x9 h9 t9 tk9 e9 l9 F9 N9; (try have s40 := sub40 l9 (by assumption)); (try have s40 := eq40 l9 (by assumption)); (try have s41 := sameLen l9 (by first | assumption | exact SameLen.symm (by assumption)) (by assumption)); (try have s41 := sameLen0 l9 (by first | assumption | exact SameLen.symm (by assumption)) (by assumption))))
  k_with "truthy str" => ((k_here; (with_reducible show wpAny _ _ (truthy (Value.str (Tx _) _)) _ _ _); k_dflt (first | (refine' truthy_tx1 ?zqz ?zql ?_; (case zqz => first | exact le40 (by assumption) | omega); (case zql => first | exact pos_of (by assumption) (by assumption) | exact pos_of (SameLen.symm (by assumption)) (by assumption) | omega); intro tk9) | (refine' truthy_tx0 ?zqz ?zql ?_; (case zqz => first | exact le40 (by assumption) | omega); (case zql => first | exact pos_of (by assumption) (by assumption) | exact pos_of (SameLen.symm (by assumption)) (by assumption) | omega); intro tk9) | (refine' truthy_tx ?zqz ?_ ?_; (case zqz => first | exact le40 (by assumption) | omega); (intro hl9 tk9); rotate_left; (intro hl9 tk9); rotate_right))))
  k_with "call builtin:len" => ((k_here; (with_reducible show wpAny _ _ (call _ [Value.str (Tx _) _]) _ _ _); k_dflt (refine' len_tx ?zqz ?_; (case zqz => first | exact le40 (by assumption) | omega); intro t9 tk9)))
  k_with "call type:list" => ((k_here; k_dflt (refine' list_twos rfl ?zqF ?zqN ?zqr ?zqb ?zqz ?_; (case zqF => k_asm); (case zqN => k_asm); (case zqr => assumption); (case zqb => rfl); (case zqz => first | exact le40 (by assumption) | omega); intro D9 us9 c9 h9 tk9 F9 N9 lt9 hi9; (try k_lt lt9))))
  k_with "exec While BoolOp" => ((k_here; k_dflt (refine' while_rule (Lev2 _ _ _ _ _ _) ?zqF ?zqN (Lev2.start ?zqe ?zqa ?zqb ?zqc ?zqd) ?_ ?_; (case zqF => k_asm); (case zqN => k_asm); (case zqd => (repeat (first | assumption | exact if_pos rfl | refine' (if_neg (by decide)).trans ?_))); (case zqa => (repeat (first | assumption | exact if_pos rfl | refine' (if_neg (by decide)).trans ?_))); (case zqb => (repeat (first | assumption | exact if_pos rfl | refine' (if_neg (by decide)).trans ?_))); (case zqc => (repeat (first | assumption | exact if_pos rfl | refine' (if_neg (by decide)).trans ?_))); (case zqe => first | assumption | exact leB (by assumption) (by assumption) | omega); (intro n9 m9 h9 tk9 E9 F9 N9 j9; obtain ⟨q9, tq9, hq9, hqn9, ht9, hla9, hlb9, hlc9, hld9⟩ := j9; (try k_fold)); rotate_left; (intro n9 m9 h9 tk9 F9 N9 j9; obtain ⟨q9, tq9, hq9, hqn9, ht9, hla9, hlb9, hlc9, hld9⟩ := j9; (try k_fold)); rotate_right)))
  k_with "exec While BoolOp" => ((k_here; k_dflt (refine' while_rule (Lev1 _ _ _ _ _ _) ?zqF ?zqN (Lev1.start ?zqa ?zqb ?zqc ?zqd) ?_ ?_; (case zqF => k_asm); (case zqN => k_asm); (case zqd => rfl); (case zqa => rfl); (case zqb => rfl); (case zqc => rfl); (intro n9 m9 h9 tk9 E9 F9 N9 j9; obtain ⟨q9, tq9, hq9, hqn9, ht9, hla9, hlb9, hlc9, hld9⟩ := j9; (try k_fold)); rotate_left; (intro n9 m9 h9 tk9 F9 N9 j9; obtain ⟨q9, tq9, hq9, hqn9, ht9, hla9, hlb9, hlc9, hld9⟩ := j9; (try k_fold)); rotate_right)))
  k_with "WOut" => ((k_dflt (first | (refine' Lev1.out ?zqF ?zqN ?zqhp ?zqhn ?zqh ?zqa ?zqb ?zqc ?zqd; (case zqF => k_asm); (case zqN => k_asm); (case zqd => (repeat (first | assumption | exact if_pos rfl | refine' (if_neg (by decide)).trans ?_))); (case zqa => (repeat (first | assumption | exact if_pos rfl | refine' (if_neg (by decide)).trans ?_))); (case zqb => (repeat (first | assumption | exact if_pos rfl | refine' (if_neg (by decide)).trans ?_))); (case zqc => (repeat (first | assumption | exact if_pos rfl | refine' (if_neg (by decide)).trans ?_))); (case zqhp => first | exact Nat.le_of_lt (by assumption) | assumption | exact drop_lt (by assumption) (by assumption) | exact take_lt (by assumption) (by assumption) | exact all_lt (by assumption) (by assumption) (by assumption) | omega); (case zqhn => first | assumption | omega); (case zqh => assumption)) | (refine' Lev2.out ?zqF ?zqN ?zqhp ?zqhn ?zqh ?zqa ?zqb ?zqc ?zqd; (case zqF => k_asm); (case zqN => k_asm); (case zqd => (repeat (first | assumption | exact if_pos rfl | refine' (if_neg (by decide)).trans ?_))); (case zqa => (repeat (first | assumption | exact if_pos rfl | refine' (if_neg (by decide)).trans ?_))); (case zqb => (repeat (first | assumption | exact if_pos rfl | refine' (if_neg (by decide)).trans ?_))); (case zqc => (repeat (first | assumption | exact if_pos rfl | refine' (if_neg (by decide)).trans ?_))); (case zqhp => first | exact Nat.le_of_lt (by assumption) | assumption | exact drop_lt (by assumption) (by assumption) | exact take_lt (by assumption) (by assumption) | exact all_lt (by assumption) (by assumption) (by assumption) | omega); (case zqhn => first | assumption | omega); (case zqh => assumption)))))
  k_with "WStep" => ((k_dflt (first | (exfalso; omega) | (refine' Lev1.next ?zqF ?zqN ?zqhl ?zqhp ?zqhn ?zqh ?zqhe ?zqa ?zqb ?zqc ?zqd; (case zqF => k_asm); (case zqN => k_asm); (case zqd => (repeat (first | assumption | exact if_pos rfl | refine' (if_neg (by decide)).trans ?_))); (case zqa => (repeat (first | assumption | exact if_pos rfl | refine' (if_neg (by decide)).trans ?_))); (case zqb => (repeat (first | assumption | exact if_pos rfl | refine' (if_neg (by decide)).trans ?_))); (case zqc => (repeat (first | assumption | exact if_pos rfl | refine' (if_neg (by decide)).trans ?_))); (case zqhl => first | exact SameLen.len (by assumption) | exact (SameLen.len (by assumption)).symm | omega); (case zqhp => first | exact Nat.le_of_lt (by assumption) | assumption | exact drop_lt (by assumption) (by assumption) | exact take_lt (by assumption) (by assumption) | exact all_lt (by assumption) (by assumption) (by assumption) | omega); (case zqhn => first | assumption | omega); (case zqh => assumption); (case zqhe => assumption)) | (refine' Lev2.next ?zqF ?zqN ?zqhl ?zqhp ?zqhn ?zqh ?zqhe ?zqa ?zqb ?zqc ?zqd; (case zqF => k_asm); (case zqN => k_asm); (case zqd => (repeat (first | assumption | exact if_pos rfl | refine' (if_neg (by decide)).trans ?_))); (case zqa => (repeat (first | assumption | exact if_pos rfl | refine' (if_neg (by decide)).trans ?_))); (case zqb => (repeat (first | assumption | exact if_pos rfl | refine' (if_neg (by decide)).trans ?_))); (case zqc => (repeat (first | assumption | exact if_pos rfl | refine' (if_neg (by decide)).trans ?_))); (case zqhl => first | exact SameLen.len (by assumption) | exact (SameLen.len (by assumption)).symm | omega); (case zqh => assumption); (case zqhe => assumption);  (case zqhp => first | exact Nat.le_of_lt (by assumption) | assumption | exact drop_lt (by assumption) (by assumption) | exact take_lt (by assumption) (by assumption) | exact all_lt (by assumption) (by assumption) (by assumption) | omega); (case zqhn => first | assumption | omega); skip))))
  k_with "exec Assign" => ((k_here; (with_reducible show wpAny _ _ (exec (Stmt.Assign [Expr.Name (Str.ofString "a") _] (Expr.Subscript _ (Expr.Slice none (some (Expr.BoolOp _ _ _)) none _) _) _) _) _ _ _); (fail_if_success (with_reducible show wpAny _ _ _ (CutEnd _ _ _ _ _) _ _)); k_dflt (refine' cut_a ?zqF ?zqN ?zqa ?zqb ?zqc ?zqd ?zqe ?_ ?_; (case zqF => k_asm); (case zqN => k_asm); (case zqd => (repeat (first | assumption | exact if_pos rfl | refine' (if_neg (by decide)).trans ?_))); (case zqa => (repeat (first | assumption | exact if_pos rfl | refine' (if_neg (by decide)).trans ?_))); (case zqb => (repeat (first | assumption | exact if_pos rfl | refine' (if_neg (by decide)).trans ?_))); (case zqc => (repeat (first | assumption | exact if_pos rfl | refine' (if_neg (by decide)).trans ?_))); (case zqe => first | assumption | exact leB (by assumption) (by assumption) | omega); rotate_left; (intro z9 t9 h9 tk9 m9 e9 l9 la9 lb9 lc9 ld9 F9 N9; (try have s40 := sub40 l9 (by assumption)); (try have s40 := eq40 l9 (by assumption)); (try have s41 := sameLen l9 (by first | assumption | exact SameLen.symm (by assumption)) (by assumption)); (try have s41 := sameLen0 l9 (by first | assumption | exact SameLen.symm (by assumption)) (by assumption)); (try have s42 := SameLen.len s41); (try k_fold)); rotate_right)))
  k_with "exec Assign" => ((k_here; (with_reducible show wpAny _ _ (exec (Stmt.Assign [Expr.Name (Str.ofString "b") _] (Expr.Subscript _ (Expr.Slice none (some (Expr.BoolOp _ _ _)) none _) _) _) _) _ _ _); (fail_if_success (with_reducible show wpAny _ _ _ (CutEnd _ _ _ _ _) _ _)); k_dflt (refine' cut_b ?zqF ?zqN ?zqa ?zqb ?zqc ?zqd ?zqe ?_ ?_; (case zqF => k_asm); (case zqN => k_asm); (case zqd => (repeat (first | assumption | exact if_pos rfl | refine' (if_neg (by decide)).trans ?_))); (case zqa => (repeat (first | assumption | exact if_pos rfl | refine' (if_neg (by decide)).trans ?_))); (case zqb => (repeat (first | assumption | exact if_pos rfl | refine' (if_neg (by decide)).trans ?_))); (case zqc => (repeat (first | assumption | exact if_pos rfl | refine' (if_neg (by decide)).trans ?_))); (case zqe => first | assumption | exact leB (by assumption) (by assumption) | omega); rotate_left; (intro z9 t9 h9 tk9 m9 e9 l9 la9 lb9 lc9 ld9 F9 N9; (try have s40 := sub40 l9 (by assumption)); (try have s40 := eq40 l9 (by assumption)); (try have s41 := sameLen l9 (by first | assumption | exact SameLen.symm (by assumption)) (by assumption)); (try have s41 := sameLen0 l9 (by first | assumption | exact SameLen.symm (by assumption)) (by assumption)); (try have s42 := SameLen.len s41); (try k_fold)); rotate_right)))
  k_with "CutEnd" => ((k_dflt (first | (refine' CutA.end_ ?zqF ?zqN ?zqa ?zqe ?zqb ?zqc ?zqd; (case zqF => k_asm); (case zqN => k_asm); (case zqd => (repeat (first | assumption | exact if_pos rfl | refine' (if_neg (by decide)).trans ?_))); (case zqa => (repeat (first | assumption | exact if_pos rfl | refine' (if_neg (by decide)).trans ?_))); (case zqb => (repeat (first | assumption | exact if_pos rfl | refine' (if_neg (by decide)).trans ?_))); (case zqc => (repeat (first | assumption | exact if_pos rfl | refine' (if_neg (by decide)).trans ?_))); (case zqe => first | exact take_neg_ok (by assumption) | exact take_zero_ok (by assumption) (by omega))) | (refine' CutB.end_ ?zqF ?zqN ?zqb ?zqe ?zqa ?zqc ?zqd; (case zqF => k_asm); (case zqN => k_asm); (case zqd => (repeat (first | assumption | exact if_pos rfl | refine' (if_neg (by decide)).trans ?_))); (case zqa => (repeat (first | assumption | exact if_pos rfl | refine' (if_neg (by decide)).trans ?_))); (case zqb => (repeat (first | assumption | exact if_pos rfl | refine' (if_neg (by decide)).trans ?_))); (case zqc => (repeat (first | assumption | exact if_pos rfl | refine' (if_neg (by decide)).trans ?_))); (case zqe => first | exact take_neg_ok (by assumption) | exact take_zero_ok (by assumption) (by omega))))))
  k_with "exec For Name Call cons nil" => ((k_here; k_dflt (refine' for_ruleL ?zqhF ?zqhs ?_; (case zqhF => k_asm); (case zqhs => intro _; rfl))))
  k_with "pyIter ref" => ((k_here; k_dflt (refine' srcF_range rfl ?zqF ?zqN ?zqhr ?zqsm ?zqhn ?_; (case zqF => k_asm); (case zqN => k_asm); (case zqhr => assumption); (case zqsm => exact small_one (by omega) (by omega) (by omega) (by omega)); (case zqhn => exact range0 _); intro it9 s9 S9; obtain ⟨g9, e9⟩ := SrcF.same S9; subst e9; first
  | (refine' lev_inner S9 rfl ?zqu ?zqr ?zqy ?zqz ?zqa ?zqb ?zqc ?zqd ?zqe ?zqf ?zqg ?zqh ?zqi ?_ ?_; (case zqf => (repeat (first | assumption | exact if_pos rfl | refine' (if_neg (by decide)).trans ?_))); (case zqa => (repeat (first | assumption | exact if_pos rfl | refine' (if_neg (by decide)).trans ?_))); (case zqb => (repeat (first | assumption | exact if_pos rfl | refine' (if_neg (by decide)).trans ?_))); (case zqc => (repeat (first | assumption | exact if_pos rfl | refine' (if_neg (by decide)).trans ?_))); (case zqd => (repeat (first | assumption | exact if_pos rfl | refine' (if_neg (by decide)).trans ?_))); (case zqe => (repeat (first | assumption | exact if_pos rfl | refine' (if_neg (by decide)).trans ?_))); (case zqg => (repeat (first | assumption | exact if_pos rfl | refine' (if_neg (by decide)).trans ?_))); (case zqh => (repeat (first | assumption | exact if_pos rfl | refine' (if_neg (by decide)).trans ?_))); (case zqi => (repeat (first | assumption | exact if_pos rfl | refine' (if_neg (by decide)).trans ?_))); (case zqu => assumption); (case zqr => assumption); (case zqy => assumption); (case zqz => assumption); (intro j9 t9 us9 ns9 c9 tr9 td9 tm9 mi9 m9 I9 oI9 h9 tk9 E9 hj9 hu9 hr9 hm9 la9 lb9 lc9 ld9 le9 lf9 lg9 lh9 li9 off9 F9 N9; (try (refine absL ?_; intro QL9)); (try k_fold)); rotate_left; (intro us9 ns9 c9 tr9 td9 tm9 mi9 h9 tk9 m9 hu9 hr9 hm9 la9 lb9 lc9 ld9 le9 lf9 lg9 lh9 li9 F9 N9; (try k_fold)); rotate_right)
  | (refine' lev_outer S9 rfl ?zql ?zqu ?zqy ?zqz ?zqa ?zqb ?zqc ?zqd ?zqe ?_ ?_; (case zqa => (repeat (first | assumption | exact if_pos rfl | refine' (if_neg (by decide)).trans ?_))); (case zqb => (repeat (first | assumption | exact if_pos rfl | refine' (if_neg (by decide)).trans ?_))); (case zqc => (repeat (first | assumption | exact if_pos rfl | refine' (if_neg (by decide)).trans ?_))); (case zqd => (repeat (first | assumption | exact if_pos rfl | refine' (if_neg (by decide)).trans ?_))); (case zqe => (repeat (first | assumption | exact if_pos rfl | refine' (if_neg (by decide)).trans ?_))); (case zqu => assumption); (case zql => first | exact pos_of (by assumption) (by assumption) | exact pos_of (SameLen.symm (by assumption)) (by assumption) | omega); (case zqy => (refine' lev_facts ?zqf1 ?zqf2 ?zqf3 ?zqf4 ?zqf5 ?zqf6 ?zqf7 ?zqf8 ?zqf9 ?zqf10; (case zqf8 => assumption); (case zqf9 => assumption); (case zqf4 => assumption); (case zqf5 => assumption); (case zqf1 => assumption); (case zqf2 => assumption); (case zqf3 => assumption); (case zqf6 => assumption); (case zqf7 => assumption); (case zqf10 => assumption))); (case zqz => assumption); (intro i9 t9 us9 ns9 c9 tr9 m9 I9 oI9 h9 tk9 E9 hi9 hap9 hcs9 hu9 hr9 la9 lb9 lc9 ld9 le9 off9 F9 N9; (try (refine absL ?_; intro QL9)); (try k_fold)); rotate_left; (intro us9 c9 tr9 h9 tk9 m9 lr9 F9 N9; (try k_fold)); rotate_right))))
  k_with "subscriptTail Name Name ref int" => ((k_here; (with_reducible show wpAny _ _ (subscriptTail _ _ (Value.ref _) (Value.int _ _)) _ _ _); k_dflt (refine' my_cell (hs := ?zqhs) (N := ?zqN) (hm := ?zqm) (hi := ?zqi) (hr := ?zqr) (h1 := ?zqj) (hz := ?zqz) ?_; (case zqhs => with_unfolding_all rfl); (case zqN => k_asm); (case zqm => k_mem); (case zqi => assumption); (case zqr => assumption); (case zqj => assumption); (case zqz => first | exact le40 (by assumption) | omega); intro t9)))
  k_with "setItem ref int" => ((k_here; (with_reducible show wpAny _ _ (setItem (Value.ref _) (Value.int _ _) (Value.int _ _)) _ _ _); k_dflt (refine' my_store ?zqk1 ?zqk2 ?zqk3 ?zqk4 ?zqk5 ?zqk6 ?zqk7 ?_; (case zqk1 => k_asm); (case zqk2 => k_asm); (case zqk3 => exact upd2 (by assumption) (by assumption) (by assumption)); (case zqk4 => assumption); (case zqk5 => assumption); (case zqk6 => assumption); (case zqk7 => omega)); intro h9 F9 N9 hi9))
  k_with "ForPost" => ((k_dflt (first
  | (refine' InnJ.end_ ?zqF ?zqN ?zqs ?zqo ?zqu ?zqr ?zqj ?zqa ?zqb ?zqc ?zqd ?zqe ?zqf ?zqg ?zqh ?zqi ?zqx1 ?zqx2 ?zqx3 ?zqx4 ?zqx5; (case zqF => k_asm); (case zqN => k_asm); (case zqf => (repeat (first | assumption | exact if_pos rfl | refine' (if_neg (by decide)).trans ?_))); (case zqa => (repeat (first | assumption | exact if_pos rfl | refine' (if_neg (by decide)).trans ?_))); (case zqb => (repeat (first | assumption | exact if_pos rfl | refine' (if_neg (by decide)).trans ?_))); (case zqc => (repeat (first | assumption | exact if_pos rfl | refine' (if_neg (by decide)).trans ?_))); (case zqd => (repeat (first | assumption | exact if_pos rfl | refine' (if_neg (by decide)).trans ?_))); (case zqe => (repeat (first | assumption | exact if_pos rfl | refine' (if_neg (by decide)).trans ?_))); (case zqg => (repeat (first | assumption | exact if_pos rfl | refine' (if_neg (by decide)).trans ?_))); (case zqh => (repeat (first | assumption | exact if_pos rfl | refine' (if_neg (by decide)).trans ?_))); (case zqi => (repeat (first | assumption | exact if_pos rfl | refine' (if_neg (by decide)).trans ?_))); (case zqs => (intro p9 hp9; k_ownIn)); (case zqu => assumption); (case zqr => assumption); (case zqj => assumption); (case zqo => assumption); (case zqx4 => assumption); (case zqx1 => rfl); (case zqx3 => rfl); (case zqx2 => exact dd_turn (by assumption) (by assumption) (by assumption)); (case zqx5 => first | exact ⟨Int.le_of_lt (by assumption), Int.le_refl _⟩ | exact ⟨Int.le_refl _, Int.not_lt.mp (by assumption)⟩))
  | (refine' OutJ.end_ ?zqF ?zqN ?zqs ?zqo ?zqu ?zqr ?zqa ?zqb ?zqc ?zqd ?zqe ?zqx1 ?zqx2; (case zqF => k_asm); (case zqN => k_asm); (case zqa => (repeat (first | assumption | exact if_pos rfl | refine' (if_neg (by decide)).trans ?_))); (case zqb => (repeat (first | assumption | exact if_pos rfl | refine' (if_neg (by decide)).trans ?_))); (case zqc => (repeat (first | assumption | exact if_pos rfl | refine' (if_neg (by decide)).trans ?_))); (case zqd => (repeat (first | assumption | exact if_pos rfl | refine' (if_neg (by decide)).trans ?_))); (case zqe => (repeat (first | assumption | exact if_pos rfl | refine' (if_neg (by decide)).trans ?_))); (case zqs => (intro p9 hp9; k_ownIn)); (case zqu => assumption); (case zqr => assumption); (case zqo => assumption); (case zqx1 => assumption); (case zqx2 => rfl)))))
  k_with "call ref" => ((k_here; (with_reducible show wpAny _ _ (call (Value.ref 92) [Value.str (Tx [_]) _, Value.str (Tx [_]) _]) _ _ _); k_dflt (refine' Call1.useI (sub_call _ _ _ _ _ _ ?zqx1 ?zqx2) ?zqk1 ?zqk2 ?zqk3 ?zqk4 ?zqk5 ?zqkK ?zqkd ?zqku ?_; (case zqk1 => k_asm); (case zqk2 => k_asm); (case zqk3 => k_asm); (case zqk4 => k_asm); (case zqk5 => k_asm); (case zqkK => first | exact rfl | assumption); (case zqx1 => (rw [Tx_len]; exact Nat.le_refl 1)); (case zqx2 => (rw [Tx_len]; exact Nat.le_refl 1)); (case zqkd => ktr_room); (case zqku => ktr_units); intro h9 tk9 F9 N9 t9; (try dsimp only); (try k_fold))))
  k_with "k_all" => (first | assumption | exact all_ne (by assumption) (by omega) | fail)
  k_fill
  intro hrow
  clear hrow
  intro p loose mean mg mb dp un gd cn cs a ccd cl outer A₀ base h₀ L m s Q E B F X N T hk hdp hun hret
  refine wpAny_call ?_
  k_extra "tb_start"
  refine tok_gen fun tk0 => ?_
  have hsl : SameLen u v := hl
  have hz2 : v.length ≤ 40 := hl ▸ hz
  have hmx0 : 0 ≤ mx := Int.le_trans (wcost_nonneg u v) hmx
  k_steps
  all_goals first
    | (refine hret _ _ _ _ ⟨ktn_int ?_, rfl⟩ (by k_asm) ?_; rotate_left; (intro p9 hp9; refine (show News _ _ _ _ by k_asm) p9 ?_; (first | exact hp9 | exact .tail _ hp9)); first | exact wcost_eq0 (by assumption) | rfl | (refine' wcost_none ?ff ?g0 ?g1; (case ff => (refine' lev_facts ?f1 ?f2 ?f3 ?f4 ?f5 ?f6 ?f7 ?f8 ?f9 ?f10; (case f8 => assumption); (case f9 => assumption); (case f4 => assumption); (case f5 => assumption); (case f1 => assumption); (case f2 => assumption); (case f3 => assumption); (case f6 => assumption); (case f7 => assumption); (case f10 => assumption))); (case g0 => omega); (case g1 => omega)))
    | fail
end Mine
end
section
namespace Mine
theorem lower_tx {a : Nat} (h : a < 128) : Txt.lower (Tx [a]) = Tx [lo1 a] := by
  rw [lower_ascii (x := Tx [a]) (by intro c hc; simp [Tx] at hc; subst hc; exact h)]
  simp [Tx]
/-- what it costs to turn one letter into another -/
noncomputable def sc (a b : Nat) : Int := if a = b then 0 else if lo1 a = lo1 b then 1 else 2
theorem scost_tx {a b : Nat} (ha : a < 128) (hb : b < 128) : scost (Tx [a]) (Tx [b]) = sc a b := by
  unfold scost sc
  rw [lower_tx ha, lower_tx hb, Tx_inj, Tx_inj]
  simp only [List.cons.injEq, and_true, decide_eq_true_eq]
theorem sgn_lt : ∀ k : Fin 4, ∀ d : Fin 4, (menu k.val).getD d.val 0 < 128 := by decide
theorem sgn_sc : ∀ k : Fin 4, ∀ d e : Fin 4, sc ((menu k.val).getD e.val 0) ((menu k.val).getD d.val 0) = (if d.val / 2 = e.val / 2 then (if d.val = e.val then 0 else 1) else 2) := by decide
theorem sgn_ap : ∀ k l : Fin 4, k ≠ l → ∀ d e : Fin 4, sc ((menu k.val).getD e.val 0) ((menu l.val).getD d.val 0) = 2 := by decide
theorem fig (a : Int) : ∃ d : Fin 4, a % 4 = (d.val : Int) := ⟨⟨(a % 4).toNat, by (first | lia | omega)⟩, by show a % 4 = ((a % 4).toNat : Int); (first | lia | omega)⟩
theorem sgn_fig {k : Nat} {a : Int} {d : Fin 4} (h : a % 4 = (d.val : Int)) : sgn k (a % 4) = (menu k).getD d.val 0 := by unfold sgn; rw [h]; rfl
theorem cost_fig (k : Fin 4) (a b : Int) : scost (Tx [sgn k.val (b % 4)]) (Tx [sgn k.val (a % 4)]) = digP a b := by
  obtain ⟨d, hd⟩ := fig a
  obtain ⟨e, he⟩ := fig b
  rw [sgn_fig hd, sgn_fig he, scost_tx (sgn_lt _ _) (sgn_lt _ _), sgn_sc]
  unfold digP
  rw [hd, he]
  have h1 : ((d.val : Int) / 2 = (e.val : Int) / 2) ↔ (d.val / 2 = e.val / 2) := by (first | lia | omega)
  have h2 : ((d.val : Int) = (e.val : Int)) ↔ (d.val = e.val) := by (first | lia | omega)
  simp only [h1, h2]
theorem digP_bd (a b : Int) : 0 ≤ digP a b ∧ digP a b ≤ 2 := by unfold digP; split <;> (try split) <;> decide
theorem price_eq (a b : Int) : price a b = 0 + digP a b + digP (a / 4) (b / 4) + digP (a / 4 / 4) (b / 4 / 4) + digP (a / 4 / 4 / 4) (b / 4 / 4 / 4) := rfl
theorem price_bd (a b : Int) : 0 ≤ price a b ∧ price a b ≤ 8 := by
  rw [price_eq]
  have h1 := digP_bd a b
  have h2 := digP_bd (a / 4) (b / 4)
  have h3 := digP_bd (a / 4 / 4) (b / 4 / 4)
  have h4 := digP_bd (a / 4 / 4 / 4) (b / 4 / 4 / 4)
  (first | lia | omega)
theorem word_price (a b : Int) : wcost (word2 a) (word2 b) = price a b := by
  show ((((0 : Int) + scost (Tx [sgn 0 (b % 4)]) (Tx [sgn 0 (a % 4)])) + scost (Tx [sgn 1 (b / 4 % 4)]) (Tx [sgn 1 (a / 4 % 4)])) + scost (Tx [sgn 2 (b / 4 / 4 % 4)]) (Tx [sgn 2 (a / 4 / 4 % 4)])) + scost (Tx [sgn 3 (b / 4 / 4 / 4 % 4)]) (Tx [sgn 3 (a / 4 / 4 / 4 % 4)]) = _
  have h0 : scost (Tx [sgn 0 (b % 4)]) (Tx [sgn 0 (a % 4)]) = _ := cost_fig 0 a b
  have h1 : scost (Tx [sgn 1 (b / 4 % 4)]) (Tx [sgn 1 (a / 4 % 4)]) = _ := cost_fig 1 _ _
  have h2 : scost (Tx [sgn 2 (b / 4 / 4 % 4)]) (Tx [sgn 2 (a / 4 / 4 % 4)]) = _ := cost_fig 2 _ _
  have h3 : scost (Tx [sgn 3 (b / 4 / 4 / 4 % 4)]) (Tx [sgn 3 (a / 4 / 4 / 4 % 4)]) = _ := cost_fig 3 _ _
  rw [h0, h1, h2, h3, price_eq]
theorem word_apart (a b : Int) : Apart (word2 a) (word2 b) := by
  have key : ∀ k l : Fin 4, k ≠ l → ∀ x y : Int, scost (Tx [sgn k.val (x % 4)]) (Tx [sgn l.val (y % 4)]) = 2 := by
    intro k l hkl x y
    obtain ⟨d, hd⟩ := fig y
    obtain ⟨e, he⟩ := fig x
    rw [sgn_fig hd, sgn_fig he, scost_tx (sgn_lt _ _) (sgn_lt _ _), sgn_ap _ _ hkl]
  have look : ∀ (c : Int) (i : Nat) (_ : i < 4), ∃ x : Int, (word2 c).getD i 0 = sgn i (x % 4) := by
    intro c i hi
    match i, hi with
    | 0, _ => exact ⟨_, rfl⟩
    | 1, _ => exact ⟨_, rfl⟩
    | 2, _ => exact ⟨_, rfl⟩
    | 3, _ => exact ⟨_, rfl⟩
  intro i j hi hj hne
  obtain ⟨x, hx⟩ := look b i hi
  obtain ⟨y, hy⟩ := look a j hj
  rw [hx, hy]
  exact key ⟨i, hi⟩ ⟨j, hj⟩ (fun e => hne (congrArg Fin.val e)) x y
theorem word_cost (a b : Int) : wcost (word2 a) (word2 b) = price a b ∧ wcost (word2 a) (word2 b) ≤ 8 ∧ Apart (word2 a) (word2 b) :=
  ⟨word_price a b, by rw [word_price]; exact (price_bd a b).2, word_apart a b⟩
theorem digP_comm (a b : Int) : digP a b = digP b a := by
  unfold digP
  by_cases h : a % 4 / 2 = b % 4 / 2
  · rw [if_pos h, if_pos h.symm]
    by_cases h' : a % 4 = b % 4
    · rw [if_pos h', if_pos h'.symm]
    · rw [if_neg h', if_neg (fun e => h' e.symm)]
  · rw [if_neg h, if_neg (fun e => h e.symm)]
theorem price_comm (a b : Int) : price a b = price b a := by rw [price_eq, price_eq, digP_comm, digP_comm (a / 4), digP_comm (a / 4 / 4), digP_comm (a / 4 / 4 / 4)]
theorem digP_zero {a b : Int} (h : digP a b = 0) : a % 4 = b % 4 := by
  unfold digP at h
  by_cases h1 : a % 4 / 2 = b % 4 / 2
  · rw [if_pos h1] at h
    by_cases h2 : a % 4 = b % 4
    · exact h2
    · rw [if_neg h2] at h; exact absurd h (by decide)
  · rw [if_neg h1] at h; exact absurd h (by decide)
theorem digP_self (a : Int) : digP a a = 0 := by unfold digP; simp
theorem price_self (a : Int) : price a a = 0 := by rw [price_eq, digP_self, digP_self, digP_self, digP_self]; rfl
/-- different leaves have a price -/
theorem price_pos {a b : Int} (ha : 1 ≤ a ∧ a ≤ 255) (hb : 1 ≤ b ∧ b ≤ 255) (h : a ≠ b) : 1 ≤ price a b := by
  have h0 := price_bd a b
  by_cases hz : price a b = 0
  · rw [price_eq] at hz
    have h1 := digP_bd a b
    have h2 := digP_bd (a / 4) (b / 4)
    have h3 := digP_bd (a / 4 / 4) (b / 4 / 4)
    have h4 := digP_bd (a / 4 / 4 / 4) (b / 4 / 4 / 4)
    have e1 := digP_zero (show digP a b = 0 by (first | lia | omega))
    have e2 := digP_zero (show digP (a / 4) (b / 4) = 0 by (first | lia | omega))
    have e3 := digP_zero (show digP (a / 4 / 4) (b / 4 / 4) = 0 by (first | lia | omega))
    have e4 := digP_zero (show digP (a / 4 / 4 / 4) (b / 4 / 4 / 4) = 0 by (first | lia | omega))
    (first | lia | omega)
  · (first | lia | omega)
end Mine
end
section
set_option maxRecDepth 100000
set_option maxHeartbeats 8000000
namespace Mine

theorem CompK.intro {prog : Program} {w : World} {A : Around} {h₀ : Heap} {L : Addr} {m : Str → Option Value} {news : List (Addr × Obj)} {env : Env} {elt : Expr} {x : Str} {scope : Scope} {cl : List (Str × Addr)} {Fin : Heap → Addr → (Str → Option Value) → List (Addr × Obj) → Addr → Shared → Prop} {s₁ s₂ : Shared} {it : Value} {n : Nat} {P : Nat → Value → Prop}
    (J : Nat → List Value → List (Addr × Obj) → Prop) (S : SrcAt prog w A h₀ L m news n P s₁ it s₂) (hsz : n ≤ sizeLine) (j0 : J 0 [] news)
    (turn : ∀ i v ys Y I oI C oC K oK D h tk (E' : Value → Shared → Prop), i < n → P i v → J i ys Y → (∀ p ∈ news, p ∈ Y) → Off Y I D [C, K] → C ≠ K → oK.data = .cell (some v) → Fr h₀ L h m → News h₀ L h ((I, oI) :: (C, oC) :: (K, oK) :: (D, LCg.lst ys) :: Y) →
      wpAny (model prog w) A (eval elt (compEnvC scope ((x, K) :: cl) C env)) (TurnE h₀ L m { s₂ with heap := h, toks := tk } I D oI [C, K] [(C, oC), (K, oK)] news ys (J (i + 1))) E' { s₂ with heap := h, toks := tk })
    (hlen : ∀ i ys Y, J i ys Y → ys.length ≤ i)
    (fin : ∀ D ys Y, J n ys Y → (∀ p ∈ news, p ∈ Y) → (∀ p ∈ Y, p.1 ≠ D) → (∀ p ∈ news, p.1 < D) → Fin h₀ L m ((D, listOf ys.toArray ys.length) :: Y) D s₂) : CompK prog w A L env elt x scope cl Fin s₁ it s₂ :=
  ⟨h₀, m, news, n, P, J, S, hsz, j0, turn, hlen, fin⟩
noncomputable def RowJ (ls : List Int) (base : List (Addr × Obj)) (i : Nat) (ys : List Value) (Y : List (Addr × Obj)) : Prop :=
  ∃ as R M, ys = as.map Value.ref ∧ Y = R ++ base ∧ RowsAt as R M ∧ M = (ls.take i).map (fun a => ls.map (price a)) ∧ (R.map (·.1)).Nodup ∧ (∀ p ∈ base, ∀ q ∈ R, p.1 ≠ q.1)


































theorem dearest_call (w : World) (news : List (Addr × Obj)) (lv : Addr) (vs : List Value) (ls : List Int) (n : Nat) (hi : IntsAre vs ls) (hl : 4 ≤ ls.length ∧ ls.length ≤ 5) :
    Call1 3 w 142 ((lv, listOf vs.toArray n) :: news) [.ref lv] (fun v news' => ∃ D as c R, v = .ref D ∧ news' = (D, listOf (List.toArray (as.map Value.ref)) c) :: (R ++ (lv, listOf vs.toArray n) :: news) ∧ RowsAt as R (fwB ls.length (ls.map fun a => ls.map (price a)) ls.length)) := by
  have hvl := hi.length
  have hrow : PySem.Challenge.rw_ty0036_02.most = some 63 := rfl
  unfold Call1
  revert hrow
  k_with_none
  w_top off
  k_with "storeName" => ((k_here; k_dflt (refine' storeX_Lf ?zweg ?zwed ?zweo ?zwet ?zwF ?zwN ?_ ?zwa ?zwb; (case zweg => dsimp only); (case zwed => dsimp only); (case zweo => dsimp only); (case zwet => dsimp only); (case zwF => k_asm); (case zwN => k_asm); (case zwa => rfl); (case zwb => rfl); k_whole; walk_at "pm0"; (try k_sweep))))
  k_with "tb_start" => (k_dflt (first
  | (refine' code_def ?zwk1 ?zwk2 ?zwk3 ?zwk4 ?zwk5 ?zwkA ?zwkF ?zwkK ?zwk6 ?zwk7 ?zwk8 ?zwk9 ?zwkB ?_ ?zwc2 ?zwc3 ?zwc4 ?zwc5; (case zwkA => exact rfl); (case zwkF => exact rfl); (case zwkK => first | assumption | exact rfl); (case zwk1 => k_asm); (case zwk2 => k_asm); (case zwk3 => k_asm); (case zwk4 => k_asm); (case zwk5 => k_asm); (case zwk6 => k_is); (case zwk7 => k_is); (case zwk8 => ktr_room); (case zwk9 => first | exact BindsTo.of_eq rfl | (refine' kp_binds ?zwkx ?zwke; (case zwkx => k_in); (case zwke => exact fun _ => rfl))); (case zwc5 => decide); (case zwkB => exact locs rfl); (case zwc2 => exact rfl); (case zwc3 => exact rfl); (case zwc4 => exact rfl); k_whole; walk_at "pm1"; (try dsimp only); (try k_fold))
  | (refine' code_defC ?zwk1 ?zwk2 ?zwk3 ?zwk4 ?zwk5 ?zwkA ?zwkF ?zwkK ?zwk6 ?zwk7 ?zwk8 ?zwk9 ?zwkB ?zwkD ?_ ?zwc2 ?zwc3 ?zwc4; (case zwkA => exact rfl); (case zwkF => exact rfl); (case zwkK => first | assumption | exact rfl); (case zwk1 => k_asm); (case zwk2 => k_asm); (case zwk3 => k_asm); (case zwk4 => k_asm); (case zwk5 => k_asm); (case zwk6 => k_is); (case zwk7 => k_is); (case zwk8 => ktr_room); (case zwk9 => first | exact BindsTo.of_eq rfl | (refine' kp_binds ?zwkx ?zwke; (case zwkx => k_in); (case zwke => exact fun _ => rfl))); (case zwkB => exact rfl); (case zwkD => decide +kernel); (case zwc2 => exact rfl); (case zwc3 => exact rfl); (case zwc4 => exact rfl); k_whole; walk_at "pm2"; (try dsimp only); (try k_fold))))
  k_with "k_all" => (first | assumption | exact all_ne (by assumption) (by omega) | fail)
  k_with "call ref" => ((k_here; refine wpAny_call ?_; k_extra "tb_start"))
  k_with "k_all" => (first | assumption | (refine' List.forall_mem_cons.mpr ⟨?zwkza, ?zwkzb⟩; (case zwkza => (try dsimp only); first | assumption | exact ltN (by omega) | exact gtN (by omega) | fail); (case zwkzb => k_all)) | exact all_ne (by assumption) (by omega) | fail)
  k_with "loadName" => ((k_here; k_dflt (refine' ldn ?zwk1 ?zwk2 ?_; (case zwk1 => k_asm); (case zwk2 => (repeat (first | assumption | exact if_pos rfl | refine' (if_neg (by decide)).trans ?_))))))
  k_with "eval Name" => ((k_here; name_kind "local"; k_dflt (refine' ld ?zwk1 ?zwk2 ?_; (case zwk1 => k_asm); (case zwk2 => (repeat (first | assumption | exact if_pos rfl | refine' (if_neg (by decide)).trans ?_))); k_whole)))
  k_with "pyIter ref" => ((k_here; refine stop_intro ?_))
  k_with "exec For" => ((k_here; k_dflt (refine' for_ruleL ?zwhF ?zwhs ?_; (case zwhF => k_asm); (case zwhs => intro _; rfl))))
  k_with "exec For Name Name cons nil" => ((k_here; k_dflt (refine' for_ruleL ?zwhF ?zwhs ?_; (case zwhF => k_asm); (case zwhs => intro _; rfl))))
  k_with "exec For Name Subscript cons nil" => ((k_here; k_dflt (refine' for_ruleL ?zwhF ?zwhs ?_; (case zwhF => k_asm); (case zwhs => intro _; rfl))))
  k_with "exec For Name Call cons nil" => ((k_here; k_dflt (refine' for_ruleL ?zwhF ?zwhs ?_; (case zwhF => k_asm); (case zwhs => intro _; rfl))))
  k_with "exec For Tuple Name cons nil" => ((k_here; k_dflt (refine' for_ruleL ?zwhF ?zwhs ?_; (case zwhF => k_asm); (case zwhs => intro _; rfl))))
  k_with "exec For Tuple" => ((k_here; k_dflt (refine' for_ruleL ?zwhF ?zwhs ?_; (case zwhF => k_asm); (case zwhs => intro _; rfl))))
  k_with "exec Assign cons ListComp" => ((k_here; k_dflt (refine' compK_a ?zwe1 ?zwe2 ?zwe3 ?zwe4 ?zwe5 ?zwe6 ?zwe7 ?zwe8 ?zwe9 ?_; (case zwe1 => exact rfl); (case zwe2 => with_unfolding_all rfl); (case zwe3 => with_unfolding_all rfl); (case zwe4 => exact rfl); (case zwe5 => rfl); (case zwe6 => decide); (case zwe7 => intro _; rfl); (case zwe8 => rfl); (case zwe9 => rfl))))
  k_with "eval ListComp" => ((k_here; k_dflt (refine' compG_in ?zwe1 ?zwe3 ?zwe4 ?zwe5 ?zwe6 ?zwe7 ?_; (case zwe1 => k_asm); (case zwe3 => with_unfolding_all rfl); (case zwe4 => decide); (case zwe5 => rfl); (case zwe6 => decide); (case zwe7 => intro _; rfl))))
  k_with "call ref" => ((k_here; (with_reducible show wpAny _ _ (call (Value.ref 120) [Value.int _ _, Value.int _ _]) _ _ _); k_dflt (refine' Call1.useI (price_call _ _ _ _ _ _) ?zwk1 ?zwk2 ?zwk3 ?zwk4 ?zwk5 ?zwkK ?zwkd ?zwku ?_; (case zwk1 => k_asm); (case zwk2 => k_asm); (case zwk3 => k_asm); (case zwk4 => k_asm); (case zwk5 => k_asm); (case zwkK => first | exact rfl | assumption); (case zwkd => ktr_room); (case zwku => ktr_units); walk_at "pm4"; (try dsimp only); (try k_fold))))
  k_with "call builtin:len" => ((k_here; (with_reducible show wpAny _ _ (call (Value.builtin _) [Value.ref _]) _ _ _); k_dflt (refine' len_at ?zwk1 ?zwk2 ?zwk3 ?_; (case zwk1 => k_asm); (case zwk2 => (repeat (first | assumption | exact List.Mem.head _ | apply List.Mem.tail))); (case zwk3 => omega); walk_at "pm3")))
  k_with "subscriptTail Name Name ref int" => ((k_here; (with_reducible show wpAny _ _ (subscriptTail _ _ (Value.ref _) (Value.int _ _)) _ _ _); k_dflt (refine' sub_at ?zwk1 ?zwk2 ?zwk3 ?zwk4 ?zwk5 ?_ ?zwk7; (case zwk1 => k_asm); (case zwk2 => (repeat (first | assumption | exact List.Mem.head _ | apply List.Mem.tail))); (case zwk3 => omega); (case zwk4 => omega); (case zwk5 => assumption); (case zwk7 => with_unfolding_all rfl); k_whole)))
  k_with "eval Name" => ((k_here; name_kind "cell"; k_dflt (refine' nameX_C ?zwN ?zwc ?zwm ?zwd ?_ ?zwa ?zwb; (case zwa => rfl); (case zwb => rfl); (case zwN => k_asm); (case zwc => rfl); (case zwm => (repeat (first | assumption | apply List.Mem.tail))); (case zwd => assumption); k_whole)))
  k_with "setItem ref int" => ((k_here; refine stop_intro ?_))
  k_with "subscriptTail" => ((k_here; (with_reducible show wpAny _ _ (subscriptTail _ _ (Value.ref _) (Value.int _ _)) _ _ _); k_dflt (refine' sub_at ?zwk1 ?zwk2 ?zwk3 ?zwk4 ?zwk5 ?_ ?zwk7; (case zwk1 => k_asm); (case zwk2 => (repeat (first | assumption | exact List.Mem.head _ | apply List.Mem.tail))); (case zwk3 => omega); (case zwk4 => omega); (case zwk5 => assumption); (case zwk7 => with_unfolding_all rfl); k_whole)))
  k_with "subscriptTail Subscript Name ref int" => ((k_here; (with_reducible show wpAny _ _ (subscriptTail _ _ (Value.ref _) (Value.int _ _)) _ _ _); k_dflt (refine' sub_at ?zwk1 ?zwk2 ?zwk3 ?zwk4 ?zwk5 ?_ ?zwk7; (case zwk1 => k_asm); (case zwk2 => (repeat (first | assumption | exact List.Mem.head _ | apply List.Mem.tail))); (case zwk3 => omega); (case zwk4 => omega); (case zwk5 => assumption); (case zwk7 => with_unfolding_all rfl); k_whole)))
  k_with "subscriptTail Subscript Name Name ref int" => ((k_here; (with_reducible show wpAny _ _ (subscriptTail _ _ (Value.ref _) (Value.int _ _)) _ _ _); k_dflt (refine' sub_at ?zwk1 ?zwk2 ?zwk3 ?zwk4 ?zwk5 ?_ ?zwk7; (case zwk1 => k_asm); (case zwk2 => (repeat (first | assumption | exact List.Mem.head _ | apply List.Mem.tail))); (case zwk3 => omega); (case zwk4 => omega); (case zwk5 => assumption); (case zwk7 => with_unfolding_all rfl); k_whole)))
  k_with "k_all" => (first | assumption | exact all_ne (by assumption) (by omega) | fail)
  k_fill
  intro hrow
  clear hrow
  intro p loose mean mg mb dp un gd cn cs a ccd cl outer A₀ base h₀ L m s Q E B F X N T hk hdp hun hret
  refine wpAny_call ?_
  k_extra "tb_start"
  refine tok_gen fun tk0 => ?_
  k_steps
  rename_i L0 gA tkA FGA FA BA XA TA lA oc dc NA
  refine e1a1 ((⟨_, rfl⟩ : ∃ base, base = (L0 + 1, oc) :: (lv, listOf vs.toArray n) :: news)) fun base hbase => ?_
  refine stop_elim ?_
  refine' src_list (ax := lv) (its := vs.toArray) (k := n) (news := base) rfl ?F ?N ?m ?_
  case F => k_asm
  case N => rw [hbase]; exact NA
  case m => rw [hbase]; exact .tail _ (.head _)
  intro it9 s9 S9
  refine e1a1 (srcAt_same S9) fun g9 e9 => ?_
  subst e9
  refine' CompK.intro (h₀ := _) (L := _) (m := _) (news := base) (n := _) (P := _) (RowJ ls base) ?jS ?ja ?jb ?jc ?jd ?je
  case jS => exact S9
  case ja => exact size5 (by rw [List.size_toArray, hvl]; exact hl.2)
  case jb => exact ⟨[], [], [], rfl, rfl, .nil, rfl, by simp, by simp⟩
  case jd => rintro i ys Y ⟨as, R, M, rfl, rfl, hR, hM, _⟩; rw [List.length_map, hR.len.1, hM, List.length_map, List.length_take]; omega
  case jc =>
    intro i v ys Y I oI C oC K oK D h tk E' hi9 hP zr0 hsub hoff hCK hoK F9 N9
    (try dsimp only)
    (try k_fold)
    refine e3a6 (zr0) fun as R M ze0 hY hR hM hnd hap => ?_
    clear zr0
    subst ze0
    refine e1a2 ((Are.of_ints hi).get (arr_at hP)) fun x hx zt0 => ?_
    refine e1a1 (zt0) fun t9 ze1 => ?_
    clear zt0
    subst ze1
    have hcell : (L0 + 1, oc) ∈ Y := hsub _ (by rw [hbase]; exact .head _)
    have hlvm : (lv, listOf vs.toArray n) ∈ Y := hsub _ (by rw [hbase]; exact .tail _ (.head _))
    (try k_fold)
    refine' compG_in ?e1 ?e3 ?e4 ?e5 ?e6 ?e7 ?_
    case e1 => exact F9
    case e4 => decide
    case e5 => rfl
    case e6 => decide
    case e7 => intro _; rfl
    case e3 => with_unfolding_all rfl
    refine' lcf_cell ?zN ?zc ?zm ?zd ?_ ?za ?zb
    case za => rfl
    case zb => rfl
    case zN => exact N9
    case zc => rfl
    case zm => exact .tail _ (.tail _ (.tail _ (.tail _ hcell)))
    case zd => exact dc
    refine stop_intro ?_
    refine stop_elim ?_
    refine' src_list (ax := lv) (its := vs.toArray) (k := n) rfl ?zF N9 ?zm ?_
    case zF => exact F9
    case zm => exact .tail _ (.tail _ (.tail _ (.tail _ hlvm)))
    intro it9 s9 S9'
    refine e1a1 (srcAt_same S9') fun g9 e9 => ?_
    subst e9
    refine' CompG.name (fun t zs Z => Z = (I, oI) :: (C, oC) :: (K, oK) :: (D, LCg.lst (as.map Value.ref)) :: Y ∧ IntsAre zs ((ls.take t).map (price x))) ?zx ?zk S9' ?zz ?zj ?zt ?zl ?zf
    case zx => rfl
    case zk => rfl
    case zz => exact size5 (by rw [List.size_toArray, hvl]; exact hl.2)
    case zj => exact ⟨rfl, .nil⟩
    case zl => rintro i ys Y ⟨_, ha⟩; rw [ha.length, List.length_map, List.length_take]; omega
    case zt =>
      intro t v zs Z I2 oI2 C2 oC2 D2 m₂ h2 tk2 E2 ht hP2 zr0 hsub2 hoff2 hC2 hm2 F8 N8
      (try dsimp only)
      (try k_fold)
      refine a2 (zr0) fun ze0 ha => ?_
      clear zr0
      subst ze0
      refine e1a2 ((Are.of_ints hi).get (arr_at hP2)) fun y hy zt0 => ?_
      refine e1a1 (zt0) fun t8 ze1 => ?_
      clear zt0
      subst ze1
      refine wpAny_tests_nil ?_
      try simp only [if_true]
      k_steps
      exact TurnE.intro _ (by k_asm) (by k_asm) (fun p hp => hp) hsub2 hoff2 ⟨rfl, by rw [take_snoc hy, List.map_append]; exact PyProof.Rows.IntsAre.append ha (.cons _ _ .nil)⟩
    case zf =>
      intro D2 zs Z zr0 hsub2 hoff2 hlt2
      obtain ⟨rfl, ha⟩ := zr0
      intro h8 tk8 F8 N8
      (try dsimp only)
      (try k_fold)
      have hlY : ∀ p ∈ Y, p.1 < D2 := fun p hp => hlt2 p (.tail _ (.tail _ (.tail _ (.tail _ hp))))
      have hz : IntsAre zs (ls.map (price x)) := by rw [List.size_toArray, hvl, List.take_length] at ha; exact ha
      have hR' : ∀ p ∈ R, p ∈ Y := fun p hp => by rw [hY]; exact List.mem_append_left _ hp
      have hB' : ∀ p ∈ base, p ∈ Y := fun p hp => by rw [hY]; exact List.mem_append_right _ hp
      refine TurnE.intro ((R ++ [(D2, listOf (List.toArray zs) zs.length)]) ++ base) F8 N8 ?ya ?yb ?yc ⟨as ++ [D2], R ++ [(D2, listOf (List.toArray zs) zs.length)], M ++ [ls.map (price x)], by rw [List.map_append]; rfl, rfl, hR.snoc hz, by rw [take_snoc hx, List.map_append, hM]; rfl, ?yd, ?ye⟩
      case ya =>
        intro p hp
        simp only [List.cons_append, List.nil_append, List.mem_cons, List.mem_append, List.not_mem_nil, or_false] at hp ⊢
        rcases hp with rfl | rfl | rfl | rfl | (hp | rfl) | hp
        · exact .inr (.inl rfl)
        · exact .inr (.inr (.inl rfl))
        · exact .inr (.inr (.inr (.inl rfl)))
        · exact .inr (.inr (.inr (.inr (.inl rfl))))
        · exact .inr (.inr (.inr (.inr (.inr (hR' p hp)))))
        · exact .inl rfl
        · exact .inr (.inr (.inr (.inr (.inr (hB' p hp)))))
      case yb => exact fun p hp => List.mem_append_right _ hp
      case yc =>
        intro p hp
        simp only [List.mem_append, List.mem_cons, List.not_mem_nil, or_false] at hp
        rcases hp with (hp | rfl) | hp
        · exact hoff p (hR' p hp)
        · refine ⟨Nat.ne_of_gt (hlt2 _ (.head _)), Nat.ne_of_gt (hlt2 _ (.tail _ (.tail _ (.tail _ (.head _))))), ?_⟩
          intro hc
          rcases List.mem_cons.mp hc with e | hc
          · exact Nat.ne_of_gt (hlt2 _ (.tail _ (.head _))) e
          · exact Nat.ne_of_gt (hlt2 _ (.tail _ (.tail _ (.head _)))) (List.mem_singleton.mp hc)
        · exact hoff p (hB' p hp)
      case yd =>
        rw [List.map_append, List.nodup_append]
        refine ⟨hnd, by simp, fun a ha b hb => ?_⟩
        obtain ⟨q, hq, rfl⟩ := List.mem_map.mp ha
        have hb' : b = D2 := by simpa using hb
        rw [hb']
        exact Nat.ne_of_lt (hlY q (hR' q hq))
      case ye =>
        intro p hp q hq
        rcases List.mem_append.mp hq with hq | hq
        · exact hap p hp q hq
        · rw [List.mem_singleton.mp hq]
          exact Nat.ne_of_lt (hlY p (hB' p hp))
  case je =>
    intro D ys Y zr0 hsub hoff hlt h9 tk9 F9 N9
    (try dsimp only)
    (try k_fold)
    obtain ⟨as, R, M, rfl, hY, hR, hM, hnd, hap⟩ := zr0
    have hcell : (L0 + 1, oc) ∈ Y := hsub _ (by rw [hbase]; exact .head _)
    have hlvm : (lv, listOf vs.toArray n) ∈ Y := hsub _ (by rw [hbase]; exact .tail _ (.head _))
    (try k_fold)
    have hoc : oc.data = .cell (some (.ref lv)) := dc
    clear dc
    have hsq : Sq ls.length (ls.map fun a => ls.map (price a)) := ⟨by simp, fun r hr => by obtain ⟨a, _, rfl⟩ := List.mem_map.mp hr; simp⟩
    have hM' : M = ls.map fun a => ls.map (price a) := by rw [List.size_toArray, hvl, List.take_length] at hM; exact hM
    rw [← hM'] at hsq
    have hasD : ∀ a ∈ as, a ≠ D := fun a ha => by
      rw [← hR.addr] at ha
      obtain ⟨q, hq, rfl⟩ := List.mem_map.mp ha
      exact hoff q (by rw [hY]; exact List.mem_append_left _ hq)
    have hbD : ∀ p ∈ base, p.1 ≠ D := fun p hp => hoff p (by rw [hY]; exact List.mem_append_right _ hp)
    have hbas : ∀ p ∈ base, ∀ a ∈ as, p.1 ≠ a := fun p hp a ha => by
      rw [← hR.addr] at ha
      obtain ⟨q, hq, rfl⟩ := List.mem_map.mp ha
      exact hap p hp q hq
    have hnd' : as.Nodup := by rw [← hR.addr]; exact hnd
    k_steps
    rename_i he gC tkC ta tb tc hRg FC NC kC
    refine stop_elim ?_
    refine' srcF_range (n := ls.length) (news := (D, listOf (List.toArray (as.map Value.ref)) (as.map Value.ref).length) :: Y) rfl FC NC hRg (small_k (by omega)) (range_k _) ?_
    intro it9 s9 S9
    refine e1a1 (SrcF.same S9) fun g9 e9 => ?_
    subst e9
    refine LoopOK.put (fun b m nw => ∃ R Y, nw = (D, listOf (List.toArray (as.map Value.ref)) (as.map Value.ref).length) :: Y ∧ Y = R ++ base ∧ RowsAt as R (fwB ls.length M b) ∧ m (S' "least") = some (.ref D)) S9 ?ja ?jb ?jc ?jd
    case ja => exact ⟨R, Y, rfl, hY, hR, if_pos rfl⟩
    case jb => exact fun _ _ _ _ => trivial
    case jc =>
      intro b v m1 nw I oI h tk E' hb9 zr0 zr1 off1 hltI F9 N9
      (try (refine absL ?_; intro QL9))
      (try dsimp only)
      (try k_fold)
      refine e1a1 (zr0) fun t9 ze0 => ?_
      clear zr0
      subst ze0
      refine e2a4 (zr1) fun R1 Y1 ze0 hY1 hR1 hm1 => ?_
      clear zr1
      subst ze0
      have hcell1 : (L0 + 1, oc) ∈ Y1 := by rw [hY1]; exact List.mem_append_right _ (by rw [hbase]; exact .head _)
      have hlvm1 : (lv, listOf vs.toArray n) ∈ Y1 := by rw [hY1]; exact List.mem_append_right _ (by rw [hbase]; exact .tail _ (.head _))
      rw [Int.zero_add]
      (try k_fold)
      k_steps
      all_goals (try first | exact Str.ofString "" | exact (0 : Nat) | exact Value.none)
      rename_i he1 gD tkD ta1 tb1 tc1 hRg1 FD ND kD
      refine stop_elim ?_
      refine' srcF_range (n := ls.length) (news := (D, listOf (List.toArray (as.map Value.ref)) (as.map Value.ref).length) :: (I, oI) :: Y1) rfl FD (news_pick ND (by intro p hp; simp only [List.mem_cons] at hp ⊢; rcases hp with rfl | rfl | hp <;> simp_all)) hRg1 (small_k (by omega)) (range_k _) ?_
      intro it9 s9 S9b
      refine e1a1 (SrcF.same S9b) fun g9 e9 => ?_
      subst e9
      refine LoopOK.put (fun j m nw => ∃ R Y, nw = (D, listOf (List.toArray (as.map Value.ref)) (as.map Value.ref).length) :: (I, oI) :: Y ∧ Y = R ++ base ∧ RowsAt as R (fwJ ls.length b (fwB ls.length M b) j) ∧ m (S' "least") = some (.ref D) ∧ m (S' "between") = some (.int (b : Int) t9)) S9b ?ka ?kb ?kc ?kd
      case ka => exact ⟨R1, Y1, rfl, hY1, hR1, by (repeat (first | assumption | exact if_pos rfl | refine' (if_neg (by decide)).trans ?_)), by (repeat (first | assumption | exact if_pos rfl | refine' (if_neg (by decide)).trans ?_))⟩
      case kb => exact fun _ _ _ _ => trivial
      case kc =>
        intro j v m2 nw I2 oI2 h2 tk2 E2 hj9 zr0 zr1 off2 hltI2 F8 N8
        (try (refine absL ?_; intro QL8))
        (try dsimp only)
        (try k_fold)
        refine e1a1 (zr0) fun t8 ze0 => ?_
        clear zr0
        subst ze0
        refine e2a5 (zr1) fun R2 Y2 ze0 hY2 hR2 hm2 hmb2 => ?_
        clear zr1
        subst ze0
        have hcell2 : (L0 + 1, oc) ∈ Y2 := by rw [hY2]; exact List.mem_append_right _ (by rw [hbase]; exact .head _)
        have hlvm2 : (lv, listOf vs.toArray n) ∈ Y2 := by rw [hY2]; exact List.mem_append_right _ (by rw [hbase]; exact .tail _ (.head _))
        rw [Int.zero_add]
        (try k_fold)
        k_steps
        all_goals (try first | exact Str.ofString "" | exact (0 : Nat) | exact Value.none)
        rename_i he2 gE tkE ta2 tb2 tc2 hRg2 FE NE kE
        refine stop_elim ?_
        refine' srcF_range (n := ls.length) (news := (D, listOf (List.toArray (as.map Value.ref)) (as.map Value.ref).length) :: (I2, oI2) :: (I, oI) :: Y2) rfl FE (news_pick NE (by intro p hp; simp only [List.mem_cons] at hp ⊢; rcases hp with rfl | rfl | rfl | hp <;> simp_all)) hRg2 (small_k (by omega)) (range_k _) ?_
        intro it9 s9 S9c
        refine e1a1 (SrcF.same S9c) fun g9 e9 => ?_
        subst e9
        refine LoopOK.put (fun k m nw => ∃ R Y, nw = (D, listOf (List.toArray (as.map Value.ref)) (as.map Value.ref).length) :: (I2, oI2) :: (I, oI) :: Y ∧ Y = R ++ base ∧ RowsAt as R (fwK b j (fwJ ls.length b (fwB ls.length M b) j) k) ∧ m (S' "least") = some (.ref D) ∧ m (S' "between") = some (.int (b : Int) t9) ∧ m (S' "j") = some (.int (j : Int) t8)) S9c ?la ?lb ?lc ?ld
        case la => exact ⟨R2, Y2, rfl, hY2, hR2, by (repeat (first | assumption | exact if_pos rfl | refine' (if_neg (by decide)).trans ?_)), by (repeat (first | assumption | exact if_pos rfl | refine' (if_neg (by decide)).trans ?_)), by (repeat (first | assumption | exact if_pos rfl | refine' (if_neg (by decide)).trans ?_))⟩
        case lb => exact fun _ _ _ _ => trivial
        case lc =>
          intro k v m3 nw I3 oI3 h3 tk3 E3 hk9 zr0 zr1 off3 hltI3 F7 N7
          (try (refine absL ?_; intro QL7))
          (try dsimp only)
          (try k_fold)
          refine e1a1 (zr0) fun t7 ze0 => ?_
          clear zr0
          subst ze0
          refine e2a6 (zr1) fun R3 Y3 ze0 hY3 hR3 hm3 hmb3 hmj3 => ?_
          clear zr1
          subst ze0
          rw [Int.zero_add]
          have hsqJ : Sq ls.length (fwK b j (fwJ ls.length b (fwB ls.length M b) j) k) := sq_fwK (sq_fwJ (sq_fwB hsq b) j (by omega)) hj9 k
          refine e1a1 ((⟨_, rfl⟩ : ∃ Mx, Mx = fwK b j (fwJ ls.length b (fwB ls.length M b) j) k)) fun Mx hMx => ?_
          rw [← hMx] at hsqJ hR3
          refine e3a5 (row_at hR3 hsqJ hj9) fun aj vj cj hj1 hj2 hj3 hj4 hj5 => ?_
          refine e3a5 (row_at hR3 hsqJ hb9) fun ab vb cb hb1 hb2 hb3 hb4 hb5 => ?_
          refine e1a1 (hj5 b hb9) fun u1 hu1 => ?_
          refine e1a1 (hj5 k hk9) fun u2 hu2 => ?_
          refine e1a1 (hb5 k hk9) fun u3 hu3 => ?_
          have hmj : (aj, listOf (List.toArray vj) cj) ∈ Y3 := by rw [hY3]; exact List.mem_append_left _ (List.mem_of_getElem? hj2)
          have hmb : (ab, listOf (List.toArray vb) cb) ∈ Y3 := by rw [hY3]; exact List.mem_append_left _ (List.mem_of_getElem? hb2)
          have hmx : ∀ x y : Int, (if y > x then y else x) = max x y := fun x y => by rw [Int.max_def]; split <;> split <;> omega
          have hl3 := lt_rows hR2 hY2 fun p hp => hltI3 p (.tail _ (.tail _ (.tail _ hp)))
          have hl2 := lt_rows hR1 hY1 fun p hp => hltI2 p (.tail _ (.tail _ hp))
          have hl1 := lt_rows hR hY fun p hp => hltI p (.tail _ hp)
          have haj : aj ∈ as := List.mem_of_getElem? hj4
          have hUY : ∀ o', Upd aj (listOf (List.toArray vj) cj) o' Y3 (R3.set j (aj, o') ++ base) := fun o' => by rw [hY3]; exact upd_rows hj2 (by rw [hR3.addr]; exact hnd') (fun p hp => hbas p hp aj haj)
          have hlen : (Mx.getD j []).length = ls.length := (sq_row hsqJ hj9).2
          (try k_fold)
          k_steps
          all_goals (try first | exact Str.ofString "" | exact (0 : Nat) | exact Value.none)
          · refine stop_elim ?_
            refine' ksa_set (ns := Mx.getD j []) ?zF ?zN ?zU hj3 (by omega) (by rw [hlen]; omega) (by omega) ?_
            case zF => k_asm
            case zN => k_asm
            case zU => exact .tail (gtN (hl3.1 aj haj).2) (.tail (fun e => hasD aj haj e.symm) (.tail (gtN (hl2.1 aj haj).2) (.tail (gtN (hl1.1 aj haj).2) (hUY _))))
            intro h8 F8' N8' hi8 hl8 hs8
            (try k_fold)
            k_steps
            refine ForEnd.intro ((D, _) :: (I2, oI2) :: (I, oI) :: (R3.set j (aj, _) ++ base)) F8' N8' (fun p hp => hp) ?zo ⟨_, _, rfl, rfl, ?zr, by (repeat (first | assumption | exact if_pos rfl | refine' (if_neg (by decide)).trans ?_)), by (repeat (first | assumption | exact if_pos rfl | refine' (if_neg (by decide)).trans ?_)), by (repeat (first | assumption | exact if_pos rfl | refine' (if_neg (by decide)).trans ?_))⟩
            case zr =>
              rw [fwK_succ, ← hMx]
              have hc : max (gm Mx j b) (gm Mx b k) < gm Mx j k := by rw [← hmx]; assumption
              unfold fwS
              rw [if_pos hc, ← hmx]
              exact hR3.setM hj4 hi8
            case zo =>
              intro p hp
              simp only [List.mem_cons] at hp
              rcases hp with rfl | rfl | rfl | hp
              · exact ltN (hltI3 _ (.head _))
              · exact ltN (hltI3 _ (.tail _ (.head _)))
              · exact ltN (hltI3 _ (.tail _ (.tail _ (.head _))))
              · exact off_rows (hR3.setM hj4 hi8) (fun a ha => (hl3.1 a ha).1) hl3.2 p hp
          · refine ForEnd.intro ((D, _) :: (I2, oI2) :: (I, oI) :: Y3) (by k_asm) (by k_asm) (fun p hp => hp) ?zo ⟨R3, Y3, rfl, hY3, ?zr, by (repeat (first | assumption | exact if_pos rfl | refine' (if_neg (by decide)).trans ?_)), by (repeat (first | assumption | exact if_pos rfl | refine' (if_neg (by decide)).trans ?_)), by (repeat (first | assumption | exact if_pos rfl | refine' (if_neg (by decide)).trans ?_))⟩
            case zr =>
              rw [fwK_succ, ← hMx]
              have hc : ¬ max (gm Mx j b) (gm Mx b k) < gm Mx j k := by rw [← hmx]; assumption
              unfold fwS
              rw [if_neg hc]
              exact hR3
            case zo =>
              intro p hp
              simp only [List.mem_cons] at hp
              rcases hp with rfl | rfl | rfl | hp
              · exact ltN (hltI3 _ (.head _))
              · exact ltN (hltI3 _ (.tail _ (.head _)))
              · exact ltN (hltI3 _ (.tail _ (.tail _ (.head _))))
              · rw [hY3] at hp; exact off_rows hR3 (fun a ha => (hl3.1 a ha).1) hl3.2 p hp
        case ld =>
          intro h tk m3 nw zr0 F9 N9
          (try dsimp only)
          (try k_fold)
          obtain ⟨R3, Y3, rfl, hY3, hR3, hm3, hmb3, hmj3⟩ := zr0
          (try k_fold)
          k_steps
          have hl2 := lt_rows hR1 hY1 fun p hp => hltI2 p (.tail _ (.tail _ hp))
          refine ForEnd.intro ((D, _) :: (I, oI) :: Y3) F9 N9 ?sa ?sb ⟨R3, Y3, rfl, hY3, by rw [fwJ_succ]; exact hR3, hm3, hmb3⟩
          case sa =>
            intro p hp
            simp only [List.mem_cons] at hp ⊢
            rcases hp with rfl | rfl | rfl | hp
            · exact .inr (.inl rfl)
            · exact .inl rfl
            · exact .inr (.inr (.inl rfl))
            · exact .inr (.inr (.inr hp))
          case sb =>
            intro p hp
            simp only [List.mem_cons] at hp
            rcases hp with rfl | rfl | hp
            · exact ltN (hltI2 _ (.head _))
            · exact ltN (hltI2 _ (.tail _ (.head _)))
            · rw [hY3] at hp; exact off_rows hR3 (fun a ha => (hl2.1 a ha).1) hl2.2 p hp
      case kd =>
        intro h tk m2 nw zr0 F9 N9
        (try dsimp only)
        (try k_fold)
        obtain ⟨R2, Y2, rfl, hY2, hR2, hm2, hmb2⟩ := zr0
        (try k_fold)
        k_steps
        have hl1 := lt_rows hR hY fun p hp => hltI p (.tail _ hp)
        refine ForEnd.intro ((D, _) :: Y2) F9 N9 ?ta ?tb ⟨R2, Y2, rfl, hY2, by rw [fwB_succ]; exact hR2, hm2⟩
        case ta =>
          intro p hp
          simp only [List.mem_cons] at hp ⊢
          rcases hp with rfl | rfl | hp
          · exact .inr (.inl rfl)
          · exact .inl rfl
          · exact .inr (.inr hp)
        case tb =>
          intro p hp
          simp only [List.mem_cons] at hp
          rcases hp with rfl | hp
          · exact ltN (hltI _ (.head _))
          · rw [hY2] at hp; exact off_rows hR2 (fun a ha => (hl1.1 a ha).1) hl1.2 p hp
    case jd =>
      intro h tk m1 nw zr0 F9 N9
      (try dsimp only)
      (try k_fold)
      obtain ⟨R1, Y1, rfl, hY1, hR1, hm1⟩ := zr0
      (try k_fold)
      k_steps
      all_goals (try first | exact Str.ofString "" | exact (0 : Nat) | exact Value.none)
      rw [hY1, hbase] at N9
      refine hret _ _ _ _ ⟨D, as, (as.map Value.ref).length, R1, rfl, rfl, by rw [← hM']; exact hR1⟩ (by k_asm) ?_
      intro p hp
      refine (show News h₀ L h ((D, listOf (List.toArray (as.map Value.ref)) (as.map Value.ref).length) :: Y1) by k_asm) p ?_
      rw [hY1, hbase]
      rcases List.mem_cons.mp hp with rfl | hp
      · exact .head _
      · refine .tail _ ?_
        rcases List.mem_append.mp hp with hp | hp
        · exact List.mem_append_left _ hp
        · exact List.mem_append_right _ (.tail _ hp)
end Mine
end
section
set_option maxRecDepth 100000
set_option maxHeartbeats 8000000
namespace Mine







/-- a call that answers with a token and leaves the ledger -/
theorem Call1.useG {r : Nat} {w : World} {f : Addr} {news : List (Addr × Obj)} {vs : List Value} {g : Tok → Value} (C : Call1 r w f news vs (fun v n' => (∃ t, v = g t) ∧ n' = news))
    {p : Program} {loose : List Str} {mean : ExcName → Option Value} {mg mb : Str → Option Value}
    {dp un : Nat} {gd : Option (List Code)} {cn : Str} {cs : Scope} {a : Addr} {ccd : Value} {cl : List (Str × Addr)} {outer : List Env} {A₀ : Around} {base h₀ : Heap} {L : Addr} {m : Str → Option Value} {s : Shared} {Q E : Value → Shared → Prop}
    (B : Below A₀ base outer h₀) (F : Fr h₀ L s.heap m) (X : (hd2.heap_1 w.params).In h₀) (N : News h₀ L s.heap news) (T : Top p loose mean mg mb h₀) (hk : cs.kind = .function)
    (hd : dp + r < recursionLimit) (hu : un + 8 * r < cLine)
    (ret : ∀ (h' : Heap) (tk' : Nat), Fr h₀ L h' m → News h₀ L h' news → ∀ t, Q (g t) { s with heap := h', toks := tk' }) :
    wpAny (model P1 w) (ktrTop dp un gd cn cs L a ccd cl outer) (call (.ref f) vs) Q E s :=
  C _ _ _ _ _ _ _ _ _ _ _ _ _ _ _ _ _ _ _ _ _ _ B F X N T hk hd hu fun _ _ h' tk' R F' N' => R.1.elim fun t e => e ▸ ret h' tk' F' (R.2 ▸ N') t
theorem isterm_call (w : World) (news : List (Addr × Obj)) (x : Int) (t : Tok) (b : Bool) (hb : decide (x < 256) = b) :
    Call1 1 w 71 news [.int x t] (fun v news' => v = .bool b ∧ news' = news) := by
  have hrow : PySem.Challenge.rw_ty0036_02.most = some 63 := rfl
  unfold Call1
  revert hrow
  k_with_none
  w_top off
  k_with "tb_start" => (k_dflt (first
  | (refine' code_def ?zqk1 ?zqk2 ?zqk3 ?zqk4 ?zqk5 ?zqkA ?zqkF ?zqkK ?zqk6 ?zqk7 ?zqk8 ?zqk9 ?zqkB ?_ ?zqc2 ?zqc3 ?zqc4 ?zqc5; (case zqkA => exact rfl); (case zqkF => exact rfl); (case zqkK => first | assumption | exact rfl); (case zqk1 => k_asm); (case zqk2 => k_asm); (case zqk3 => k_asm); (case zqk4 => k_asm); (case zqk5 => k_asm); (case zqk6 => k_is); (case zqk7 => k_is); (case zqk8 => ktr_room); (case zqk9 => first | exact BindsTo.of_eq rfl | (refine' kp_binds ?zqkx ?zqke; (case zqkx => k_in); (case zqke => exact fun _ => rfl))); (case zqc5 => decide); (case zqkB => exact locs rfl); (case zqc2 => exact rfl); (case zqc3 => exact rfl); (case zqc4 => exact rfl); k_whole; intro g' L' h' FG' F' N' B' X' T'; (try dsimp only); (try k_lift B'); (try k_fold))
  | (refine' code_defC ?zqk1 ?zqk2 ?zqk3 ?zqk4 ?zqk5 ?zqkA ?zqkF ?zqkK ?zqk6 ?zqk7 ?zqk8 ?zqk9 ?zqkB ?zqkD ?_ ?zqc2 ?zqc3 ?zqc4; (case zqkA => exact rfl); (case zqkF => exact rfl); (case zqkK => first | assumption | exact rfl); (case zqk1 => k_asm); (case zqk2 => k_asm); (case zqk3 => k_asm); (case zqk4 => k_asm); (case zqk5 => k_asm); (case zqk6 => k_is); (case zqk7 => k_is); (case zqk8 => ktr_room); (case zqk9 => first | exact BindsTo.of_eq rfl | (refine' kp_binds ?zqkx ?zqke; (case zqkx => k_in); (case zqke => exact fun _ => rfl))); (case zqkB => exact rfl); (case zqkD => decide +kernel); (case zqc2 => exact rfl); (case zqc3 => exact rfl); (case zqc4 => exact rfl); k_whole; intro g' L' h' tk' cells' FG' F' N' Y' B' X' T' l1; (try k_lt l1); k_cells Y'; (try simp only [List.cons_append, List.nil_append] at N'); (try dsimp only); (try k_lift B'); (try k_fold))))
  k_with "call ref" => ((k_here; refine wpAny_call ?_; k_extra "tb_start"))
  k_with "k_all" => (first | assumption | exact all_ne (by assumption) (by omega) | fail)
  k_fill
  intro hrow
  clear hrow
  intro p loose mean mg mb dp un gd cn cs a ccd cl outer A₀ base h₀ L m s Q E B F X N T hk hdp hun hret
  refine wpAny_call ?_
  k_extra "tb_start"
  refine tok_gen fun tk0 => ?_
  k_steps
  exact hret _ _ _ _ ⟨congrArg Value.bool hb, rfl⟩ (by k_asm) (by k_asm)
theorem isnont_call (w : World) (news : List (Addr × Obj)) (x : Int) (t : Tok) (b : Bool) (hb : decide (256 ≤ x) = b) :
    Call1 1 w 78 news [.int x t] (fun v news' => v = .bool b ∧ news' = news) := by
  have hrow : PySem.Challenge.rw_ty0036_02.most = some 63 := rfl
  unfold Call1
  revert hrow
  k_with_none
  w_top off
  k_with "tb_start" => (k_dflt (first
  | (refine' code_def ?zqk1 ?zqk2 ?zqk3 ?zqk4 ?zqk5 ?zqkA ?zqkF ?zqkK ?zqk6 ?zqk7 ?zqk8 ?zqk9 ?zqkB ?_ ?zqc2 ?zqc3 ?zqc4 ?zqc5; (case zqkA => exact rfl); (case zqkF => exact rfl); (case zqkK => first | assumption | exact rfl); (case zqk1 => k_asm); (case zqk2 => k_asm); (case zqk3 => k_asm); (case zqk4 => k_asm); (case zqk5 => k_asm); (case zqk6 => k_is); (case zqk7 => k_is); (case zqk8 => ktr_room); (case zqk9 => first | exact BindsTo.of_eq rfl | (refine' kp_binds ?zqkx ?zqke; (case zqkx => k_in); (case zqke => exact fun _ => rfl))); (case zqc5 => decide); (case zqkB => exact locs rfl); (case zqc2 => exact rfl); (case zqc3 => exact rfl); (case zqc4 => exact rfl); k_whole; intro g' L' h' FG' F' N' B' X' T'; (try dsimp only); (try k_lift B'); (try k_fold))
  | (refine' code_defC ?zqk1 ?zqk2 ?zqk3 ?zqk4 ?zqk5 ?zqkA ?zqkF ?zqkK ?zqk6 ?zqk7 ?zqk8 ?zqk9 ?zqkB ?zqkD ?_ ?zqc2 ?zqc3 ?zqc4; (case zqkA => exact rfl); (case zqkF => exact rfl); (case zqkK => first | assumption | exact rfl); (case zqk1 => k_asm); (case zqk2 => k_asm); (case zqk3 => k_asm); (case zqk4 => k_asm); (case zqk5 => k_asm); (case zqk6 => k_is); (case zqk7 => k_is); (case zqk8 => ktr_room); (case zqk9 => first | exact BindsTo.of_eq rfl | (refine' kp_binds ?zqkx ?zqke; (case zqkx => k_in); (case zqke => exact fun _ => rfl))); (case zqkB => exact rfl); (case zqkD => decide +kernel); (case zqc2 => exact rfl); (case zqc3 => exact rfl); (case zqc4 => exact rfl); k_whole; intro g' L' h' tk' cells' FG' F' N' Y' B' X' T' l1; (try k_lt l1); k_cells Y'; (try simp only [List.cons_append, List.nil_append] at N'); (try dsimp only); (try k_lift B'); (try k_fold))))
  k_with "call ref" => ((k_here; refine wpAny_call ?_; k_extra "tb_start"))
  k_with "k_all" => (first | assumption | exact all_ne (by assumption) (by omega) | fail)
  k_fill
  intro hrow
  clear hrow
  intro p loose mean mg mb dp un gd cn cs a ccd cl outer A₀ base h₀ L m s Q E B F X N T hk hdp hun hret
  refine wpAny_call ?_
  k_extra "tb_start"
  refine tok_gen fun tk0 => ?_
  k_steps
  exact hret _ _ _ _ ⟨congrArg Value.bool hb, rfl⟩ (by k_asm) (by k_asm)
theorem iseof_call (w : World) (news : List (Addr × Obj)) (x : Int) (t : Tok) (b : Bool) (hb : (x == 0) = b) :
    Call1 1 w 85 news [.int x t] (fun v news' => v = .bool b ∧ news' = news) := by
  have hrow : PySem.Challenge.rw_ty0036_02.most = some 63 := rfl
  unfold Call1
  revert hrow
  k_with_none
  w_top off
  k_with "tb_start" => (k_dflt (first
  | (refine' code_def ?zqk1 ?zqk2 ?zqk3 ?zqk4 ?zqk5 ?zqkA ?zqkF ?zqkK ?zqk6 ?zqk7 ?zqk8 ?zqk9 ?zqkB ?_ ?zqc2 ?zqc3 ?zqc4 ?zqc5; (case zqkA => exact rfl); (case zqkF => exact rfl); (case zqkK => first | assumption | exact rfl); (case zqk1 => k_asm); (case zqk2 => k_asm); (case zqk3 => k_asm); (case zqk4 => k_asm); (case zqk5 => k_asm); (case zqk6 => k_is); (case zqk7 => k_is); (case zqk8 => ktr_room); (case zqk9 => first | exact BindsTo.of_eq rfl | (refine' kp_binds ?zqkx ?zqke; (case zqkx => k_in); (case zqke => exact fun _ => rfl))); (case zqc5 => decide); (case zqkB => exact locs rfl); (case zqc2 => exact rfl); (case zqc3 => exact rfl); (case zqc4 => exact rfl); k_whole; intro g' L' h' FG' F' N' B' X' T'; (try dsimp only); (try k_lift B'); (try k_fold))
  | (refine' code_defC ?zqk1 ?zqk2 ?zqk3 ?zqk4 ?zqk5 ?zqkA ?zqkF ?zqkK ?zqk6 ?zqk7 ?zqk8 ?zqk9 ?zqkB ?zqkD ?_ ?zqc2 ?zqc3 ?zqc4; (case zqkA => exact rfl); (case zqkF => exact rfl); (case zqkK => first | assumption | exact rfl); (case zqk1 => k_asm); (case zqk2 => k_asm); (case zqk3 => k_asm); (case zqk4 => k_asm); (case zqk5 => k_asm); (case zqk6 => k_is); (case zqk7 => k_is); (case zqk8 => ktr_room); (case zqk9 => first | exact BindsTo.of_eq rfl | (refine' kp_binds ?zqkx ?zqke; (case zqkx => k_in); (case zqke => exact fun _ => rfl))); (case zqkB => exact rfl); (case zqkD => decide +kernel); (case zqc2 => exact rfl); (case zqc3 => exact rfl); (case zqc4 => exact rfl); k_whole; intro g' L' h' tk' cells' FG' F' N' Y' B' X' T' l1; (try k_lt l1); k_cells Y'; (try simp only [List.cons_append, List.nil_append] at N'); (try dsimp only); (try k_lift B'); (try k_fold))))
  k_with "call ref" => ((k_here; refine wpAny_call ?_; k_extra "tb_start"))
  k_with "k_all" => (first | assumption | exact all_ne (by assumption) (by omega) | fail)
  k_fill
  intro hrow
  clear hrow
  intro p loose mean mg mb dp un gd cn cs a ccd cl outer A₀ base h₀ L m s Q E B F X N T hk hdp hun hret
  refine wpAny_call ?_
  k_extra "tb_start"
  refine tok_gen fun tk0 => ?_
  k_steps
  exact hret _ _ _ _ ⟨congrArg Value.bool hb, rfl⟩ (by k_asm) (by k_asm)
end Mine
end
section
set_option maxRecDepth 100000
set_option maxHeartbeats 8000000
namespace Mine

noncomputable def tupOf (vs : List Value) (k : Nat) : Obj := { cls := .type "tuple", data := .seq vs.toArray k }
noncomputable def lamB (p1 p2 p3 p4 : Pos) (qual : Str) (pm : Value) (c' : Addr) (ctv : Value) : Obj := kla_obj (Str.ofString "<lambda>") qual { posonlyargs := [], args := [{ arg := Str.ofString "tie", annotation := none, pos := p1 }], vararg := none, kwonlyargs := [], kw_defaults := [], kwarg := none, defaults := [] }
  (.Subscript (.Name (Str.ofString "tie") p2) (.Constant (.int 0) 0 p3) p4) { kind := .function, names := [(Str.ofString "tie", .local)], isGenerator := false, isCoroutine := false } [] pm c' ctv
theorem tup0 {prog : Program} {w : World} {A : Around} {E : Value → Shared → Prop} {s : Shared} {h₀ : Heap} {L D : Addr} {news : List (Addr × Obj)} {x : Value} {r : List Value} {k : Nat} {u : Tok} {value slice : PySem.Expr} {Q : Value → Shared → Prop} (N : News h₀ L s.heap news) (hm : (D, tupOf (x :: r) k) ∈ news) (h : Q x s)
    (hs : subscripted slice false (.ref D) (.int 0 u) = operate [.ref D, .int 0 u] (getItem (.ref D) (.int 0 u)) := by with_unfolding_all rfl) :
    wpAny (model prog w) A (subscriptTail value slice (.ref D) (.int 0 u)) Q E s :=
  item_tupleT (l := x :: r) (k := 0) (j := 0) ⟨_, (N _ hm).1, rfl, k, rfl⟩ (by decide) (by decide) (by unfold seqIndex?; simp) rfl h hs





















theorem key_call (w : World) (news : List (Addr × Obj)) (f c' A : Addr) (oc : Obj) (vs : Array Value) (t u : Tok) (qual : Str) (pm ctv : Value) (p1 p2 p3 p4 : Pos) (x : Int) (r : List Value) (k : Nat)
    (hf : (f, lamB p1 p2 p3 p4 qual pm c' ctv) ∈ news) (hc : (c', oc) ∈ news) (hd : oc.data = .fields vs) (hv : vs[1]? = some (.str qual t)) (hA : (A, tupOf (.int x u :: r) k) ∈ news) :
    Call1 1 w f news [.ref A] (fun v news' => (∃ t, v = .int x t) ∧ news' = news) := by
  unfold lamB at hf
  have hrow : PySem.Challenge.rw_ty0036_02.most = some 63 := rfl
  unfold Call1
  revert hrow
  k_with_none
  w_top off
  k_with "tb_start" => (k_dflt (first
  | (refine' code_def ?zwk1 ?zwk2 ?zwk3 ?zwk4 ?zwk5 ?zwkA ?zwkF ?zwkK ?zwk6 ?zwk7 ?zwk8 ?zwk9 ?zwkB ?_ ?zwc2 ?zwc3 ?zwc4 ?zwc5; (case zwkA => exact rfl); (case zwkF => exact rfl); (case zwkK => first | assumption | exact rfl); (case zwk1 => k_asm); (case zwk2 => k_asm); (case zwk3 => k_asm); (case zwk4 => k_asm); (case zwk5 => k_asm); (case zwk6 => k_is); (case zwk7 => k_is); (case zwk8 => ktr_room); (case zwk9 => first | exact BindsTo.of_eq rfl | (refine' kp_binds ?zwkx ?zwke; (case zwkx => k_in); (case zwke => exact fun _ => rfl))); (case zwc5 => decide); (case zwkB => exact locs rfl); (case zwc2 => exact rfl); (case zwc3 => exact rfl); (case zwc4 => exact rfl); k_whole; walk_at "pm1"; (try dsimp only); (try k_fold))
  | (refine' code_defC ?zwk1 ?zwk2 ?zwk3 ?zwk4 ?zwk5 ?zwkA ?zwkF ?zwkK ?zwk6 ?zwk7 ?zwk8 ?zwk9 ?zwkB ?zwkD ?_ ?zwc2 ?zwc3 ?zwc4; (case zwkA => exact rfl); (case zwkF => exact rfl); (case zwkK => first | assumption | exact rfl); (case zwk1 => k_asm); (case zwk2 => k_asm); (case zwk3 => k_asm); (case zwk4 => k_asm); (case zwk5 => k_asm); (case zwk6 => k_is); (case zwk7 => k_is); (case zwk8 => ktr_room); (case zwk9 => first | exact BindsTo.of_eq rfl | (refine' kp_binds ?zwkx ?zwke; (case zwkx => k_in); (case zwke => exact fun _ => rfl))); (case zwkB => exact rfl); (case zwkD => decide +kernel); (case zwc2 => exact rfl); (case zwc3 => exact rfl); (case zwc4 => exact rfl); k_whole; walk_at "pm2"; (try dsimp only); (try k_fold))))
  k_with "k_all" => (first | assumption | exact all_ne (by assumption) (by omega) | fail)
  k_with "call ref" => ((k_here; refine wpAny_call ?_; k_extra "tb_start"))
  k_with "loadName" => ((k_here; k_dflt (refine' ldn ?zwk1 ?zwk2 ?_; (case zwk1 => k_asm); (case zwk2 => (repeat (first | assumption | exact if_pos rfl | refine' (if_neg (by decide)).trans ?_))))))
  k_with "eval Name" => ((k_here; name_kind "local"; k_dflt (refine' ld ?zwk1 ?zwk2 ?_; (case zwk1 => k_asm); (case zwk2 => (repeat (first | assumption | exact if_pos rfl | refine' (if_neg (by decide)).trans ?_))); k_whole)))
  k_with "pyIter ref" => ((k_here; refine stop_intro ?_))
  k_with "exec For" => ((k_here; k_dflt (refine' for_ruleL ?zwhF ?zwhs ?_; (case zwhF => k_asm); (case zwhs => intro _; rfl))))
  k_with "exec For Name Name cons nil" => ((k_here; k_dflt (refine' for_ruleL ?zwhF ?zwhs ?_; (case zwhF => k_asm); (case zwhs => intro _; rfl))))
  k_with "exec For Name Subscript cons nil" => ((k_here; k_dflt (refine' for_ruleL ?zwhF ?zwhs ?_; (case zwhF => k_asm); (case zwhs => intro _; rfl))))
  k_with "exec For Name Call cons nil" => ((k_here; k_dflt (refine' for_ruleL ?zwhF ?zwhs ?_; (case zwhF => k_asm); (case zwhs => intro _; rfl))))
  k_with "exec For Tuple Name cons nil" => ((k_here; k_dflt (refine' for_ruleL ?zwhF ?zwhs ?_; (case zwhF => k_asm); (case zwhs => intro _; rfl))))
  k_with "exec For Tuple" => ((k_here; k_dflt (refine' for_ruleL ?zwhF ?zwhs ?_; (case zwhF => k_asm); (case zwhs => intro _; rfl))))
  k_with "call ref" => ((k_here; k_dflt (refine wpAny_call ?_; (refine' kla_code ?zwk1 ?zwk2 ?zwk3 ?zwk4 ?zwk5 ?zwkA ?zwkF ?zwkK ?zwk6 ?zwk7 ?zwk8 ?zwk9 ?zwkB ?_ ?zwc2 ?zwc3 ?zwc4 ?zwc5; (case zwkA => exact rfl); (case zwkF => exact rfl); (case zwkK => first | assumption | exact rfl); (case zwk1 => k_asm); (case zwk2 => k_asm); (case zwk3 => k_asm); (case zwk4 => k_asm); (case zwk5 => k_asm); (case zwk6 => assumption); (case zwk7 => exact codeRec_news (by k_asm) (by assumption) (by assumption) (by assumption)); (case zwk8 => ktr_room); (case zwk9 => exact rfl); (case zwc5 => decide); (case zwkB => exact locs rfl); (case zwc2 => exact rfl); (case zwc3 => exact rfl); (case zwc4 => exact rfl); k_whole; walk_at "pm1"; (try dsimp only); (try k_fold)))))
  k_with "subscriptTail Name Constant ref int" => ((k_here; (with_reducible show wpAny _ _ (subscriptTail _ _ (Value.ref _) (Value.int _ _)) _ _ _); k_dflt (refine' tup0 ?zwk1 ?zwk2 ?_ ?zwk7; (case zwk1 => k_asm); (case zwk2 => assumption); (case zwk7 => with_unfolding_all rfl); k_whole)))
  k_with "k_all" => (first | assumption | exact all_ne (by assumption) (by omega) | fail)
  k_fill
  intro hrow
  clear hrow
  intro p loose mean mg mb dp un gd cn cs a ccd cl outer A₀ base h₀ L m s Q E B F X N T hk hdp hun hret
  k_steps
  refine hret _ _ _ _ ⟨⟨_, rfl⟩, rfl⟩ (by k_asm) ?_; (intro p9 hp9; refine (show News _ _ _ _ by k_asm) p9 ?_; k_ownIn)
end Mine
end
section
namespace Mine
/-- a tree of symbols with their levels -/
inductive Tr
  | leaf (s l : Int)
  | node (s l : Int) (a b : Tr)
noncomputable abbrev SL := Int × Int
/-- the tree as a row: each nonterminal ahead of its two pieces -/
noncomputable def pre : Tr → List SL
  | .leaf s l => [(s, l)]
  | .node s l a b => (s, l) :: (pre a ++ pre b)
/-- the leaves as they are read, each with what stands above it -/
noncomputable def fnd : Tr → List SL → List (Int × List SL)
  | .leaf s _, ab => [(s, ab)]
  | .node s l a b, ab => fnd a (ab ++ [(s, l)]) ++ fnd b (ab ++ [(s, l)])
noncomputable def Tr.ok : Tr → Prop
  | .leaf s l => (1 ≤ s ∧ s ≤ 255) ∧ 0 ≤ l ∧ l ≤ 8
  | .node s l a b => (256 ≤ s ∧ s ≤ 511) ∧ (0 ≤ l ∧ l ≤ 8) ∧ a.ok ∧ b.ok
noncomputable def fnds : List Tr → List (List SL) → List (Int × List SL)
  | t :: ts, ab :: abs => fnd t ab ++ fnds ts abs
  | _, _ => []
noncomputable def PairAt (X : List (Addr × Obj)) (v : Value) (x : SL) : Prop := ∃ A k t1 t2, v = .ref A ∧ (A, tupOf [.int x.1 t1, .int x.2 t2] k) ∈ X
noncomputable def AbvAt (X : List (Addr × Obj)) (v : Value) (ab : List SL) : Prop := ∃ A vs c, v = .ref A ∧ (A, listOf (List.toArray vs) c) ∈ X ∧ Are (PairAt X) vs ab
noncomputable def FndAt (X : List (Addr × Obj)) (v : Value) (x : Int × List SL) : Prop := ∃ A k t1 w, v = .ref A ∧ (A, tupOf [.int x.1 t1, w] k) ∈ X ∧ AbvAt X w x.2
/-- a colour of the row: hue, share and value as floats -/
noncomputable def ColAt (X : List (Addr × Obj)) (v : Value) (x : SL) : Prop := ∃ A k h s q t1 t2 t3, v = .ref A ∧ (A, tupOf [.float h t1, .float s t2, .float q t3] k) ∈ X ∧ FQ h (x.1 * 2 ^ 11) ∧ FQ q (x.2 * 2 ^ 17)
theorem PairAt.mono {X Y : List (Addr × Obj)} (hs : ∀ p ∈ X, p ∈ Y) : ∀ v x, PairAt X v x → PairAt Y v x := by
  rintro v x ⟨A, k, t1, t2, rfl, h⟩; exact ⟨A, k, t1, t2, rfl, hs _ h⟩
theorem AbvAt.mono {X Y : List (Addr × Obj)} (hs : ∀ p ∈ X, p ∈ Y) : ∀ v x, AbvAt X v x → AbvAt Y v x := by
  rintro v x ⟨A, vs, c, rfl, h, ha⟩; exact ⟨A, vs, c, rfl, hs _ h, ha.imp (PairAt.mono hs)⟩
theorem FndAt.mono {X Y : List (Addr × Obj)} (hs : ∀ p ∈ X, p ∈ Y) : ∀ v x, FndAt X v x → FndAt Y v x := by
  rintro v x ⟨A, k, t1, w, rfl, h, ha⟩; exact ⟨A, k, t1, w, rfl, hs _ h, AbvAt.mono hs _ _ ha⟩
theorem ColAt.mono {X Y : List (Addr × Obj)} (hs : ∀ p ∈ X, p ∈ Y) : ∀ v x, ColAt X v x → ColAt Y v x := by
  rintro v x ⟨A, k, h, s, q, t1, t2, t3, rfl, hm, h1, h2⟩; exact ⟨A, k, h, s, q, t1, t2, t3, rfl, hs _ hm, h1, h2⟩
/-- between the turns of the reading loop: what is still to come, what is awaited, what was found -/
structure RdSt (X base : List (Addr × Obj)) (root : Tr) (items : List SL) (i : Nat) (sv fv : List Value) (ts : List Tr) (abs : List (List SL)) (fs : List (Int × List SL)) : Prop where
  st : Are (AbvAt X) sv abs.reverse
  fn : Are (FndAt X) fv fs
  sub : ∀ p ∈ base, p ∈ X
  len : ts.length = abs.length
  rest : items.drop i = ts.flatMap pre ++ [(0, 8)]
  tot : fs ++ fnds ts abs = fnd root []
  ok : ∀ t ∈ ts, t.ok
  small : ∀ ab ∈ abs, ab.length ≤ i
end Mine
end
section
namespace Mine
theorem pre_len (l : List Tr) : l.length ≤ (l.flatMap pre).length := by
  induction l with
  | nil => exact Nat.le_refl _
  | cons a r ih => rw [List.flatMap_cons, List.length_append, List.length_cons]; have : 1 ≤ (pre a).length := (by cases a <;> simp [pre]); (first | lia | omega)
theorem fnd_len : ∀ (t : Tr) (ab : List SL), (fnd t ab).length ≤ (pre t).length
  | .leaf _ _, _ => by simp [fnd, pre]
  | .node s l a b, ab => by
    have h1 := fnd_len a (ab ++ [(s, l)])
    have h2 := fnd_len b (ab ++ [(s, l)])
    simp only [fnd, pre, List.length_append, List.length_cons]
    (first | lia | omega)
noncomputable def RdJ (Aw Fd : Addr) (base : List (Addr × Obj)) (root : Tr) (items : List SL) (i : Nat) (m : Str → Option Value) (nw : List (Addr × Obj)) : Prop :=
  ∃ sv cA fv cF X ts abs fs, nw = (Aw, listOf (List.toArray sv) cA) :: (Fd, listOf (List.toArray fv) cF) :: X ∧ RdSt X base root items i sv fv ts abs fs ∧ (∀ p ∈ X, p.1 ≠ Aw ∧ p.1 ≠ Fd) ∧ m (S' "awaited") = some (.ref Aw) ∧ m (S' "found") = some (.ref Fd)
theorem RdSt.room {X base : List (Addr × Obj)} {root : Tr} {items : List SL} {i : Nat} {sv fv : List Value} {ts : List Tr} {abs : List (List SL)} {fs : List (Int × List SL)} (st : RdSt X base root items i sv fv ts abs fs) (hn : items.length ≤ 60) (hit : items = pre root ++ [(0, 8)]) : sv.length ≤ 60 ∧ fv.length ≤ 60 := by
  have e1 := congrArg List.length st.rest
  have e2 := pre_len ts
  have e3 := st.st.len
  have e4 := st.len
  have e5 := congrArg List.length st.tot
  have e6 := fnd_len root []
  have e7 := st.fn.len
  rw [List.length_drop, List.length_append] at e1
  rw [List.length_append] at e5
  rw [List.length_reverse] at e3
  rw [hit, List.length_append] at hn e1
  (first | lia | omega)
theorem rd_end {h₀ : Heap} {L I : Addr} {oI : Obj} {s₁ : Shared} {Q : Flow → Shared → Prop} {Aw Fd : Addr} {base : List (Addr × Obj)} {root : Tr} {items : List SL} {i : Nat} {h : Heap} {tk : Nat} {m' : Str → Option Value} {all X' : List (Addr × Obj)} {sv fv : List Value} {c1 c2 : Nat} {ts : List Tr} {abs : List (List SL)} {fs : List (Int × List SL)}
    (F : Fr h₀ L h m') (N : News h₀ L h all) (hI : (I, oI) ∈ all) (h1 : (Aw, listOf (List.toArray sv) c1) ∈ all) (h2 : (Fd, listOf (List.toArray fv) c2) ∈ all) (hX : ∀ p ∈ X', p ∈ all) (oX : ∀ p ∈ X', p.1 ≠ I) (hAI : Aw ≠ I) (hFI : Fd ≠ I)
    (st : RdSt X' base root items i sv fv ts abs fs) (hoff : ∀ p ∈ X', p.1 ≠ Aw ∧ p.1 ≠ Fd) (hm1 : m' (S' "awaited") = some (.ref Aw)) (hm2 : m' (S' "found") = some (.ref Fd)) : ForPost h₀ L I oI s₁ (RdJ Aw Fd base root items i) Q .next { s₁ with heap := h, toks := tk } := by
  refine ForEnd.intro ((Aw, listOf (List.toArray sv) c1) :: (Fd, listOf (List.toArray fv) c2) :: X') F N ?_ ?_ ⟨_, _, _, _, X', ts, abs, fs, rfl, st, hoff, hm1, hm2⟩
  · intro p hp
    rcases List.mem_cons.mp hp with rfl | hp
    · exact hI
    rcases List.mem_cons.mp hp with rfl | hp
    · exact h1
    rcases List.mem_cons.mp hp with rfl | hp
    · exact h2
    exact hX p hp
  · intro p hp
    rcases List.mem_cons.mp hp with rfl | hp
    · exact hAI
    rcases List.mem_cons.mp hp with rfl | hp
    · exact hFI
    exact oX p hp
theorem rd_leaf {X X' base : List (Addr × Obj)} {root : Tr} {items : List SL} {i : Nat} {sv sv' fv : List Value} {ts : List Tr} {ab : List SL} {abs : List (List SL)} {fs : List (Int × List SL)} {s l : Int} {v : Value} (st : RdSt X base root items i sv fv (.leaf s l :: ts) (ab :: abs) fs) (hs : ∀ p ∈ X, p ∈ X')
    (ha : Are (AbvAt X) sv' abs.reverse) (hd : items.drop (i + 1) = ts.flatMap pre ++ [(0, 8)]) (hv : FndAt X' v (s, ab)) : RdSt X' base root items (i + 1) sv' (fv ++ [v]) ts abs (fs ++ [(s, ab)]) where
  st := ha.imp (AbvAt.mono hs)
  fn := (st.fn.imp (FndAt.mono hs)).snoc hv
  sub p hp := hs p (st.sub p hp)
  len := by have := st.len; simpa using this
  rest := hd
  tot := by have := st.tot; simp only [fnds, fnd] at this; rw [← this, List.append_assoc]
  ok t ht := st.ok t (.tail _ ht)
  small ab h := Nat.le_succ_of_le (st.small ab (.tail _ h))
theorem rd_node {X X' base : List (Addr × Obj)} {root : Tr} {items : List SL} {i : Nat} {sv sv' fv : List Value} {ts : List Tr} {ab : List SL} {abs : List (List SL)} {fs : List (Int × List SL)} {s l : Int} {a b : Tr} {v1 v2 : Value} (st : RdSt X base root items i sv fv (.node s l a b :: ts) (ab :: abs) fs) (hs : ∀ p ∈ X, p ∈ X')
    (ha : Are (AbvAt X) sv' abs.reverse) (hd : items.drop (i + 1) = pre a ++ pre b ++ ts.flatMap pre ++ [(0, 8)]) (h1 : AbvAt X' v1 (ab ++ [(s, l)])) (h2 : AbvAt X' v2 (ab ++ [(s, l)])) : RdSt X' base root items (i + 1) (sv' ++ [v1, v2]) fv (a :: b :: ts) ((ab ++ [(s, l)]) :: (ab ++ [(s, l)]) :: abs) fs where
  st := by
    have e : ((ab ++ [(s, l)]) :: (ab ++ [(s, l)]) :: abs).reverse = abs.reverse ++ [ab ++ [(s, l)], ab ++ [(s, l)]] := by simp
    rw [e]
    exact (ha.imp (AbvAt.mono hs)).app (.cons h1 (.cons h2 .nil))
  fn := st.fn.imp (FndAt.mono hs)
  sub p hp := hs p (st.sub p hp)
  len := by have := st.len; simp only [List.length_cons] at this ⊢; (first | lia | omega)
  rest := by rw [hd]; simp
  tot := by have := st.tot; simp only [fnds, fnd] at this ⊢; rw [← this]; simp
  ok t ht := by
    have h0 := st.ok _ (.head _)
    rcases List.mem_cons.mp ht with rfl | ht
    · exact h0.2.2.1
    rcases List.mem_cons.mp ht with rfl | ht
    · exact h0.2.2.2
    exact st.ok t (.tail _ ht)
  small x h := by
    have h1 := st.small ab (.head _)
    have h2 : (ab ++ [(s, l)]).length ≤ i + 1 := by rw [List.length_append]; exact Nat.succ_le_succ h1
    rcases List.mem_cons.mp h with rfl | h
    · exact h2
    rcases List.mem_cons.mp h with rfl | h
    · exact h2
    exact Nat.le_succ_of_le (st.small x (.tail _ h))
theorem rd_leaf_end {h₀ : Heap} {L I : Addr} {oI : Obj} {s₁ : Shared} {Q : Flow → Shared → Prop} {Aw Fd A D : Addr} {oA : Obj} {base X : List (Addr × Obj)} {root : Tr} {items : List SL} {i : Nat} {h : Heap} {tk : Nat} {m' : Str → Option Value} {sv sv' fv : List Value} {c1 c2 kk : Nat} {t : Tok} {ts : List Tr} {ab : List SL} {abs : List (List SL)} {fs : List (Int × List SL)} {s l : Int} {w : Value}
    (F : Fr h₀ L h m') (N : News h₀ L h ((D, ({ cls := .type "tuple", data := .seq #[.int s t, w] kk } : Obj)) :: (I, oI) :: (A, oA) :: (Aw, listOf (List.toArray sv') c1) :: (Fd, listOf ((List.toArray fv).push (.ref D)) c2) :: X))
    (st : RdSt X base root items i sv fv (.leaf s l :: ts) (ab :: abs) fs) (ha : Are (AbvAt X) sv' abs.reverse) (hd : items.drop (i + 1) = ts.flatMap pre ++ [(0, 8)]) (hw : AbvAt X w ab) (oX : ∀ p ∈ X, p.1 ≠ I) (hoff : ∀ p ∈ X, p.1 ≠ Aw ∧ p.1 ≠ Fd)
    (hDI : D ≠ I) (hAI : Aw ≠ I) (hFI : Fd ≠ I) (hDA : D ≠ Aw) (hDF : D ≠ Fd) (hm1 : m' (S' "awaited") = some (.ref Aw)) (hm2 : m' (S' "found") = some (.ref Fd)) : ForPost h₀ L I oI s₁ (RdJ Aw Fd base root items (i + 1)) Q .next { s₁ with heap := h, toks := tk } := by
  rw [List.push_toArray] at N
  refine rd_end (X' := (D, ({ cls := .type "tuple", data := .seq #[.int s t, w] kk } : Obj)) :: X) F N (by simp) (List.mem_cons_of_mem _ (List.mem_cons_of_mem _ (List.mem_cons_of_mem _ (.head _)))) (List.mem_cons_of_mem _ (List.mem_cons_of_mem _ (List.mem_cons_of_mem _ (List.mem_cons_of_mem _ (.head _))))) ?_ ?_ hAI hFI
    (rd_leaf st (fun p hp => .tail _ hp) ha hd ⟨D, kk, t, w, rfl, .head _, AbvAt.mono (fun p hp => .tail _ hp) _ _ hw⟩) ?_ hm1 hm2
  · intro p hp
    rcases List.mem_cons.mp hp with rfl | hp
    · exact .head _
    · exact .tail _ (.tail _ (.tail _ (.tail _ (.tail _ hp))))
  · intro p hp
    rcases List.mem_cons.mp hp with rfl | hp
    · exact hDI
    · exact oX p hp
  · intro p hp
    rcases List.mem_cons.mp hp with rfl | hp
    · exact ⟨hDA, hDF⟩
    · exact hoff p hp
theorem add_at {prog : Program} {w : World} {A : Around} {E : Value → Shared → Prop} {s : Shared} {h₀ : Heap} {L D D2 : Addr} {m : Str → Option Value} {news : List (Addr × Obj)} {vs ws : List Value} {c c2 : Nat} {Q : Value → Shared → Prop} (F : Fr h₀ L s.heap m) (N : News h₀ L s.heap news) (h1 : (D, listOf (List.toArray vs) c) ∈ news) (h2 : (D2, listOf (List.toArray ws) c2) ∈ news) (hz : vs.length + ws.length ≤ 2 ^ 20)
    (h : ∀ l h', Fr h₀ L h' m → News h₀ L h' ((l, listOf (List.toArray (vs ++ ws)) 0) :: news) → (∀ p ∈ news, p.1 < l) → Q (.ref l) { s with heap := h' }) : wpAny (model prog w) A (binaryOp .Add (.ref D) (.ref D2)) Q E s := by
  refine PySem.P.add_list (N _ h1).1 (N _ h2).1 ?_ (by rw [PySem.sizeLine_eq]; simp only [List.size_toArray]; (first | lia | omega))
  rw [List.append_toArray]
  exact h s.heap.objs.size _ (F.push _) (N.push F _) fun p hp => Heap.lt_size (N p hp).1
theorem rd_node_end {h₀ : Heap} {L I : Addr} {oI : Obj} {s₁ : Shared} {Q : Flow → Shared → Prop} {Aw Fd A D1 D2 L1 L2 E1 E2 : Addr} {oA o1 o2 : Obj} {base X : List (Addr × Obj)} {root : Tr} {items : List SL} {i : Nat} {h : Heap} {tk : Nat} {m' : Str → Option Value} {sv sv' fv va : List Value} {c1 c2 k1 k2 n1 n2 : Nat} {t1 t2 u1 u2 : Tok} {ts : List Tr} {ab : List SL} {abs : List (List SL)} {fs : List (Int × List SL)} {s l : Int} {a b : Tr}
    (F : Fr h₀ L h m') (N : News h₀ L h ((L2, listOf (List.toArray (va ++ [.ref D2])) n2) :: (E2, o2) :: (D2, ({ cls := .type "tuple", data := .seq #[.int s t2, .int l u2] k2 } : Obj)) :: (L1, listOf (List.toArray (va ++ [.ref D1])) n1) :: (E1, o1) :: (D1, ({ cls := .type "tuple", data := .seq #[.int s t1, .int l u1] k1 } : Obj)) :: (I, oI) :: (A, oA) :: (Aw, listOf (((List.toArray sv').push (.ref L1)).push (.ref L2)) c1) :: (Fd, listOf (List.toArray fv) c2) :: X))
    (st : RdSt X base root items i sv fv (.node s l a b :: ts) (ab :: abs) fs) (ha : Are (AbvAt X) sv' abs.reverse) (hd : items.drop (i + 1) = pre a ++ pre b ++ ts.flatMap pre ++ [(0, 8)]) (hva : Are (PairAt X) va ab) (oX : ∀ p ∈ X, p.1 ≠ I) (hoff : ∀ p ∈ X, p.1 ≠ Aw ∧ p.1 ≠ Fd)
    (hAI : Aw < I) (hFI : Fd < I) (h1 : I < D1) (h2 : I < L1) (h3 : I < D2) (h4 : I < L2) (hm1 : m' (S' "awaited") = some (.ref Aw)) (hm2 : m' (S' "found") = some (.ref Fd)) : ForPost h₀ L I oI s₁ (RdJ Aw Fd base root items (i + 1)) Q .next { s₁ with heap := h, toks := tk } := by
  have ee : ((List.toArray sv').push (.ref L1)).push (.ref L2) = List.toArray (sv' ++ [.ref L1, .ref L2]) := by simp
  rw [ee] at N
  have news4 : ∀ {P : Addr × Obj → Prop}, (∀ o, P (L2, o)) → (∀ o, P (D2, o)) → (∀ o, P (L1, o)) → (∀ o, P (D1, o)) → (∀ p ∈ X, P p) → ∀ p ∈ (L2, listOf (List.toArray (va ++ [.ref D2])) n2) :: (D2, ({ cls := .type "tuple", data := .seq #[.int s t2, .int l u2] k2 } : Obj)) :: (L1, listOf (List.toArray (va ++ [.ref D1])) n1) :: (D1, ({ cls := .type "tuple", data := .seq #[.int s t1, .int l u1] k1 } : Obj)) :: X, P p := by
    intro P a1 a2 a3 a4 a5 p hp
    rcases List.mem_cons.mp hp with rfl | hp
    · exact a1 _
    rcases List.mem_cons.mp hp with rfl | hp
    · exact a2 _
    rcases List.mem_cons.mp hp with rfl | hp
    · exact a3 _
    rcases List.mem_cons.mp hp with rfl | hp
    · exact a4 _
    exact a5 p hp
  have sub : ∀ p ∈ X, p ∈ (L2, listOf (List.toArray (va ++ [.ref D2])) n2) :: (D2, ({ cls := .type "tuple", data := .seq #[.int s t2, .int l u2] k2 } : Obj)) :: (L1, listOf (List.toArray (va ++ [.ref D1])) n1) :: (D1, ({ cls := .type "tuple", data := .seq #[.int s t1, .int l u1] k1 } : Obj)) :: X := fun p hp => .tail _ (.tail _ (.tail _ (.tail _ hp)))
  refine rd_end F N (.tail _ (.tail _ (.tail _ (.tail _ (.tail _ (.tail _ (.head _))))))) (.tail _ (.tail _ (.tail _ (.tail _ (.tail _ (.tail _ (.tail _ (.tail _ (.head _))))))))) (.tail _ (.tail _ (.tail _ (.tail _ (.tail _ (.tail _ (.tail _ (.tail _ (.tail _ (.head _)))))))))) ?_ (news4 (fun _ => gtN h4) (fun _ => gtN h3) (fun _ => gtN h2) (fun _ => gtN h1) oX) (ltN hAI) (ltN hFI)
    (rd_node st sub ha hd ⟨L1, _, _, rfl, .tail _ (.tail _ (.head _)), (hva.imp (PairAt.mono sub)).snoc ⟨D1, k1, t1, u1, rfl, .tail _ (.tail _ (.tail _ (.head _)))⟩⟩ ⟨L2, _, _, rfl, .head _, (hva.imp (PairAt.mono sub)).snoc ⟨D2, k2, t2, u2, rfl, .tail _ (.head _)⟩⟩)
    (news4 (fun _ => ⟨gtN (Nat.lt_trans hAI h4), gtN (Nat.lt_trans hFI h4)⟩) (fun _ => ⟨gtN (Nat.lt_trans hAI h3), gtN (Nat.lt_trans hFI h3)⟩) (fun _ => ⟨gtN (Nat.lt_trans hAI h2), gtN (Nat.lt_trans hFI h2)⟩) (fun _ => ⟨gtN (Nat.lt_trans hAI h1), gtN (Nat.lt_trans hFI h1)⟩) hoff) hm1 hm2
  intro p hp
  rcases List.mem_cons.mp hp with rfl | hp
  · exact .head _
  rcases List.mem_cons.mp hp with rfl | hp
  · exact .tail _ (.tail _ (.head _))
  rcases List.mem_cons.mp hp with rfl | hp
  · exact .tail _ (.tail _ (.tail _ (.head _)))
  rcases List.mem_cons.mp hp with rfl | hp
  · exact .tail _ (.tail _ (.tail _ (.tail _ (.tail _ (.head _)))))
  exact .tail _ (.tail _ (.tail _ (.tail _ (.tail _ (.tail _ (.tail _ (.tail _ (.tail _ (.tail _ hp)))))))))
end Mine
end
local macro_rules | `(tactic| walk_at "pm6") => `(tactic| (intro h9 tk9 F9 N9))
local macro_rules | `(tactic| walk_at "pm7") => `(tactic| (intro l' h' F' N' l1; (try k_lt l1)))
section
set_option maxRecDepth 100000
set_option maxHeartbeats 8000000
namespace Mine























theorem ltI {a b : Nat} (h : a < b) : a < b := h
theorem drop_head {α : Type} {l : List α} {i : Nat} {x y : α} {r : List α} (h : l[i]? = some x) (hd : l.drop i = y :: r) : x = y ∧ l.drop (i + 1) = r := by
  have e : (l.drop i)[0]? = some x := by rw [List.getElem?_drop]; exact h
  rw [hd] at e
  refine ⟨(Option.some.inj e).symm, ?_⟩
  rw [← List.drop_drop, hd]; rfl
theorem fq_int (s : Int) : s * 2 ^ 20 / 2 ^ 20 = s := Int.mul_ediv_cancel _ (by decide)
theorem int_fq2 {prog : Program} {w : World} {A : Around} {E : Value → Shared → Prop} {s : Shared} {x : UInt64} {a c : Int} {t : Tok} {Q : Value → Shared → Prop} (hx : FQ x a) (h0 : 0 ≤ a) (hc : a / 2 ^ 20 = c) (h : Q (.int c s.toks) { s with toks := s.toks + 1 }) : wpAny (model prog w) A (call (.type "int") [.float x t]) Q E s := by
  refine e3a2 (id hx) fun sg m e hd _ => ?_
  refine call_int_float hd ?_
  have e1 := fq_trunc hx h0
  rw [Flt.toInt_fin hd] at e1
  rw [e1, hc]
  exact h
theorem fq_sym {h : UInt64} {s : Int} (hq : FQ h (s * 2 ^ 11)) (hb : 0 ≤ s ∧ s ≤ 511) : FQ (Float64.mul h (Float64.ofInt 512)) (s * 2 ^ 20) := fq_mul _ hq (fq_ofInt (by decide)) (by (first | lia | omega)) (by (first | lia | omega))
theorem fq_lev {h : UInt64} {s : Int} (hq : FQ h (s * 2 ^ 17)) (hb : 0 ≤ s ∧ s ≤ 8) : FQ (Float64.mul h (Float64.ofInt 8)) (s * 2 ^ 20) := fq_mul _ hq (fq_ofInt (by decide)) (by (first | lia | omega)) (by (first | lia | omega))

theorem forPost_brk {h₀ : Heap} {L I : Addr} {oI : Obj} {s₁ s₂ : Shared} {J : (Str → Option Value) → List (Addr × Obj) → Prop} {Q : Flow → Shared → Prop} (h : Q .next s₂) : ForPost h₀ L I oI s₁ J Q .brk s₂ := h
theorem Are.unsnoc {α : Type} {R : Value → α → Prop} {vs : List Value} {xs : List α} {x : α} (h : Are R vs (xs ++ [x])) : ∃ ws v, vs = ws ++ [v] ∧ Are R ws xs ∧ R v x := by
  induction xs generalizing vs with
  | nil =>
    cases h with
    | cons a r => cases r; exact ⟨[], _, rfl, .nil, a⟩
  | cons y r ih =>
    cases h with
    | cons a h =>
      obtain ⟨ws, v, rfl, h1, h2⟩ := ih h
      exact ⟨_ :: ws, v, rfl, .cons a h1, h2⟩
theorem name_t2 {h₀ : Heap} {L : Addr} {g : Heap} {D Fd : Addr} {z : Int} {t : Tok} {kk : Nat} {r : List (Addr × Obj)} (N : News h₀ L g ((D, ({ cls := .type "tuple", data := .seq #[.ref Fd, .int z t] kk } : Obj)) :: r)) : ∃ u k', News h₀ L g ((D, tupOf [.ref Fd, .int z u] k') :: r) := ⟨t, kk, N⟩


theorem read_call (w : World) (news : List (Addr × Obj)) (tl : Addr) (vs : List Value) (n : Nat) (items : List SL) (root : Tr) (ha : Are (ColAt news) vs items) (hit : items = pre root ++ [(0, 8)]) (hok : root.ok) (hn : items.length ≤ 60) :
    Call1 2 w 137 ((tl, listOf vs.toArray n) :: news) [.ref tl] (fun v news' => ∃ A k t Fd fv cF X, v = .ref A ∧ news' = (A, tupOf [.ref Fd, .int 0 t] k) :: (Fd, listOf (List.toArray fv) cF) :: X ∧ Are (FndAt X) fv (fnd root []) ∧ (∀ p ∈ (tl, listOf vs.toArray n) :: news, p ∈ X)) := by
  have hvl := ha.len
  have hrow : PySem.Challenge.rw_ty0036_02.most = some 63 := rfl
  unfold Call1
  revert hrow
  k_with_none
  w_top off
  k_with "storeName" => ((k_here; k_dflt (refine' storeX_Lf ?zweg ?zwed ?zweo ?zwet ?zwF ?zwN ?_ ?zwa ?zwb; (case zweg => dsimp only); (case zwed => dsimp only); (case zweo => dsimp only); (case zwet => dsimp only); (case zwF => k_asm); (case zwN => k_asm); (case zwa => rfl); (case zwb => rfl); k_whole; walk_at "pm0"; (try k_sweep))))
  k_with "tb_start" => (k_dflt (first
  | (refine' code_def ?zwk1 ?zwk2 ?zwk3 ?zwk4 ?zwk5 ?zwkA ?zwkF ?zwkK ?zwk6 ?zwk7 ?zwk8 ?zwk9 ?zwkB ?_ ?zwc2 ?zwc3 ?zwc4 ?zwc5; (case zwkA => exact rfl); (case zwkF => exact rfl); (case zwkK => first | assumption | exact rfl); (case zwk1 => k_asm); (case zwk2 => k_asm); (case zwk3 => k_asm); (case zwk4 => k_asm); (case zwk5 => k_asm); (case zwk6 => k_is); (case zwk7 => k_is); (case zwk8 => ktr_room); (case zwk9 => first | exact BindsTo.of_eq rfl | (refine' kp_binds ?zwkx ?zwke; (case zwkx => k_in); (case zwke => exact fun _ => rfl))); (case zwc5 => decide); (case zwkB => exact locs rfl); (case zwc2 => exact rfl); (case zwc3 => exact rfl); (case zwc4 => exact rfl); k_whole; walk_at "pm1"; (try dsimp only); (try k_fold))
  | (refine' code_defC ?zwk1 ?zwk2 ?zwk3 ?zwk4 ?zwk5 ?zwkA ?zwkF ?zwkK ?zwk6 ?zwk7 ?zwk8 ?zwk9 ?zwkB ?zwkD ?_ ?zwc2 ?zwc3 ?zwc4; (case zwkA => exact rfl); (case zwkF => exact rfl); (case zwkK => first | assumption | exact rfl); (case zwk1 => k_asm); (case zwk2 => k_asm); (case zwk3 => k_asm); (case zwk4 => k_asm); (case zwk5 => k_asm); (case zwk6 => k_is); (case zwk7 => k_is); (case zwk8 => ktr_room); (case zwk9 => first | exact BindsTo.of_eq rfl | (refine' kp_binds ?zwkx ?zwke; (case zwkx => k_in); (case zwke => exact fun _ => rfl))); (case zwkB => exact rfl); (case zwkD => decide +kernel); (case zwc2 => exact rfl); (case zwc3 => exact rfl); (case zwc4 => exact rfl); k_whole; walk_at "pm2"; (try dsimp only); (try k_fold))))
  k_with "k_all" => (first | assumption | exact all_ne (by assumption) (by omega) | fail)
  k_with "call ref" => ((k_here; refine wpAny_call ?_; k_extra "tb_start"))
  k_with "call ref" => ((k_here; k_dflt (first
  | ((with_reducible show wpAny _ _ (call (Value.ref 85) _) _ _ _); (first | refine' Call1.useV (iseof_call _ _ _ _ true (beq_self_eq_true _)) ?zwk1 ?zwk2 ?zwk3 ?zwk4 ?zwk5 ?zwkK ?zwkd ?zwku ?_; (case zwk1 => k_asm); (case zwk2 => k_asm); (case zwk3 => k_asm); (case zwk4 => k_asm); (case zwk5 => k_asm); (case zwkK => first | exact rfl | assumption); (case zwkd => ktr_room); (case zwku => ktr_units) | refine' Call1.useV (iseof_call _ _ _ _ false (by simp; omega)) ?zwk1 ?zwk2 ?zwk3 ?zwk4 ?zwk5 ?zwkK ?zwkd ?zwku ?_; (case zwk1 => k_asm); (case zwk2 => k_asm); (case zwk3 => k_asm); (case zwk4 => k_asm); (case zwk5 => k_asm); (case zwkK => first | exact rfl | assumption); (case zwkd => ktr_room); (case zwku => ktr_units)); walk_at "pm6"; (try dsimp only); (try k_fold))
  | ((with_reducible show wpAny _ _ (call (Value.ref 71) _) _ _ _); (first | refine' Call1.useV (isterm_call _ _ _ _ true (decide_eq_true (by omega))) ?zwk1 ?zwk2 ?zwk3 ?zwk4 ?zwk5 ?zwkK ?zwkd ?zwku ?_; (case zwk1 => k_asm); (case zwk2 => k_asm); (case zwk3 => k_asm); (case zwk4 => k_asm); (case zwk5 => k_asm); (case zwkK => first | exact rfl | assumption); (case zwkd => ktr_room); (case zwku => ktr_units) | refine' Call1.useV (isterm_call _ _ _ _ false (decide_eq_false (by omega))) ?zwk1 ?zwk2 ?zwk3 ?zwk4 ?zwk5 ?zwkK ?zwkd ?zwku ?_; (case zwk1 => k_asm); (case zwk2 => k_asm); (case zwk3 => k_asm); (case zwk4 => k_asm); (case zwk5 => k_asm); (case zwkK => first | exact rfl | assumption); (case zwkd => ktr_room); (case zwku => ktr_units)); walk_at "pm6"; (try dsimp only); (try k_fold))
  | ((with_reducible show wpAny _ _ (call (Value.ref 78) _) _ _ _); (first | refine' Call1.useV (isnont_call _ _ _ _ true (decide_eq_true (by omega))) ?zwk1 ?zwk2 ?zwk3 ?zwk4 ?zwk5 ?zwkK ?zwkd ?zwku ?_; (case zwk1 => k_asm); (case zwk2 => k_asm); (case zwk3 => k_asm); (case zwk4 => k_asm); (case zwk5 => k_asm); (case zwkK => first | exact rfl | assumption); (case zwkd => ktr_room); (case zwku => ktr_units) | refine' Call1.useV (isnont_call _ _ _ _ false (decide_eq_false (by omega))) ?zwk1 ?zwk2 ?zwk3 ?zwk4 ?zwk5 ?zwkK ?zwkd ?zwku ?_; (case zwk1 => k_asm); (case zwk2 => k_asm); (case zwk3 => k_asm); (case zwk4 => k_asm); (case zwk5 => k_asm); (case zwkK => first | exact rfl | assumption); (case zwkd => ktr_room); (case zwku => ktr_units)); walk_at "pm6"; (try dsimp only); (try k_fold)))))
  k_with "k_all" => (first | assumption | (refine' List.forall_mem_cons.mpr ⟨?zwkza, ?zwkzb⟩; (case zwkza => (try dsimp only); first | assumption | exact ltN (by omega) | exact gtN (by omega) | fail); (case zwkzb => k_all)) | exact all_ne (by assumption) (by omega) | fail)
  k_with "loadName" => ((k_here; k_dflt (refine' ldn ?zwk1 ?zwk2 ?_; (case zwk1 => k_asm); (case zwk2 => (repeat (first | assumption | exact if_pos rfl | refine' (if_neg (by decide)).trans ?_))))))
  k_with "eval Name" => ((k_here; name_kind "local"; k_dflt (refine' ld ?zwk1 ?zwk2 ?_; (case zwk1 => k_asm); (case zwk2 => (repeat (first | assumption | exact if_pos rfl | refine' (if_neg (by decide)).trans ?_))); k_whole)))
  k_with "pyIter ref" => ((k_here; refine stop_intro ?_))
  k_with "exec For" => ((k_here; k_dflt (refine' for_ruleL ?zwhF ?zwhs ?_; (case zwhF => k_asm); (case zwhs => intro _; rfl))))
  k_with "exec For Name Name cons nil" => ((k_here; k_dflt (refine' for_ruleL ?zwhF ?zwhs ?_; (case zwhF => k_asm); (case zwhs => intro _; rfl))))
  k_with "exec For Name Subscript cons nil" => ((k_here; k_dflt (refine' for_ruleL ?zwhF ?zwhs ?_; (case zwhF => k_asm); (case zwhs => intro _; rfl))))
  k_with "exec For Name Call cons nil" => ((k_here; k_dflt (refine' for_ruleL ?zwhF ?zwhs ?_; (case zwhF => k_asm); (case zwhs => intro _; rfl))))
  k_with "exec For Tuple Name cons nil" => ((k_here; k_dflt (refine' for_ruleL ?zwhF ?zwhs ?_; (case zwhF => k_asm); (case zwhs => intro _; rfl))))
  k_with "exec For Tuple" => ((k_here; k_dflt (refine' for_ruleL ?zwhF ?zwhs ?_; (case zwhF => k_asm); (case zwhs => intro _; rfl))))
  k_with "call builtin:len" => ((k_here; (with_reducible show wpAny _ _ (call (Value.builtin _) [Value.ref _]) _ _ _); k_dflt (refine' len_at ?zwk1 ?zwk2 ?zwk3 ?_; (case zwk1 => k_asm); (case zwk2 => (repeat (first | assumption | exact List.Mem.head _ | apply List.Mem.tail))); (case zwk3 => omega); walk_at "pm3")))
  k_with "call type:int" => ((k_here; (with_reducible show wpAny _ _ (call _ [Value.float _ _]) _ _ _); k_dflt (refine' int_fq2 ?zwk1 ?zwk2 ?zwk3 ?_; (case zwk1 => assumption); (case zwk2 => omega); (case zwk3 => exact fq_int _))))
  k_with "binaryOp Add ref ref" => ((k_here; k_dflt (refine' add_at ?zwF ?zwN ?zwm1 ?zwm2 ?zwz ?_; (case zwF => k_asm); (case zwN => k_asm); (case zwm1 => (repeat (first | assumption | apply List.Mem.tail))); (case zwm2 => (repeat (first | exact List.Mem.head _ | apply List.Mem.tail))); (case zwz => first | omega | (simp only [List.length_cons, List.length_nil]; omega))); walk_at "pm7"))
  k_with "k_all" => (first | assumption | exact all_ne (by assumption) (by omega) | fail)
  k_fill
  intro hrow
  clear hrow
  intro p loose mean mg mb dp un gd cn cs a ccd cl outer A₀ base h₀ L m s Q E B F X N T hk hdp hun hret
  refine wpAny_call ?_
  k_extra "tb_start"
  refine tok_gen fun tk0 => ?_
  k_steps
  rename_i Ee gE lE Aw gA lA gB Fd gF lF gG FG NG
  refine e1a1 ((⟨_, rfl⟩ : ∃ base, base = (Ee, listOf (List.toArray ([] : List Value)) 0) :: (tl, listOf vs.toArray n) :: news)) fun base hbase => ?_
  have hbm : ∀ p ∈ news, p ∈ base := fun p hp => by rw [hbase]; exact .tail _ (.tail _ hp)
  have htl : (tl, listOf vs.toArray n) ∈ base := by rw [hbase]; exact .tail _ (.head _)
  have hboff : ∀ p ∈ base, p.1 ≠ Aw ∧ p.1 ≠ Fd := by
    intro p hp
    rw [hbase] at hp
    rcases List.mem_cons.mp hp with rfl | hp
    · exact ⟨ltN lA.1, ltN lF.2.1⟩
    · rcases List.mem_cons.mp hp with rfl | hp
      · exact ⟨ltN lA.2.1, ltN lF.2.2.1⟩
      · exact ⟨ltN (allLt_at lA.2.2 p hp), ltN (allLt_at lF.2.2.2 p hp)⟩
  refine stop_elim ?_
  refine' srcF_list (ax := tl) (its := vs.toArray) (k := n) (news := (Aw, listOf (List.toArray [Value.ref Ee]) 0) :: (Fd, listOf (List.toArray ([] : List Value)) 0) :: base) rfl FG ?zN (.tail _ (.tail _ htl)) ?_
  case zN => rw [hbase]; exact news_pick NG (by intro p hp; simp only [List.mem_cons] at hp ⊢; rcases hp with rfl | rfl | rfl | rfl | hp <;> simp_all)
  intro it9 s9 S9
  refine e1a1 (SrcF.same S9) fun g9 e9 => ?_
  subst e9
  refine LoopOK.put (RdJ Aw Fd base root items) S9 ?ja ?jb ?jc ?jd
  case ja => exact ⟨[.ref Ee], 0, [], 0, base, [root], [[]], [], rfl, ⟨.cons ⟨Ee, [], 0, rfl, by rw [hbase]; exact .head _, .nil⟩ .nil, .nil, fun p hp => hp, rfl, by rw [hit]; simp, by simp [fnds], by simpa using hok, by simp⟩, hboff, by (first | exact if_pos rfl | (refine (if_neg (by decide)).trans ?_; exact if_pos rfl)), by (first | exact if_pos rfl | (refine (if_neg (by decide)).trans ?_; exact if_pos rfl))⟩
  case jb =>
    intro i m nw zr0
    obtain ⟨sv, cA, fv, cF, X, ts, abs, fs, rfl, st, _⟩ := zr0
    exact .tail _ (.tail _ (st.sub _ htl))
  case jc =>
    intro i v m1 nw I oI h tk E' hi9 hv zr0 off hltI F9 N9
    (try (refine absL ?_; intro QL9))
    (try dsimp only)
    (try k_fold)
    refine e8a5 (zr0) fun sv cA fv cF X ts abs fs ze0 st hoff hm1 hm2 => ?_
    clear zr0
    subst ze0
    refine e1a2 (ha.get (arr_at hv)) fun x hx zt0 => ?_
    refine e8a4 (zt0) fun A ka fh fs' fq u1 u2 u3 ze1 hA hq1 hq2 => ?_
    clear zt0
    subst ze1
    have hA' := st.sub _ (hbm _ hA)
    have N9' : News _ _ h ((I, oI) :: (A, ({ cls := .type "tuple", data := .seq #[.float fh u1, .float fs' u2, .float fq u3] ka } : Obj)) :: (Aw, listOf (List.toArray sv) cA) :: (Fd, listOf (List.toArray fv) cF) :: X) := news_pick N9 (by
      intro p hp
      simp only [List.mem_cons] at hp ⊢
      rcases hp with rfl | rfl | rfl | rfl | hp
      · exact .inl rfl
      · exact .inr (.inr (.inr hA'))
      · exact .inr (.inl rfl)
      · exact .inr (.inr (.inl rfl))
      · exact .inr (.inr (.inr hp)))
    clear N9
    have hd := st.rest
    have offI : ∀ p ∈ X, p.1 ≠ I := fun p hp => off p (.tail _ (.tail _ hp))
    have hlA9 := hltI
    k_lt hlA9
    obtain ⟨sy, lv⟩ := x
    have hq1' : FQ fh (sy * 2 ^ 11) := hq1
    have hq2' : FQ fq (lv * 2 ^ 17) := hq2
    clear hq1 hq2
    rcases ts with _ | ⟨t, ts⟩
    · refine a2 (drop_head hx (by simpa using hd)) fun e _ => ?_
      cases e
      have hS := fq_sym hq1' (by omega)
      have hV := fq_lev hq2' (by omega)
      (try k_fold)
      k_steps
      dsimp only
      refine forPost_brk ?_
      have habs : abs = [] := by have := st.len; exact List.length_eq_zero_iff.mp this.symm
      have hsv : sv = [] := by have := st.st.len; rw [habs] at this; exact List.length_eq_zero_iff.mp this
      subst hsv
      dsimp only
      (try k_fold)
      k_steps
      have hfs : fs = fnd root [] := by have := st.tot; rw [habs] at this; simpa [fnds] using this
      obtain ⟨u9, k9, NN⟩ := name_t2 (h₀ := h₀) (L := L) (by k_asm)
      refine hret _ _ _ _ ⟨_, k9, u9, Fd, fv, cF, X, rfl, rfl, by rw [← hfs]; exact st.fn, fun p hp => st.sub p (by rw [hbase]; exact .tail _ hp)⟩ (by k_asm) ?_
      intro p hp
      refine NN p ?_
      simp only [List.mem_cons] at hp ⊢
      rcases hp with rfl | rfl | hp
      · exact .inl rfl
      · exact .inr (.inr (.inr (.inr (.inl rfl))))
      · exact .inr (.inr (.inr (.inr (.inr hp))))
    · have hroom : (t :: ts).length ≤ 60 := by
        have e1 := congrArg List.length st.rest
        have e2 : ∀ l : List Tr, l.length ≤ (l.flatMap pre).length := by
          intro l
          induction l with
          | nil => exact Nat.le_refl _
          | cons a r ih => rw [List.flatMap_cons, List.length_append, List.length_cons]; have : 1 ≤ (pre a).length := (by cases a <;> simp [pre]); omega
        have e3 := e2 (t :: ts)
        rw [List.length_drop, List.length_append] at e1
        simp only [List.length_cons, List.length_nil] at e1 ⊢ e3
        omega
      obtain ⟨ab, abs', rfl⟩ : ∃ ab abs', abs = ab :: abs' := by
        have := st.len
        cases abs with
        | nil => simp at this
        | cons a r => exact ⟨a, r, rfl⟩
      have hst := st.st
      rw [List.reverse_cons] at hst
      refine e2a3 (Are.unsnoc hst) fun sv' v9 ze0 hst' zt1 => ?_
      subst ze0
      refine e3a3 (zt1) fun Ab va ca ze2 hAb hab => ?_
      clear zt1
      subst ze2
      have htok := st.ok t (.head _)
      have hva : va.length ≤ 60 := by have h1 := hab.len; have h2 := st.small ab (.head _); have h3 := (List.getElem?_eq_some_iff.mp hx).1; omega
      have hsf : fv.length ≤ 60 := (st.room hn hit).2
      have hsv : sv'.length ≤ 60 := by have e1 := (st.room hn hit).1; rw [List.length_append] at e1; omega
      have hsl : (sv' ++ [Value.ref Ab]).toArray.toList.length ≤ 60 := by
        have e1 := hst'.len
        have e2 := st.len
        rw [List.length_reverse] at e1
        simp only [List.length_cons, List.length_append, List.length_nil] at e2 hroom ⊢
        omega
      have hAA : A ≠ Aw := (hoff _ hA').1
      have hAF : A ≠ Fd := (hoff _ hA').2
      have hXA : ∀ p ∈ X, p.1 ≠ Aw := fun p hp => (hoff p hp).1
      have hXF : ∀ p ∈ X, p.1 ≠ Fd := fun p hp => (hoff p hp).2
      cases t with
      | leaf s l =>
        refine a2 (htok) fun hs hl => ?_
        clear htok
        refine a2 (drop_head hx hd) fun e hd' => ?_
        cases e
        have hS := fq_sym hq1' (by omega)
        have hV := fq_lev hq2' (by omega)
        (try k_fold)
        k_steps
        all_goals (try dsimp only)
        k_here
        refine' kl_pop (its := (sv' ++ [Value.ref Ab]).toArray) (p := sv') (y := Value.ref Ab) ?F ?N (kpa_last _ _) ?U ?z ?_
        case F => k_asm
        case N => k_asm
        case U => k_upd
        case z => exact Nat.le_trans hsl (by rw [PySem.sizeLine_eq]; decide)
        kl_rest
        k_steps
        all_goals (try dsimp only)
        all_goals (try dsimp only)
        refine' rd_leaf_end ?F ?N st hst' hd' ⟨Ab, va, ca, rfl, hAb, hab⟩ offI hoff ?d1 ?d2 ?d3 ?d4 ?d5 ?m1 ?m2
        case F => k_asm
        case N => k_asm
        case d1 => exact gtN (by omega)
        case d2 => exact ltN (by omega)
        case d3 => exact ltN (by omega)
        case d4 => exact gtN (by omega)
        case d5 => exact gtN (by omega)
        case m1 => (repeat (first | assumption | exact if_pos rfl | refine' (if_neg (by decide)).trans ?_))
        case m2 => (repeat (first | assumption | exact if_pos rfl | refine' (if_neg (by decide)).trans ?_))
      | node s l a b =>
        refine a4 (htok) fun hs hl hoa hob => ?_
        clear htok
        refine a2 (drop_head hx hd) fun e hd' => ?_
        cases e
        have hS := fq_sym hq1' (by omega)
        have hV := fq_lev hq2' (by omega)
        (try k_fold)
        k_steps
        all_goals (try dsimp only)
        k_here
        refine' kl_pop (its := (sv' ++ [Value.ref Ab]).toArray) (p := sv') (y := Value.ref Ab) ?F ?N (kpa_last _ _) ?U ?z ?_
        case F => k_asm
        case N => k_asm
        case U => k_upd
        case z => exact Nat.le_trans hsl (by rw [PySem.sizeLine_eq]; decide)
        kl_rest
        k_steps
        all_goals (try dsimp only)
        refine' rd_node_end ?F ?N st hst' hd' hab offI hoff ?d1 ?d2 ?d3 ?d4 ?d5 ?d6 ?m1 ?m2
        case F => k_asm
        case N => k_asm
        case d1 => exact ltI (by omega)
        case d2 => exact ltI (by omega)
        case d3 => exact ltI (by omega)
        case d4 => exact ltI (by omega)
        case d5 => exact ltI (by omega)
        case d6 => exact ltI (by omega)
        case m1 => (repeat (first | assumption | exact if_pos rfl | refine' (if_neg (by decide)).trans ?_))
        case m2 => (repeat (first | assumption | exact if_pos rfl | refine' (if_neg (by decide)).trans ?_))
  case jd =>
    intro h tk m1 nw zr0 F9 N9
    obtain ⟨sv, cA, fv, cF, X, ts, abs, fs, rfl, st, _⟩ := zr0
    exfalso
    have hd := st.rest
    rw [List.size_toArray, hvl, List.drop_length] at hd
    simp at hd
end Mine
end
local macro_rules | `(tactic| walk_at "pm8") => `(tactic| (intro f' c' oc' vs' t' ct' h' tk' F' N' d1' d2' l1 l2 l3; (try dsimp only at N'); (try k_lt l1); (try k_lt2 l2)))
section
set_option maxRecDepth 100000
set_option maxHeartbeats 8000000
namespace Mine

/-- a tie is laid behind those of its price -/
noncomputable def insT (l : List (Int × Nat × Nat)) (x : Int × Nat × Nat) : List (Int × Nat × Nat) := l.take (cR (l.map (·.1)) x.1) ++ x :: l.drop (cR (l.map (·.1)) x.1)
noncomputable def tieF (ls : List Int) (ps : List (Nat × Nat)) : List (Int × Nat × Nat) := ps.foldl (fun l q => insT l (price (ls.getD q.1 0) (ls.getD q.2 0), q.1, q.2)) []
/-- the pairs below k, as the loops come to them -/
noncomputable def prs (k : Nat) : List (Nat × Nat) := (List.range k).flatMap fun a => (List.range a).map fun j => (j, a)
theorem prs_succ (k : Nat) : prs (k + 1) = prs k ++ (List.range k).map fun j => (j, k) := by unfold prs; rw [List.range_succ, List.flatMap_append]; simp
theorem tieF_snoc (ls : List Int) (ps : List (Nat × Nat)) (q : Nat × Nat) : tieF ls (ps ++ [q]) = insT (tieF ls ps) (price (ls.getD q.1 0) (ls.getD q.2 0), q.1, q.2) := by unfold tieF; rw [List.foldl_append]; rfl
theorem insT_map (l : List (Int × Nat × Nat)) (x : Int × Nat × Nat) : (insT l x).map (·.1) = insI (l.map (·.1)) (cR (l.map (·.1)) x.1) x.1 := by unfold insT insI; simp [List.map_take, List.map_drop]
theorem srt_tieF (ls : List Int) (ps : List (Nat × Nat)) : Srt ((tieF ls ps).map (·.1)) := by
  suffices h : ∀ (ps : List (Nat × Nat)) l, Srt (l.map (·.1)) → Srt ((ps.foldl (fun l q => insT l (price (ls.getD q.1 0) (ls.getD q.2 0), q.1, q.2)) l).map (·.1)) from h ps [] (by simp [Srt])
  intro ps
  induction ps with
  | nil => intro l h; exact h
  | cons q r ih => intro l h; exact ih _ (by rw [insT_map]; exact srt_insR h _)
theorem insT_length (l : List (Int × Nat × Nat)) (x : Int × Nat × Nat) : (insT l x).length = l.length + 1 := by unfold insT; rw [List.length_append, List.length_cons, List.length_take, List.length_drop]; omega
theorem tieF_length (ls : List Int) (ps : List (Nat × Nat)) : (tieF ls ps).length = ps.length := by
  suffices h : ∀ (ps : List (Nat × Nat)) l, (ps.foldl (fun l q => insT l (price (ls.getD q.1 0) (ls.getD q.2 0), q.1, q.2)) l).length = l.length + ps.length from by have := h ps []; unfold tieF; rw [this]; simp
  intro ps
  induction ps with
  | nil => intro l; rfl
  | cons q r ih => intro l; rw [List.foldl_cons, ih, insT_length, List.length_cons]; (first | lia | omega)
noncomputable def IsTie (X : List (Addr × Obj)) (v : Value) (x : Int × Nat × Nat) : Prop := ∃ A k t1 t2 t3, v = .ref A ∧ (A, tupOf [.int x.1 t1, .int (x.2.1 : Int) t2, .int (x.2.2 : Int) t3] k) ∈ X
noncomputable abbrev lamQ : Str := (Str.ofString "_law_ties" ++ Str.ofString ".<locals>.") ++ Str.ofString "<lambda>"
noncomputable abbrev lamP : Pos := { line := 186, col := 50, endLine := 186, endCol := 68 }
structure TieSt (lv W T : Addr) (base : List (Addr × Obj)) (ls : List Int) (done : List (Nat × Nat)) (m : Str → Option Value) (ts : List Value) (ps : Array Value) (X : List (Addr × Obj)) : Prop where
  ties : Are (IsTie X) ts (tieF ls done)
  off : ∀ p ∈ X, p.1 ≠ T ∧ p.1 ≠ 122
  sub : ∀ p ∈ base, p ∈ X
  tab : TabX lamQ lamP ps X
  m1 : m (S' "leaves") = some (.ref lv)
  m2 : m (S' "words") = some (.ref W)
  m3 : m (S' "ties") = some (.ref T)
theorem name_tup {h₀ g : Heap} {L f c' A : Addr} {o1 o2 : Obj} {x y z : Int} {t1 t2 t3 : Tok} {kk : Nat} {r : List (Addr × Obj)} (N : News h₀ L g ((f, o1) :: (c', o2) :: (A, ({ cls := .type "tuple", data := .seq #[.int x t1, .int y t2, .int z t3] kk } : Obj)) :: r)) :
    ∃ u1 u2 u3 k', News h₀ L g ((f, o1) :: (c', o2) :: (A, tupOf [.int x u1, .int y u2, .int z u3] k') :: r) := ⟨t1, t2, t3, kk, N⟩
theorem IsTie.mono {X Y : List (Addr × Obj)} (hs : ∀ p ∈ X, p ∈ Y) : ∀ v x, IsTie X v x → IsTie Y v x := by
  intro v x zr0
  obtain ⟨A, k, t1, t2, t3, rfl, h⟩ := zr0
  exact ⟨A, k, t1, t2, t3, rfl, hs _ h⟩
theorem prs_len : ∀ {k : Nat}, k ≤ 5 → (prs k).length ≤ 10
  | 0, _ | 1, _ | 2, _ | 3, _ | 4, _ | 5, _ => by decide
  | k + 6, h => by (first | lia | omega)
theorem TieSt.next {lv W T : Addr} {base : List (Addr × Obj)} {ls : List Int} {done done' : List (Nat × Nat)} {m m' : Str → Option Value} {ts : List Value} {ps : Array Value} {X : List (Addr × Obj)} (st : TieSt lv W T base ls done m ts ps X) (q : Nat × Nat) {A c' : Addr} {oc : Obj} {cvs : Array Value} {t t1 t2 t3 : Tok} {kk : Nat} {h₀ g : Heap} {L : Addr} (_ : Fr h₀ L g m')
    (hA : A ≠ T ∧ A ≠ 122) (hc : c' ≠ T ∧ c' ≠ 122) (hd : oc.data = .fields cvs) (hv : cvs[1]? = some (.str lamQ t)) (m1 : m' (S' "leaves") = some (.ref lv)) (m2 : m' (S' "words") = some (.ref W)) (m3 : m' (S' "ties") = some (.ref T)) (hq : done' = done ++ [q]) :
    TieSt lv W T base ls done' m' (insV ts (cR ((tieF ls done).map (·.1)) (price (ls.getD q.1 0) (ls.getD q.2 0))) (.ref A)) #[rawInt lamP.line, rawInt lamP.col, .ref c'] ((A, tupOf [.int (price (ls.getD q.1 0) (ls.getD q.2 0)) t1, .int (q.1 : Int) t2, .int (q.2 : Int) t3] kk) :: (c', oc) :: X) := by
  subst hq
  refine ⟨?_, ?_, fun p hp => .tail _ (.tail _ (st.sub p hp)), .inr ⟨c', oc, cvs, t, rfl, .tail _ (.head _), hd, hv⟩, m1, m2, m3⟩
  · rw [tieF_snoc]
    exact (st.ties.imp (IsTie.mono fun p hp => .tail _ (.tail _ hp))).ins _ ⟨A, kk, t1, t2, t3, rfl, .head _⟩
  · intro p hp
    rcases List.mem_cons.mp hp with rfl | hp
    · exact hA
    · rcases List.mem_cons.mp hp with rfl | hp
      · exact hc
      · exact st.off p hp







































theorem ties_call (w : World) (news : List (Addr × Obj)) (lv : Addr) (vs : List Value) (ls : List Int) (n : Nat) (hi : IntsAre vs ls) (hl : 4 ≤ ls.length ∧ ls.length ≤ 5) (hnw : ∀ p ∈ (lv, listOf vs.toArray n) :: news, p.1 ≠ 122) :
    Call1 6 w 125 ((122, tabObj #[]) :: (lv, listOf vs.toArray n) :: news) [.ref lv] (fun v news' => ∃ T ts c ps X, v = .ref T ∧ news' = (T, listOf (List.toArray ts) c) :: (122, tabObj ps) :: X ∧ Are (IsTie X) ts (tieF ls (prs ls.length)) ∧ (∀ p ∈ (lv, listOf vs.toArray n) :: news, p ∈ X) ∧ (∀ p ∈ X, p.1 ≠ T ∧ p.1 ≠ 122) ∧ T ≠ 122) := by
  have hvl := hi.length
  have hrow : PySem.Challenge.rw_ty0036_02.most = some 63 := rfl
  unfold Call1
  revert hrow
  k_with_none
  w_top off
  k_with "storeName" => ((k_here; k_dflt (refine' storeX_Lf ?zweg ?zwed ?zweo ?zwet ?zwF ?zwN ?_ ?zwa ?zwb; (case zweg => dsimp only); (case zwed => dsimp only); (case zweo => dsimp only); (case zwet => dsimp only); (case zwF => k_asm); (case zwN => k_asm); (case zwa => rfl); (case zwb => rfl); k_whole; walk_at "pm0"; (try k_sweep))))
  k_with "tb_start" => (k_dflt (first
  | (refine' code_def ?zwk1 ?zwk2 ?zwk3 ?zwk4 ?zwk5 ?zwkA ?zwkF ?zwkK ?zwk6 ?zwk7 ?zwk8 ?zwk9 ?zwkB ?_ ?zwc2 ?zwc3 ?zwc4 ?zwc5; (case zwkA => exact rfl); (case zwkF => exact rfl); (case zwkK => first | assumption | exact rfl); (case zwk1 => k_asm); (case zwk2 => k_asm); (case zwk3 => k_asm); (case zwk4 => k_asm); (case zwk5 => k_asm); (case zwk6 => k_is); (case zwk7 => k_is); (case zwk8 => ktr_room); (case zwk9 => first | exact BindsTo.of_eq rfl | (refine' kp_binds ?zwkx ?zwke; (case zwkx => k_in); (case zwke => exact fun _ => rfl))); (case zwc5 => decide); (case zwkB => exact locs rfl); (case zwc2 => exact rfl); (case zwc3 => exact rfl); (case zwc4 => exact rfl); k_whole; walk_at "pm1"; (try dsimp only); (try k_fold))
  | (refine' code_defC ?zwk1 ?zwk2 ?zwk3 ?zwk4 ?zwk5 ?zwkA ?zwkF ?zwkK ?zwk6 ?zwk7 ?zwk8 ?zwk9 ?zwkB ?zwkD ?_ ?zwc2 ?zwc3 ?zwc4; (case zwkA => exact rfl); (case zwkF => exact rfl); (case zwkK => first | assumption | exact rfl); (case zwk1 => k_asm); (case zwk2 => k_asm); (case zwk3 => k_asm); (case zwk4 => k_asm); (case zwk5 => k_asm); (case zwk6 => k_is); (case zwk7 => k_is); (case zwk8 => ktr_room); (case zwk9 => first | exact BindsTo.of_eq rfl | (refine' kp_binds ?zwkx ?zwke; (case zwkx => k_in); (case zwke => exact fun _ => rfl))); (case zwkB => exact rfl); (case zwkD => decide +kernel); (case zwc2 => exact rfl); (case zwc3 => exact rfl); (case zwc4 => exact rfl); k_whole; walk_at "pm2"; (try dsimp only); (try k_fold))))
  k_with "k_all" => (first | assumption | exact all_ne (by assumption) (by omega) | fail)
  k_with "call ref" => ((k_here; refine wpAny_call ?_; k_extra "tb_start"))
  k_with "k_all" => (first | assumption | (refine' List.forall_mem_cons.mpr ⟨?zwkza, ?zwkzb⟩; (case zwkza => (try dsimp only); first | assumption | exact ltN (by omega) | exact gtN (by omega) | fail); (case zwkzb => k_all)) | exact all_ne (by assumption) (by omega) | fail)
  k_with "loadName" => ((k_here; k_dflt (refine' ldn ?zwk1 ?zwk2 ?_; (case zwk1 => k_asm); (case zwk2 => (repeat (first | assumption | exact if_pos rfl | refine' (if_neg (by decide)).trans ?_))))))
  k_with "eval Name" => ((k_here; name_kind "local"; k_dflt (refine' ld ?zwk1 ?zwk2 ?_; (case zwk1 => k_asm); (case zwk2 => (repeat (first | assumption | exact if_pos rfl | refine' (if_neg (by decide)).trans ?_))); k_whole)))
  k_with "pyIter ref" => ((k_here; refine stop_intro ?_))
  k_with "exec For" => ((k_here; k_dflt (refine' for_ruleL ?zwhF ?zwhs ?_; (case zwhF => k_asm); (case zwhs => intro _; rfl))))
  k_with "exec For Name Name cons nil" => ((k_here; k_dflt (refine' for_ruleL ?zwhF ?zwhs ?_; (case zwhF => k_asm); (case zwhs => intro _; rfl))))
  k_with "exec For Name Subscript cons nil" => ((k_here; k_dflt (refine' for_ruleL ?zwhF ?zwhs ?_; (case zwhF => k_asm); (case zwhs => intro _; rfl))))
  k_with "exec For Name Call cons nil" => ((k_here; k_dflt (refine' for_ruleL ?zwhF ?zwhs ?_; (case zwhF => k_asm); (case zwhs => intro _; rfl))))
  k_with "exec For Tuple Name cons nil" => ((k_here; k_dflt (refine' for_ruleL ?zwhF ?zwhs ?_; (case zwhF => k_asm); (case zwhs => intro _; rfl))))
  k_with "exec For Tuple" => ((k_here; k_dflt (refine' for_ruleL ?zwhF ?zwhs ?_; (case zwhF => k_asm); (case zwhs => intro _; rfl))))
  k_with "FnAt" => ((k_dflt (exact FnAt.of (by k_asm) (by first | assumption | k_mem))))
  k_with "callWith ref" => ((k_here; k_dflt (refine' callWith_F ?zwk1 ?_; (case zwk1 => exact FnAt.of (by k_asm) (by first | assumption | k_mem)); k_whole)))
  k_with "And" => (((with_reducible show FnAt _ _ ∧ _); k_dflt (refine ⟨FnAt.of (by k_asm) (by first | assumption | k_mem), ?_⟩); (try dsimp only [List.nil_append, List.cons_append])))
  k_with "exec Assign cons ListComp" => ((k_here; k_dflt (refine' compG_a ?zwe1 ?zwe2 ?zwe3 ?zwe4 ?zwe5 ?zwe6 ?zwe7 ?zwe8 ?zwe9 ?_; (case zwe1 => exact rfl); (case zwe2 => with_unfolding_all rfl); (case zwe3 => with_unfolding_all rfl); (case zwe4 => decide); (case zwe5 => rfl); (case zwe6 => decide); (case zwe7 => intro _; rfl); (case zwe8 => rfl); (case zwe9 => rfl))))
  k_with "call builtin:len" => ((k_here; (with_reducible show wpAny _ _ (call (Value.builtin _) [Value.ref _]) _ _ _); k_dflt (refine' len_at ?zwk1 ?zwk2 ?zwk3 ?_; (case zwk1 => k_asm); (case zwk2 => k_mem); (case zwk3 => omega); walk_at "pm3")))
  k_with "subscriptTail Name Name ref int" => ((k_here; (with_reducible show wpAny _ _ (subscriptTail _ _ (Value.ref _) (Value.int _ _)) _ _ _); k_dflt (refine' sub_at ?zwk1 ?zwk2 ?zwk3 ?zwk4 ?zwk5 ?_ ?zwk7; (case zwk1 => k_asm); (case zwk2 => (repeat (first | assumption | exact List.Mem.head _ | apply List.Mem.tail))); (case zwk3 => omega); (case zwk4 => omega); (case zwk5 => assumption); (case zwk7 => with_unfolding_all rfl); k_whole)))
  k_with "call ref" => ((k_here; (with_reducible show wpAny _ _ (call (Value.ref 113) [Value.int _ _]) _ _ _); k_dflt (refine' Call1.useG (word2_call _ _ _ _) ?zwk1 ?zwk2 ?zwk3 ?zwk4 ?zwk5 ?zwkK ?zwkd ?zwku ?_; (case zwk1 => k_asm); (case zwk2 => k_asm); (case zwk3 => k_asm); (case zwk4 => k_asm); (case zwk5 => k_asm); (case zwkK => first | exact rfl | assumption); (case zwkd => ktr_room); (case zwku => ktr_units); walk_at "pm4"; (try dsimp only); (try k_fold))))
  k_with "call ref" => ((k_here; (with_reducible show wpAny _ _ (call (Value.ref 99) [Value.str _ _, Value.str _ _, Value.int _ _]) _ _ _); k_dflt (refine' Call1.useI (lev_call _ _ _ _ _ _ _ _ ?zwq1 ?zwq2 ?zwq3 ?zwq4) ?zwk1 ?zwk2 ?zwk3 ?zwk4 ?zwk5 ?zwkK ?zwkd ?zwku ?_; (case zwk1 => k_asm); (case zwk2 => k_asm); (case zwk3 => k_asm); (case zwk4 => k_asm); (case zwk5 => k_asm); (case zwkK => first | exact rfl | assumption); (case zwq1 => exact rfl); (case zwq2 => exact (by decide : 4 ≤ 40)); (case zwq3 => exact (word_cost _ _).2.2); (case zwq4 => exact (word_cost _ _).2.1); (case zwkd => ktr_room); (case zwku => ktr_units); walk_at "pm4"; (try dsimp only); (try k_fold))))
  k_with "eval Lambda" => ((k_here; k_dflt (refine' kla_eval ?zwd0 ?_; (case zwd0 => exact rfl)); k_dflt (refine' lam_any ?zwF ?zwN ?zwT ?zwC ?zwcd ?zwU ?zwht ?zwhX ?zwcl ?_; (case zwF => k_asm); (case zwN => k_asm); (case zwT => k_asm); (case zwcd => exact rfl); (case zwC => assumption); (case zwht => assumption); (case zwU => k_updF); (case zwhX => (intro p9 hp9; (repeat (first | exact hp9 | apply List.Mem.tail)))); (case zwcl => exact rfl); k_whole); walk_at "pm8"))
  k_with "call ref" => ((k_here; (with_reducible show wpAny _ _ (call (Value.ref 23) _ _) _ _ _); refine stop_intro ?_))
  k_with "k_all" => (first | assumption | exact all_ne (by assumption) (by omega) | fail)
  k_fill
  intro hrow
  clear hrow
  intro p loose mean mg mb dp un gd cn cs a ccd cl outer A₀ base h₀ L m s Q E B F X N T hk hdp hun hret
  refine wpAny_call ?_
  k_extra "tb_start"
  refine tok_gen fun tk0 => ?_
  k_steps
  (first | refine stop_elim ?_ | (rotate_left 1; refine stop_elim ?_) | (rotate_left 2; refine stop_elim ?_) | (rotate_left 3; refine stop_elim ?_) | (rotate_left 4; refine stop_elim ?_) | (rotate_left 5; refine stop_elim ?_) | (rotate_left 6; refine stop_elim ?_) | (rotate_left 7; refine stop_elim ?_) | (rotate_left 8; refine stop_elim ?_) | (rotate_left 9; refine stop_elim ?_) | (rotate_left 10; refine stop_elim ?_) | (rotate_left 11; refine stop_elim ?_) | (rotate_left 12; refine stop_elim ?_) | (rotate_left 13; refine stop_elim ?_) | (rotate_left 14; refine stop_elim ?_) | (rotate_left 15; refine stop_elim ?_) | (rotate_left 16; refine stop_elim ?_) | (rotate_left 17; refine stop_elim ?_) | (rotate_left 18; refine stop_elim ?_) | (rotate_left 19; refine stop_elim ?_) )
  refine' src_list rfl ?F ?N ?m ?_
  case F => k_asm
  case N => k_asm
  case m => k_mem
  intro it9 s9 S9
  refine e1a1 (srcAt_same S9) fun g9 e9 => ?_
  subst e9
  refine' CompG.name (fun i ys Y => Y = (122, tabObj #[]) :: (lv, listOf vs.toArray n) :: news ∧ Are IsWord ys (ls.take i)) ?hx ?hk S9 ?hsz ?j0 ?turn ?hlen ?fin
  case hx => rfl
  case hk => rfl
  case hsz => exact size5 (by rw [List.size_toArray, hvl]; exact hl.2)
  case j0 => exact ⟨rfl, .nil⟩
  case hlen => rintro i ys Y ⟨_, ha⟩; rw [ha.len, List.length_take]; omega
  case turn =>
    intro i v ys Y I oI C oC D m₂ h tk E' hi9 hP zr0 hsub hoff hC hm F9 N9
    (try dsimp only)
    (try k_fold)
    refine a2 (zr0) fun ze0 ha => ?_
    clear zr0
    subst ze0
    refine e1a2 ((Are.of_ints hi).get (arr_at hP)) fun x hx zt0 => ?_
    refine e1a1 (zt0) fun t9 ze1 => ?_
    clear zt0
    subst ze1
    refine wpAny_tests_nil ?_
    try simp only [if_true]
    (try k_fold)
    k_steps
    exact TurnE.intro _ (by k_asm) (by k_asm) (fun p hp => hp) hsub hoff ⟨rfl, by rw [take_snoc hx]; exact ha.snoc ⟨_, rfl⟩⟩
  case fin =>
    intro W ws Y zr0 hsub hoff hlt h9 tk9 F9 N9
    (try dsimp only)
    (try k_fold)
    obtain ⟨rfl, ha⟩ := zr0
    have hws : Are IsWord ws ls := by rw [List.size_toArray, hvl, List.take_length] at ha; exact ha
    have hwl := hws.len
    (try k_fold)
    k_steps
    with_reducible rename (_ < _ ∧ _ < _ ∧ _ < _ ∧ AllLt _ _) => hT
    rename_i T gA FA NA gB FB NB ta tb he gC tk1 tc td te hR FC NC kC
    refine stop_elim ?_
    refine' srcF_range (n := ls.length) (news := (T, listOf (List.toArray ([] : List Value)) 0) :: (122, tabObj #[]) :: (W, listOf ws.toArray ws.length) :: (lv, listOf vs.toArray n) :: news) rfl ?F ?N ?hr ?sm ?hn ?_
    case F => k_asm
    case N => exact news_pick NC (by intro p hp; simp only [List.mem_cons] at hp ⊢; rcases hp with rfl | rfl | rfl | rfl | hp <;> simp_all)
    case hr => exact hR
    case sm => exact small_k (by omega)
    case hn => exact range_k _
    intro it9 s9 S9
    refine e1a1 (SrcF.same S9) fun g9 e9 => ?_
    subst e9
    have hbase : ∀ p ∈ (W, listOf ws.toArray ws.length) :: (lv, listOf vs.toArray n) :: news, p.1 ≠ T ∧ p.1 ≠ 122 := by
      intro p hp
      rcases List.mem_cons.mp hp with rfl | hp
      · exact ⟨ltN hT.1, (hoff _ (.head _)).symm⟩
      · refine ⟨?_, hnw p hp⟩
        rcases List.mem_cons.mp hp with rfl | hp
        · exact ltN hT.2.2.1
        · exact ltN (allLt_at hT.2.2.2 p hp)
    have hT2 : T ≠ 122 := gtN hT.2.1
    refine LoopOK.put (fun i m nw => ∃ ts ct ps X, nw = (T, listOf (List.toArray ts) ct) :: (122, tabObj ps) :: X ∧ TieSt lv W T ((W, listOf ws.toArray ws.length) :: (lv, listOf vs.toArray n) :: news) ls (prs i) m ts ps X) S9 ?j0 ?js ?turn ?done
    case j0 => exact ⟨[], 0, #[], _, rfl, .nil, hbase, fun p hp => hp, .inl rfl, by (first | rfl | (refine (if_neg (by decide)).trans ?_; rfl) | (refine (if_neg (by decide)).trans ((if_neg (by decide)).trans ?_); rfl)), by (first | rfl | (refine (if_neg (by decide)).trans ?_; rfl) | (refine (if_neg (by decide)).trans ((if_neg (by decide)).trans ?_); rfl)), by (first | rfl | (refine (if_neg (by decide)).trans ?_; rfl) | (refine (if_neg (by decide)).trans ((if_neg (by decide)).trans ?_); rfl))⟩
    case js => exact fun _ _ _ _ => trivial
    case turn =>
      intro k v m1 nw I oI h tk E' hk9 zr0 zr1 off hltI F9 N9
      (try (refine absL ?_; intro QL9))
      (try dsimp only)
      (try k_fold)
      refine e1a1 (zr0) fun t9 ze0 => ?_
      clear zr0
      subst ze0
      refine e4a2 (zr1) fun ts ct ps X ze0 st => ?_
      clear zr1
      subst ze0
      have hm1 := st.m1
      have hm2 := st.m2
      have hm3 := st.m3
      rw [Int.zero_add] 
      (try k_fold)
      k_steps
      rename_i gD FD ND gE tkE tu tv tw hR2 FE NE kE
      refine stop_elim ?_
      refine' srcF_range (n := k) (news := (T, listOf (List.toArray ts) ct) :: (122, tabObj ps) :: (I, oI) :: X) rfl ?F ?N ?hr ?sm ?hn ?_
      case F => k_asm
      case N => exact news_pick NE (by intro p hp; simp only [List.mem_cons] at hp ⊢; rcases hp with rfl | rfl | rfl | hp <;> simp_all)
      case hr => exact hR2
      case sm => exact small_k (by omega)
      case hn => exact range_k _
      intro it9 s9 S9
      refine e1a1 (SrcF.same S9) fun g9 e9 => ?_
      subst e9
      refine LoopOK.put (fun j m nw => ∃ ts ct ps X, nw = (T, listOf (List.toArray ts) ct) :: (122, tabObj ps) :: (I, oI) :: X ∧ TieSt lv W T ((W, listOf ws.toArray ws.length) :: (lv, listOf vs.toArray n) :: news) ls (prs k ++ (List.range j).map fun j => (j, k)) m ts ps X ∧ (∀ p ∈ X, p.1 ≠ I) ∧ m (S' "k") = some (.int (k : Int) t9)) S9 ?jb0 ?jbs ?turnb ?doneb
      case jb0 => exact ⟨ts, ct, ps, X, rfl, ⟨by simpa using st.ties, st.off, st.sub, st.tab, by (repeat (first | assumption | exact if_pos rfl | refine' (if_neg (by decide)).trans ?_)), by (repeat (first | assumption | exact if_pos rfl | refine' (if_neg (by decide)).trans ?_)), by (repeat (first | assumption | exact if_pos rfl | refine' (if_neg (by decide)).trans ?_))⟩, fun p hp => off p (.tail _ (.tail _ hp)), by (repeat (first | assumption | exact if_pos rfl | refine' (if_neg (by decide)).trans ?_))⟩
      case jbs => exact fun _ _ _ _ => trivial
      case turnb =>
        intro j v m2 nw I2 oI2 h2 tk2 E'2 hj9 zr0 zr1 off2 hltI2 F8 N8
        (try (refine absL ?_; intro QL8))
        (try dsimp only)
        (try k_fold)
        refine e1a1 (zr0) fun t8 ze0 => ?_
        clear zr0
        subst ze0
        refine e4a4 (zr1) fun ts ct ps X ze0 st offI hmk => ?_
        clear zr1
        subst ze0
        have hm1 := st.m1
        have hm2 := st.m2
        have hm3 := st.m3
        refine e1a2 (hws.get' (List.getElem?_eq_getElem (show j < ls.length by omega))) fun vj hvj zt0 => ?_
        refine e1a1 (zt0) fun tj ze1 => ?_
        clear zt0
        subst ze1
        refine e1a2 (hws.get' (List.getElem?_eq_getElem hk9)) fun vk hvk zt0 => ?_
        refine e1a1 (zt0) fun tkk ze1 => ?_
        clear zt0
        subst ze1
        have hvj' : ws[((j : Int)).toNat]? = some _ := hvj
        have hvk' : ws[((k : Int)).toNat]? = some _ := hvk
        have hW := st.sub _ (.head _)
        have htab := st.tab
        have hCH : CodeHd _ 124 122 := codeHd_of_K (by assumption : (hd2.heap_1 w.params).In _) (by kernel_rfl)
        have offT : ∀ p ∈ X, p.1 ≠ T := fun p hp => (st.off p hp).1
        have off122 : ∀ p ∈ X, p.1 ≠ 122 := fun p hp => (st.off p hp).2
        have hlA := hltI
        have hlB := hltI2
        k_lt hlA
        k_lt hlB
        rw [Int.zero_add] 
        (try k_fold)
        k_steps
        rename_i A gA FA NA lA f c' oc cvs ct' ctv gB tkB FB NB dd1 dd2 l3 l1 l2
        refine stop_elim ?_
        have hpr : wcost (word2 ls[j]) (word2 ls[k]) = price (ls.getD j 0) (ls.getD k 0) := by
          rw [(word_cost _ _).1, List.getD_eq_getElem?_getD, List.getD_eq_getElem?_getD, List.getElem?_eq_getElem (show j < ls.length by omega), List.getElem?_eq_getElem hk9]; rfl
        rw [hpr] at NB
        refine e4a1 (name_tup NB) fun u1 u2 u3 kq NB => ?_
        have offI2 : ∀ p ∈ X, p.1 ≠ I2 := fun p hp => off2 p (.tail _ (.tail _ (.tail _ hp)))
        have hcT : @Ne Nat c' T := l3 (T, _) (.tail _ (.tail _ (.head _))) offT
        have hc1 : @Ne Nat c' 122 := l3 (122, _) (.tail _ (.tail _ (.tail _ (.head _)))) off122
        have hcI : @Ne Nat c' I := l3 (I, _) (.tail _ (.tail _ (.tail _ (.tail _ (.head _))))) offI
        have hcI2 : @Ne Nat c' I2 := l3 (I2, _) (.tail _ (.head _)) offI2
        have hks : ∀ x y, Are (IsTie x) ts y → ((y.map (·.1)).length = ts.length) := fun x y h => by rw [List.length_map, h.len]
        have hlen : ts.length < 900 := by rw [st.ties.len, tieF_length, List.length_append, List.length_map, List.length_range]; have := prs_len (show k ≤ 5 by omega); omega
        refine' CallW.use (insK_at w _ _ (.ref A) (price (ls.getD j 0) (ls.getD k 0)) T f ts ((tieF ls (prs k ++ (List.range j).map fun j => (j, k))).map (·.1)) ct ?zqU ?zqK ?zqX ?zqn (srt_tieF _ _)) ?k1 ?k2 ?k3 NB ?k5 ?kK ?kd ?ku ?_
        case k1 => k_asm
        case k2 => k_asm
        case k3 => k_asm
        case k5 => k_asm
        case kK => exact rfl
        case kd => ktr_room
        case ku => ktr_units
        case zqU => k_upd
        case zqK =>
          refine ⟨⟨_, _, _, _, .head _⟩, hks _ _ st.ties, fun i v p hv hp => ?_⟩
          obtain ⟨x, hx, B, kk, u1, u2, u3, rfl, hB⟩ := st.ties.get hv
          rw [List.getElem?_map, hx] at hp
          cases hp
          exact key_call w _ f c' B oc cvs ct' u1 _ _ ctv _ _ _ _ _ _ kk (.head _) (.tail _ (.head _)) dd1 dd2 (by (repeat (first | assumption | apply List.Mem.tail)))
        case zqX => exact key_call w _ f c' A oc cvs ct' _ _ _ ctv _ _ _ _ _ _ _ (.head _) (.tail _ (.head _)) dd1 dd2 (.tail _ (.tail _ (.head _)))
        case zqn => rw [hks _ _ st.ties]; exact hlen
        intro v nw' h9 tk9 zr0 F9 N9
        (try dsimp only)
        (try k_fold)
        refine a2 (zr0) fun ze0 ze1 => ?_
        clear zr0
        subst ze0
        subst ze1
        (try k_fold)
        k_steps
        have st' := st.next (done' := prs k ++ (List.range (j + 1)).map fun j => (j, k)) (t1 := u1) (t2 := u2) (t3 := u3) (kk := kq) (j, k) F9 ⟨gtN lA.2.1, gtN lA.2.2.1⟩ ⟨hcT, hc1⟩ dd1 dd2 (by (repeat (first | assumption | exact if_pos rfl | refine' (if_neg (by decide)).trans ?_))) (by (repeat (first | assumption | exact if_pos rfl | refine' (if_neg (by decide)).trans ?_))) (by (repeat (first | assumption | exact if_pos rfl | refine' (if_neg (by decide)).trans ?_))) (by rw [List.range_succ, List.map_append, ← List.append_assoc]; rfl)
        refine ForEnd.intro ((T, listOf (List.toArray (insV ts (cR ((tieF ls (prs k ++ (List.range j).map fun j => (j, k))).map (·.1)) (price (ls.getD j 0) (ls.getD k 0))) (.ref A))) (ct + 1)) :: (122, tabObj #[rawInt lamP.line, rawInt lamP.col, .ref c']) :: (I, oI) :: (A, tupOf [.int (price (ls.getD j 0) (ls.getD k 0)) u1, .int (j : Int) u2, .int (k : Int) u3] kq) :: (c', oc) :: X) F9 N9 ?hsub ?hoff ⟨_, _, _, _, rfl, st', ?hI, by (repeat (first | assumption | exact if_pos rfl | refine' (if_neg (by decide)).trans ?_))⟩
        case hsub =>
          intro p hp
          simp only [List.mem_cons] at hp ⊢
          rcases hp with rfl | rfl | rfl | rfl | rfl | rfl | hp
          · exact .inr (.inr (.inr (.inl rfl)))
          · exact .inr (.inr (.inr (.inr (.inl rfl))))
          · exact .inr (.inr (.inr (.inr (.inr (.inl rfl)))))
          · exact .inr (.inr (.inr (.inr (.inr (.inr (.inl rfl))))))
          · exact .inr (.inr (.inl rfl))
          · exact .inr (.inl rfl)
          · exact .inr (.inr (.inr (.inr (.inr (.inr (.inr hp))))))
        case hoff =>
          intro p hp
          simp only [List.mem_cons] at hp
          rcases hp with rfl | rfl | rfl | rfl | rfl | hp
          · exact ltN hlB.1
          · exact ltN hlB.2.1
          · exact ltN hlB.2.2.1
          · exact gtN lA.1
          · exact hcI2
          · exact offI2 p hp
        case hI =>
          intro p hp
          simp only [List.mem_cons] at hp
          rcases hp with rfl | rfl | hp
          · exact gtN lA.2.2.2.1
          · exact hcI
          · exact offI p hp
      case doneb =>
        intro h tk m2 nw zr0 F9 N9
        (try dsimp only)
        (try k_fold)
        obtain ⟨ts, ct, ps, X, rfl, st, offI, hmk⟩ := zr0
        (try k_fold)
        k_steps
        refine ForEnd.intro ((T, _) :: (122, _) :: X) F9 N9 ?hsub ?hoff ⟨ts, ct, ps, X, rfl, by rw [prs_succ]; exact ⟨st.ties, st.off, st.sub, st.tab, st.m1, st.m2, st.m3⟩⟩
        case hsub =>
          intro p hp
          simp only [List.mem_cons] at hp ⊢
          rcases hp with rfl | rfl | rfl | hp
          · exact .inr (.inr (.inl rfl))
          · exact .inl rfl
          · exact .inr (.inl rfl)
          · exact .inr (.inr (.inr hp))
        case hoff =>
          intro p hp
          have hlA := hltI
          k_lt hlA
          simp only [List.mem_cons] at hp
          rcases hp with rfl | rfl | hp
          · exact ltN hlA.1
          · exact ltN hlA.2.1
          · exact offI p hp
    case done =>
      intro h tk m1 nw zr0 F9 N9
      (try dsimp only)
      (try k_fold)
      obtain ⟨ts, ct, ps, X, rfl, st⟩ := zr0
      have hm3 := st.m3
      (try k_fold)
      k_steps
      refine hret _ _ _ _ ⟨T, ts, ct, ps, X, rfl, rfl, st.ties, fun p hp => st.sub p (.tail _ hp), st.off, hT2⟩ (by k_asm) (by k_asm)
end Mine
end
section
namespace Mine
/-- the pieces under way: where each leaf hangs, its tree, the numbers still free -/
structure TS where
  hs : List Int
  ts : List Tr
  fr : List Int
noncomputable def mrgS (a b f : Int) (t : Tr) (S : List Int × List Tr) (i : Nat) : List Int × List Tr :=
  if S.1.getD i 0 = a ∨ S.1.getD i 0 = b then (S.1.set i f, S.2.set i t) else S
noncomputable def mrg (a b f : Int) (t : Tr) (S : List Int × List Tr) : Nat → List Int × List Tr
  | 0 => S
  | i + 1 => mrgS a b f t (mrg a b f t S i) i
noncomputable def tnode (S : TS) (x : Int × Nat × Nat) : Tr := .node (S.fr.headD 0) x.1 (S.ts.getD x.2.1 (.leaf 0 0)) (S.ts.getD x.2.2 (.leaf 0 0))
noncomputable def tstep (S : TS) (x : Int × Nat × Nat) : TS :=
  if S.hs.getD x.2.1 0 = S.hs.getD x.2.2 0 then S
  else ⟨(mrg (S.hs.getD x.2.1 0) (S.hs.getD x.2.2 0) (S.fr.headD 0) (tnode S x) (S.hs, S.ts) S.hs.length).1, (mrg (S.hs.getD x.2.1 0) (S.hs.getD x.2.2 0) (S.fr.headD 0) (tnode S x) (S.hs, S.ts) S.hs.length).2, S.fr.tail⟩
noncomputable def ts0 (ls : List Int) (look : Int) : TS := ⟨ls, ls.map fun x => .leaf x (1 + (x + look) % 8), [511, 256, 426, 341]⟩
theorem mrg_len {a b f : Int} {t : Tr} {S : List Int × List Tr} (i : Nat) : (mrg a b f t S i).1.length = S.1.length ∧ (mrg a b f t S i).2.length = S.2.length := by
  induction i with
  | zero => exact ⟨rfl, rfl⟩
  | succ i ih =>
    show (mrgS a b f t (mrg a b f t S i) i).1.length = _ ∧ (mrgS a b f t (mrg a b f t S i) i).2.length = _
    unfold mrgS
    split
    · simpa using ih
    · exact ih
/-- what a turn of the ties' loop asks of the pieces -/
noncomputable def TOk (n : Nat) (S : TS) : Prop := S.hs.length = n ∧ S.ts.length = n ∧ ∀ t ∈ S.ts, (pre t).length ≤ 30
noncomputable def TTurn (n : Nat) (S : TS) (x : Int × Nat × Nat) : Prop := x.2.1 < n ∧ x.2.2 < n ∧ TOk n S ∧ (S.hs.getD x.2.1 0 ≠ S.hs.getD x.2.2 0 → ∃ f r, S.fr = f :: r ∧ r.length ≤ 3 ∧ (pre (S.ts.getD x.2.1 (.leaf 0 0))).length ≤ 15 ∧ (pre (S.ts.getD x.2.2 (.leaf 0 0))).length ≤ 15)
section
variable {prog : Program} {w : World} {A : Around} {E : Value → Shared → Prop} {s : Shared} {h₀ : Heap} {L D : Addr} {m : Str → Option Value} {news news' : List (Addr × Obj)} {vs : List Value} {n : Nat} {k : Int} {t : Tok} {v : Value}
/-- any value laid at a place of a made list -/
theorem set_any {Q : Unit → Shared → Prop} (F : Fr h₀ L s.heap m) (N : News h₀ L s.heap news) (U : Upd D (listOf vs.toArray n) (listOf (vs.set k.toNat v).toArray n) news news') (h0 : 0 ≤ k) (h1 : k < vs.length) (hfit : k < 2 ^ 63)
    (h : ∀ h', Fr h₀ L h' m → News h₀ L h' news' → Q () { s with heap := h' }) :
    wpAny (model prog w) A (setItem (.ref D) (.int k t) v) Q E s := by
  obtain ⟨pre, post, rfl, rfl, a, b⟩ := U.split
  have z := N (D, listOf vs.toArray n) (List.mem_append.mpr (.inr (.head _)))
  refine ki_setAt z.1 h0 hfit (by rw [List.size_toArray]; exact h1) (h _ (F.change (Heap.SameBut.update ..) z.2.1 z.2.2) (ki_turn _ N a b ?_ ?_))
  · show vs.toArray.setIfInBounds k.toNat v = (vs.set k.toNat v).toArray
    apply Array.toList_inj.mp
    simp
  · simp
end
/-- between the turns of the ties' loop -/
structure TSt (X base : List (Addr × Obj)) (hv pv fv : List Value) (S : TS) : Prop where
  hs : IntsAre hv S.hs
  ts : Are (AbvAt X) pv (S.ts.map pre)
  fr : IntsAre fv S.fr
  sub : ∀ p ∈ base, p ∈ X
noncomputable def TJ (Hm Pm lv : Addr) (cH cP : Nat) (base : List (Addr × Obj)) (S : TS) (m : Str → Option Value) (nw : List (Addr × Obj)) : Prop :=
  ∃ hv pv Ff fv cF X, nw = (Hm, listOf (List.toArray hv) cH) :: (Pm, listOf (List.toArray pv) cP) :: X ∧ TSt X base hv pv fv S ∧ (Ff, listOf (List.toArray fv) cF) ∈ X ∧ (∀ p ∈ X, p.1 ≠ Hm ∧ p.1 ≠ Pm) ∧
    m (S' "homes") = some (.ref Hm) ∧ m (S' "pieces") = some (.ref Pm) ∧ m (S' "fresh") = some (.ref Ff) ∧ m (S' "leaves") = some (.ref lv)
noncomputable def TI (Hm Pm lv Ff Bm : Addr) (cH cP : Nat) (XX X1 : List (Addr × Obj)) (a b : Int) (S : List Int × List Tr) (m : Str → Option Value) (nw : List (Addr × Obj)) : Prop :=
  ∃ hv pv ta tb, nw = (Hm, listOf (List.toArray hv) cH) :: (Pm, listOf (List.toArray pv) cP) :: XX ∧ IntsAre hv S.1 ∧ Are (AbvAt X1) pv (S.2.map pre) ∧
    m (S' "homes") = some (.ref Hm) ∧ m (S' "pieces") = some (.ref Pm) ∧ m (S' "fresh") = some (.ref Ff) ∧ m (S' "leaves") = some (.ref lv) ∧ m (S' "one") = some (.int a ta) ∧ m (S' "other") = some (.int b tb) ∧ m (S' "both") = some (.ref Bm)
theorem TJ.mk {Hm Pm lv : Addr} {cH cP : Nat} {base : List (Addr × Obj)} {S : TS} {m : Str → Option Value} {nw : List (Addr × Obj)} (hv pv : List Value) (Ff : Addr) (fv : List Value) (cF : Nat) (X : List (Addr × Obj))
    (e : nw = (Hm, listOf (List.toArray hv) cH) :: (Pm, listOf (List.toArray pv) cP) :: X) (st : TSt X base hv pv fv S) (hF : (Ff, listOf (List.toArray fv) cF) ∈ X) (hX : ∀ p ∈ X, p.1 ≠ Hm ∧ p.1 ≠ Pm)
    (m1 : m (S' "homes") = some (.ref Hm)) (m2 : m (S' "pieces") = some (.ref Pm)) (m3 : m (S' "fresh") = some (.ref Ff)) (m4 : m (S' "leaves") = some (.ref lv)) : TJ Hm Pm lv cH cP base S m nw :=
  ⟨hv, pv, Ff, fv, cF, X, e, st, hF, hX, m1, m2, m3, m4⟩
theorem TI.mk {Hm Pm lv Ff Bm : Addr} {cH cP : Nat} {XX X1 : List (Addr × Obj)} {a b : Int} {S : List Int × List Tr} {m : Str → Option Value} {nw : List (Addr × Obj)} (hv pv : List Value) (ta tb : Tok)
    (e : nw = (Hm, listOf (List.toArray hv) cH) :: (Pm, listOf (List.toArray pv) cP) :: XX) (i1 : IntsAre hv S.1) (i2 : Are (AbvAt X1) pv (S.2.map pre))
    (m1 : m (S' "homes") = some (.ref Hm)) (m2 : m (S' "pieces") = some (.ref Pm)) (m3 : m (S' "fresh") = some (.ref Ff)) (m4 : m (S' "leaves") = some (.ref lv)) (m5 : m (S' "one") = some (.int a ta)) (m6 : m (S' "other") = some (.int b tb)) (m7 : m (S' "both") = some (.ref Bm)) :
    TI Hm Pm lv Ff Bm cH cP XX X1 a b S m nw :=
  ⟨hv, pv, ta, tb, e, i1, i2, m1, m2, m3, m4, m5, m6, m7⟩
theorem getD_at {α : Type} {l : List α} {i : Nat} {d : α} (h : i < l.length) : l[i]? = some (l.getD i d) := by simp [h]
theorem IntsAre.at_ {vs : List Value} {ns : List Int} (h : IntsAre vs ns) {i : Nat} (hi : i < ns.length) : ∃ t, vs[((i : Nat) : Int).toNat]? = some (.int (ns.getD i 0) t) := by
  obtain ⟨t, e⟩ := h.get i _ (getD_at (d := 0) hi)
  exact ⟨t, by rw [Int.toNat_natCast]; exact e⟩
theorem Are.at_ {α : Type} {R : Value → α → Prop} {vs : List Value} {xs : List α} (h : Are R vs xs) {i : Nat} {x : α} (hx : xs[i]? = some x) : ∃ v, vs[((i : Nat) : Int).toNat]? = some v ∧ R v x := by
  rw [Int.toNat_natCast]
  induction h generalizing i with
  | nil => simp at hx
  | cons a r ih =>
    cases i with
    | zero => cases hx; exact ⟨_, rfl, a⟩
    | succ i => exact ih hx
theorem Are.set {α : Type} {R : Value → α → Prop} {vs : List Value} {xs : List α} (h : Are R vs xs) {v : Value} {x : α} (hv : R v x) (i : Nat) : Are R (vs.set i v) (xs.set i x) := by
  induction h generalizing i with
  | nil => exact .nil
  | cons a r ih =>
    cases i with
    | zero => exact .cons hv r
    | succ i => exact .cons a (ih i)
theorem Are.app' {α : Type} {R : Value → α → Prop} {vs ws : List Value} {xs ys : List α} (h : Are R vs xs) (h2 : Are R ws ys) : Are R (vs ++ ws) (xs ++ ys) := by
  induction h with
  | nil => exact h2
  | cons a r ih => exact .cons a ih
end Mine
end
local macro_rules | `(tactic| walk_at "pm9") => `(tactic| (intro D' c' h' F' N' l1; (try k_lt l1)))
local macro_rules | `(tactic| walk_at "pm10") => `(tactic| (intro D' ws' h' F' N' l1 hI' hC' hL'; (try k_lt l1)))
section
set_option maxRecDepth 100000
set_option maxHeartbeats 8000000
namespace Mine







































theorem name_p2 {h₀ g : Heap} {L D l l2 : Addr} {o o2 : Obj} {x y : Int} {t1 t2 : Tok} {kk : Nat} {r : List (Addr × Obj)} (N : News h₀ L g ((l, o) :: (l2, o2) :: (D, ({ cls := .type "tuple", data := .seq #[.int x t1, .int y t2] kk } : Obj)) :: r)) : ∃ u1 u2 k', News h₀ L g ((l, o) :: (l2, o2) :: (D, tupOf [.int x u1, .int y u2] k') :: r) := ⟨t1, t2, kk, N⟩


theorem tree_call (w : World) (news : List (Addr × Obj)) (lv tl : Addr) (vs ts : List Value) (ls : List Int) (ties : List (Int × Nat × Nat)) (n c : Nat) (look : Int) (t0 : Tok) (hi : IntsAre vs ls) (hl : 4 ≤ ls.length ∧ ls.length ≤ 5) (hlv : (lv, listOf vs.toArray n) ∈ news) (hts : Are (IsTie news) ts ties) (htl : ties.length ≤ 10)
    (hturn : ∀ i x, ties[i]? = some x → TTurn ls.length ((ties.take i).foldl tstep (ts0 ls look)) x) (hend : TOk ls.length (ties.foldl tstep (ts0 ls look))) :
    Call1 3 w 130 ((tl, listOf ts.toArray c) :: news) [.ref lv, .ref tl, .int look t0] (fun v news' => ∃ R c9 X rv, v = .ref R ∧ news' = (R, listOf (List.toArray rv) c9) :: X ∧ Are (PairAt X) rv (pre ((ties.foldl tstep (ts0 ls look)).ts.getD 0 (.leaf 0 0)) ++ [(0, 8)]) ∧ ∀ p ∈ (tl, listOf ts.toArray c) :: news, p ∈ X) := by
  have hvl := hi.length
  have hrow : PySem.Challenge.rw_ty0036_02.most = some 63 := rfl
  unfold Call1
  revert hrow
  k_with_none
  w_top off
  k_with "storeName" => ((k_here; k_dflt (refine' storeX_Lf ?zweg ?zwed ?zweo ?zwet ?zwF ?zwN ?_ ?zwa ?zwb; (case zweg => dsimp only); (case zwed => dsimp only); (case zweo => dsimp only); (case zwet => dsimp only); (case zwF => k_asm); (case zwN => k_asm); (case zwa => rfl); (case zwb => rfl); k_whole; walk_at "pm0"; (try k_sweep))))
  k_with "tb_start" => (k_dflt (first
  | (refine' code_def ?zwk1 ?zwk2 ?zwk3 ?zwk4 ?zwk5 ?zwkA ?zwkF ?zwkK ?zwk6 ?zwk7 ?zwk8 ?zwk9 ?zwkB ?_ ?zwc2 ?zwc3 ?zwc4 ?zwc5; (case zwkA => exact rfl); (case zwkF => exact rfl); (case zwkK => first | assumption | exact rfl); (case zwk1 => k_asm); (case zwk2 => k_asm); (case zwk3 => k_asm); (case zwk4 => k_asm); (case zwk5 => k_asm); (case zwk6 => k_is); (case zwk7 => k_is); (case zwk8 => ktr_room); (case zwk9 => first | exact BindsTo.of_eq rfl | (refine' kp_binds ?zwkx ?zwke; (case zwkx => k_in); (case zwke => exact fun _ => rfl))); (case zwc5 => decide); (case zwkB => exact locs rfl); (case zwc2 => exact rfl); (case zwc3 => exact rfl); (case zwc4 => exact rfl); k_whole; walk_at "pm1"; (try dsimp only); (try k_fold))
  | (refine' code_defC ?zwk1 ?zwk2 ?zwk3 ?zwk4 ?zwk5 ?zwkA ?zwkF ?zwkK ?zwk6 ?zwk7 ?zwk8 ?zwk9 ?zwkB ?zwkD ?_ ?zwc2 ?zwc3 ?zwc4; (case zwkA => exact rfl); (case zwkF => exact rfl); (case zwkK => first | assumption | exact rfl); (case zwk1 => k_asm); (case zwk2 => k_asm); (case zwk3 => k_asm); (case zwk4 => k_asm); (case zwk5 => k_asm); (case zwk6 => k_is); (case zwk7 => k_is); (case zwk8 => ktr_room); (case zwk9 => first | exact BindsTo.of_eq rfl | (refine' kp_binds ?zwkx ?zwke; (case zwkx => k_in); (case zwke => exact fun _ => rfl))); (case zwkB => exact rfl); (case zwkD => decide +kernel); (case zwc2 => exact rfl); (case zwc3 => exact rfl); (case zwc4 => exact rfl); k_whole; walk_at "pm2"; (try dsimp only); (try k_fold))))
  k_with "k_all" => (first | assumption | exact all_ne (by assumption) (by omega) | fail)
  k_with "call ref" => ((k_here; refine wpAny_call ?_; k_extra "tb_start"))
  k_with "k_all" => (first | assumption | (refine' List.forall_mem_cons.mpr ⟨?zwkza, ?zwkzb⟩; (case zwkza => (try dsimp only); first | assumption | exact ltN (by omega) | exact gtN (by omega) | fail); (case zwkzb => k_all)) | exact all_ne (by assumption) (by omega) | fail)
  k_with "loadName" => ((k_here; k_dflt (refine' ldn ?zwk1 ?zwk2 ?_; (case zwk1 => k_asm); (case zwk2 => (repeat (first | assumption | exact if_pos rfl | refine' (if_neg (by decide)).trans ?_))))))
  k_with "eval Name" => ((k_here; name_kind "local"; k_dflt (refine' ld ?zwk1 ?zwk2 ?_; (case zwk1 => k_asm); (case zwk2 => (repeat (first | assumption | exact if_pos rfl | refine' (if_neg (by decide)).trans ?_))); k_whole)))
  k_with "pyIter ref" => ((k_here; refine stop_intro ?_))
  k_with "exec For" => ((k_here; k_dflt (refine' for_ruleL ?zwhF ?zwhs ?_; (case zwhF => k_asm); (case zwhs => intro _; rfl))))
  k_with "exec For Name Name cons nil" => ((k_here; k_dflt (refine' for_ruleL ?zwhF ?zwhs ?_; (case zwhF => k_asm); (case zwhs => intro _; rfl))))
  k_with "exec For Name Subscript cons nil" => ((k_here; k_dflt (refine' for_ruleL ?zwhF ?zwhs ?_; (case zwhF => k_asm); (case zwhs => intro _; rfl))))
  k_with "exec For Name Call cons nil" => ((k_here; k_dflt (refine' for_ruleL ?zwhF ?zwhs ?_; (case zwhF => k_asm); (case zwhs => intro _; rfl))))
  k_with "exec For Tuple Name cons nil" => ((k_here; k_dflt (refine' for_ruleL ?zwhF ?zwhs ?_; (case zwhF => k_asm); (case zwhs => intro _; rfl))))
  k_with "exec For Tuple" => ((k_here; k_dflt (refine' for_ruleL ?zwhF ?zwhs ?_; (case zwhF => k_asm); (case zwhs => intro _; rfl))))
  k_with "exec Assign cons ListComp" => ((k_here; k_dflt (refine' compG_a ?zwe1 ?zwe2 ?zwe3 ?zwe4 ?zwe5 ?zwe6 ?zwe7 ?zwe8 ?zwe9 ?_; (case zwe1 => exact rfl); (case zwe2 => with_unfolding_all rfl); (case zwe3 => with_unfolding_all rfl); (case zwe4 => decide); (case zwe5 => rfl); (case zwe6 => decide); (case zwe7 => intro _; rfl); (case zwe8 => rfl); (case zwe9 => rfl))))
  k_with "call builtin:len" => ((k_here; (with_reducible show wpAny _ _ (call (Value.builtin _) [Value.ref _]) _ _ _); k_dflt (refine' len_at ?zwk1 ?zwk2 ?zwk3 ?_; (case zwk1 => k_asm); (case zwk2 => (repeat (first | assumption | exact List.Mem.head _ | apply List.Mem.tail))); (case zwk3 => omega); walk_at "pm3")))
  k_with "subscriptTail Name Name ref int" => ((k_here; (with_reducible show wpAny _ _ (subscriptTail _ _ (Value.ref _) (Value.int _ _)) _ _ _); k_dflt (refine' sub_at ?zwk1 ?zwk2 ?zwk3 ?zwk4 ?zwk5 ?_ ?zwk7; (case zwk1 => k_asm); (case zwk2 => (repeat (first | assumption | exact List.Mem.head _ | apply List.Mem.tail))); (case zwk3 => omega); (case zwk4 => omega); (case zwk5 => assumption); (case zwk7 => with_unfolding_all rfl); k_whole)))
  k_with "subscriptTail Name Constant ref int" => ((k_here; (with_reducible show wpAny _ _ (subscriptTail _ _ (Value.ref _) (Value.int _ _)) _ _ _); k_dflt (refine' sub_at ?zwk1 ?zwk2 ?zwk3 ?zwk4 ?zwk5 ?_ ?zwk7; (case zwk1 => k_asm); (case zwk2 => (repeat (first | assumption | exact List.Mem.head _ | apply List.Mem.tail))); (case zwk3 => decide); (case zwk4 => decide); (case zwk5 => assumption); (case zwk7 => with_unfolding_all rfl); k_whole)))
  k_with "call type:list" => ((k_here; (with_reducible show wpAny _ _ (call (Value.type _) [Value.ref _]) _ _ _); k_dflt (refine' kup_listOf ?zwF ?zwN ?zwb ?zwe ?_ ?zwz; (case zwF => k_asm); (case zwN => k_asm); (case zwb => (repeat (first | assumption | exact List.Mem.head _ | apply List.Mem.tail))); (case zwe => exact rfl); (case zwz => (rw [PySem.sizeLine_eq]; simp only [List.size_toArray, List.toList_toArray]; omega))); walk_at "pm9"))
  k_with "eval Name" => ((k_here; name_kind "free"; k_dflt (refine' lcf_cell ?zwN ?zwc ?zwm ?zwd ?_ ?zwa ?zwb; (case zwa => rfl); (case zwb => rfl); (case zwN => k_asm); (case zwc => rfl); (case zwm => (repeat (first | assumption | apply List.Mem.tail))); (case zwd => assumption); k_whole)))
  k_with "binaryOp Add ref ref" => ((k_here; k_dflt (refine' add_at ?zwF ?zwN ?zwm1 ?zwm2 ?zwz ?_; (case zwF => k_asm); (case zwN => k_asm); (case zwm1 => (repeat (first | assumption | exact List.Mem.head _ | apply List.Mem.tail))); (case zwm2 => (repeat (first | assumption | exact List.Mem.head _ | apply List.Mem.tail))); (case zwz => first | omega | (simp only [List.length_cons, List.length_nil, List.length_append]; omega))); walk_at "pm7"))
  k_with "setItem ref int" => ((k_here; (with_reducible show wpAny _ _ (setItem (Value.ref _) (Value.int _ _) _) _ _ _); k_dflt (refine' set_any ?zwF ?zwN ?zwU ?zwh0 ?zwh1 ?zwhf ?_; (case zwF => k_asm); (case zwN => k_asm); (case zwU => k_upd); (case zwh0 => omega); (case zwh1 => omega); (case zwhf => omega)); walk_at "pm0"; (try k_sweep)))
  k_with "subscriptTail Name Slice ref ref" => ((k_here; (with_reducible show wpAny _ _ (subscriptTail _ (PySem.Expr.Slice _ _ none _) (Value.ref _) (Value.ref _)) _ _ _); k_dflt (refine' kmk_slice_ints ?zwF ?zwN ?zwl ?zwp ?zwq ?zwi ?zwm ?zwc ?_ ?zws ?zwt ?zwz; (case zwF => k_asm); (case zwN => k_asm); (case zwl => exact News.isList (by k_asm) (by (repeat (first | assumption | exact List.Mem.head _ | apply List.Mem.tail)))); (case zwp => kmk_part); (case zwq => kmk_part); (case zwi => assumption); (case zwm => exact kmk_from (by assumption) (by decide)); (case zwc => exact List.length_drop ..); (case zws => with_unfolding_all rfl); (case zwt => kmk_pure); (case zwz => (rw [PySem.sizeLine_eq]; simp only [List.size_toArray, List.length_cons]; omega))); walk_at "pm10"))
  k_with "k_all" => (first | assumption | exact all_ne (by assumption) (by omega) | fail)
  k_fill
  intro hrow
  clear hrow
  intro p loose mean mg mb dp un gd cn cs a ccd cl outer A₀ base h₀ L m s Q E B F X N T hk hdp hun hret
  refine wpAny_call ?_
  k_extra "tb_start"
  refine tok_gen fun tk0 => ?_
  k_steps
  rename_i gX L0 gA tkA FGA BA XA TA lA oc dc Hm cH hA lH gB FB NB
  refine e1a1 ((⟨_, rfl⟩ : ∃ base, base = (L0 + 1, oc) :: (tl, listOf ts.toArray c) :: news)) fun base hbase => ?_
  have hlv9 : (lv, listOf vs.toArray n) ∈ base := by rw [hbase]; exact .tail _ (.tail _ hlv)
  have hcell : (L0 + 1, oc) ∈ base := by rw [hbase]; exact .head _
  have hboff : ∀ p ∈ base, p.1 < Hm := by
    rw [hbase]
    intro p hp
    rcases List.mem_cons.mp hp with rfl | hp
    · exact lH.1
    rcases List.mem_cons.mp hp with rfl | hp
    · exact lH.2.1
    exact allLt_at lH.2.2 p hp
  refine stop_elim ?_
  refine' src_list (ax := lv) (its := vs.toArray) (k := n) (news := (Hm, listOf (List.toArray vs) cH) :: base) rfl ?F ?N ?m ?_
  case F => k_asm
  case N => rw [hbase]; exact NB
  case m => exact .tail _ hlv9
  intro it9 s9 S9
  refine e1a1 (srcAt_same S9) fun g9 e9 => ?_
  subst e9
  refine' CompG.name (fun i ys Y => ∃ Z, Y = (Hm, listOf (List.toArray vs) cH) :: Z ∧ Are (AbvAt Z) ys ((ls.take i).map fun x => [(x, 1 + (x + look) % 8)]) ∧ (∀ p ∈ base, p ∈ Z) ∧ (∀ p ∈ Z, p.1 ≠ Hm)) ?hx ?hk S9 ?hsz ?j0 ?turn ?hlen ?fin
  case hx => rfl
  case hk => rfl
  case hsz => exact size5 (by rw [List.size_toArray, hvl]; exact hl.2)
  case j0 => exact ⟨base, rfl, .nil, fun p hp => hp, fun p hp => ltN (hboff p hp)⟩
  case hlen => rintro i ys Y ⟨Z, _, ha, _⟩; rw [ha.len, List.length_map, List.length_take]; omega
  case turn =>
    intro i v ys Y I oI C oC D m₂ h tk E' hi9 hP zr0 hsub hoff hC hm F9 N9
    (try dsimp only)
    (try k_fold)
    refine e1a4 (zr0) fun Z ze0 ha hZ hZo => ?_
    clear zr0
    subst ze0
    refine e1a2 ((Are.of_ints hi).get (arr_at hP)) fun x hx zt0 => ?_
    refine e1a1 (zt0) fun t9 ze1 => ?_
    clear zt0
    subst ze1
    have hcZ : (L0 + 1, oc) ∈ Z := hZ _ hcell
    refine wpAny_tests_nil ?_
    try simp only [if_true]
    (try k_fold)
    k_steps
    rename_i D9 g9 lD B9 h9 F9' N9' lB
    have e8 : (x + look).fmod 8 = (x + look) % 8 := Int.fmod_eq_emod_of_nonneg _ (by decide)
    have hD : ∀ p ∈ Z, p.1 < D9 := fun p hp => allLt_at lD.2.2.2.2 p hp
    have hB : ∀ p ∈ Z, p.1 < B9 := fun p hp => allLt_at lB.2.2.2.2.2 p hp
    refine TurnE.intro ((Hm, listOf (List.toArray vs) cH) :: (B9, listOf (List.toArray [Value.ref D9]) 0) :: (D9, tupOf [Value.int x t9, Value.int (1 + (x + look).fmod 8) (tk + 1 + 1 + 1 + 1)] 0) :: Z) F9' N9' ?ta ?tb ?tc ⟨_, rfl, ?td, ?te, ?tf⟩
    case ta =>
      intro p hp
      simp only [List.cons_append, List.nil_append, List.mem_cons] at hp ⊢
      rcases hp with rfl | rfl | rfl | rfl | rfl | rfl | hp
      · exact .inr (.inr (.inl rfl))
      · exact .inr (.inr (.inr (.inl rfl)))
      · exact .inr (.inr (.inr (.inr (.inl rfl))))
      · exact .inr (.inr (.inr (.inr (.inr (.inl rfl)))))
      · exact .inl rfl
      · exact .inr (.inl rfl)
      · exact .inr (.inr (.inr (.inr (.inr (.inr hp)))))
    case tb =>
      intro p hp
      rcases List.mem_cons.mp hp with rfl | hp
      · exact .head _
      · exact .tail _ (.tail _ (.tail _ (hZ p hp)))
    case tc =>
      intro p hp
      rcases List.mem_cons.mp hp with rfl | hp
      · exact hoff _ (.head _)
      rcases List.mem_cons.mp hp with rfl | hp
      · exact ⟨gtN lB.2.1, gtN lB.2.2.2.1, fun h => gtN lB.2.2.1 (List.mem_singleton.mp h)⟩
      rcases List.mem_cons.mp hp with rfl | hp
      · exact ⟨gtN lD.1, gtN lD.2.2.1, fun h => gtN lD.2.1 (List.mem_singleton.mp h)⟩
      · exact hoff p (.tail _ hp)
    case td =>
      rw [take_snoc hx, List.map_append]
      refine (ha.imp (AbvAt.mono fun p hp => .tail _ (.tail _ hp))).snoc ⟨B9, [Value.ref D9], 0, rfl, .head _, .cons ⟨D9, 0, t9, tk + 1 + 1 + 1 + 1, rfl, ?_⟩ .nil⟩
      show (D9, tupOf [Value.int x t9, Value.int (1 + (x + look) % 8) (tk + 1 + 1 + 1 + 1)] 0) ∈ _
      rw [← e8]
      exact .tail _ (.head _)
    case te => exact fun p hp => .tail _ (.tail _ (hZ p hp))
    case tf =>
      intro p hp
      rcases List.mem_cons.mp hp with rfl | hp
      · exact gtN lB.2.2.2.2.1
      rcases List.mem_cons.mp hp with rfl | hp
      · exact gtN lD.2.2.2.1
      · exact hZo p hp
  case fin =>
    intro D ys Y zr0 hsub hoff hlt h9 tk9 F9 N9
    (try dsimp only)
    (try k_fold)
    refine e1a4 (zr0) fun Z ze0 ha hZ hZo => ?_
    clear zr0
    subst ze0
    have hps : Are (AbvAt Z) ys (ls.map fun x => [(x, 1 + (x + look) % 8)]) := by rw [List.size_toArray, hvl, List.take_length] at ha; exact ha
    have hpl := hps.len
    rw [List.length_map] at hpl
    (try k_fold)
    k_steps
    rename_i Ff ga Fa0 Na0 lF gb FB NB
    refine stop_elim ?_
    have hD := fun p hp => allLt_at lF.2.2 p hp
    have hZ9 : ∀ p ∈ base, p ∈ (Ff, listOf (List.toArray [Value.int 511 tk9, Value.int 256 (tk9 + 1), Value.int 426 (tk9 + 1 + 1), Value.int 341 (tk9 + 1 + 1 + 1)]) 0) :: Z := fun p hp => .tail _ (hZ p hp)
    have htlb : (tl, listOf ts.toArray c) ∈ base := by rw [hbase]; exact .tail _ (.head _)
    refine' srcF_list (ax := tl) (its := ts.toArray) (k := c) (news := (Hm, listOf (List.toArray vs) cH) :: (D, listOf (List.toArray ys) ys.length) :: (Ff, listOf (List.toArray [Value.int 511 tk9, Value.int 256 (tk9 + 1), Value.int 426 (tk9 + 1 + 1), Value.int 341 (tk9 + 1 + 1 + 1)]) 0) :: Z) rfl FB ?zN (.tail _ (.tail _ (hZ9 _ htlb))) ?_
    case zN =>
      refine news_pick NB ?_
      intro p hp
      simp only [List.mem_cons] at hp ⊢
      rcases hp with rfl | rfl | rfl | hp
      · exact .inr (.inr (.inl rfl))
      · exact .inr (.inl rfl)
      · exact .inl rfl
      · exact .inr (.inr (.inr hp))
    intro it9 s9 S9
    refine e1a1 (SrcF.same S9) fun g9 e9 => ?_
    subst e9
    refine LoopOK.put (fun i => TJ Hm D lv cH ys.length base ((ties.take i).foldl tstep (ts0 ls look))) S9 ?ja ?jb ?jc ?jd
    case ja =>
      refine (TJ.mk vs ys Ff _ _ ((Ff, _) :: Z) rfl (⟨hi, ?_, .cons _ _ (.cons _ _ (.cons _ _ (.cons _ _ .nil))), hZ9⟩) (.head _) ?_ (by (repeat (first | assumption | exact if_pos rfl | refine' (if_neg (by decide)).trans ?_))) (by (repeat (first | assumption | exact if_pos rfl | refine' (if_neg (by decide)).trans ?_))) (by (repeat (first | assumption | exact if_pos rfl | refine' (if_neg (by decide)).trans ?_))) (by rfl))
      · show Are _ ys ((ls.map fun x => Tr.leaf x (1 + (x + look) % 8)).map pre)
        rw [List.map_map]
        exact hps.imp (AbvAt.mono fun p hp => .tail _ hp)
      · intro p hp
        rcases List.mem_cons.mp hp with rfl | hp
        · exact ⟨gtN lF.2.1, gtN lF.1⟩
        · exact ⟨hZo p hp, hoff p (.tail _ hp)⟩
    case jb =>
      intro i m nw zr0
      obtain ⟨hv, pv, Ff, fv, cF, X, rfl, st, _⟩ := zr0
      exact .tail _ (.tail _ (st.sub _ htlb))
    case jc =>
      intro i v m1 nw I oI h tk E' hi9 hv9 zr0 off hltI F9 N9
      (try (refine absL ?_; intro QL9))
      (try dsimp only)
      (try k_fold)
      refine e6a8 (zr0) fun hv pv Fg fv cF X ze0 st hFg hoX hm1 hm2 hm3 hm4 => ?_
      clear zr0
      subst ze0
      refine e1a1 ((⟨_, rfl⟩ : ∃ S, S = (ties.take i).foldl tstep (ts0 ls look))) fun S hS => ?_
      refine e1a2 (hts.get (arr_at hv9)) fun x hx zt0 => ?_
      refine e5a2 (zt0) fun Ax kx t1 t2 t3 ze1 hAx => ?_
      clear zt0
      subst ze1
      refine a4 (hturn i x hx) fun hj hk hSn hmrg => ?_
      rw [← hS] at hSn hmrg st
      
      obtain ⟨pr, j, k⟩ := x
      dsimp only at hj hk hmrg hAx
      have hxX := st.sub _ (show (Ax, tupOf [.int pr t1, .int ((j : Nat) : Int) t2, .int ((k : Nat) : Int) t3] kx) ∈ base by rw [hbase]; exact .tail _ (.tail _ hAx))
      refine e1a1 (IntsAre.at_ st.hs (show j < S.hs.length by rw [hSn.1]; exact hj)) fun ta hja => ?_
      refine e1a1 (IntsAre.at_ st.hs (show k < S.hs.length by rw [hSn.1]; exact hk)) fun tb hkb => ?_
      have N9' : News gX L0 h ((I, oI) :: (Ax, tupOf [.int pr t1, .int ((j : Nat) : Int) t2, .int ((k : Nat) : Int) t3] kx) :: (Hm, listOf (List.toArray hv) cH) :: (D, listOf (List.toArray pv) ys.length) :: X) := by
        refine news_pick N9 ?_
        intro p hp
        simp only [List.mem_cons] at hp ⊢
        rcases hp with rfl | rfl | rfl | rfl | hp
        · exact .inl rfl
        · exact .inr (.inr (.inr hxX))
        · exact .inr (.inl rfl)
        · exact .inr (.inr (.inl rfl))
        · exact .inr (.inr (.inr hp))
      clear N9
      have hltI2 := hltI
      have hlvX : (lv, listOf (List.toArray vs) n) ∈ X := st.sub _ hlv9
      have offI : ∀ p ∈ X, p.1 ≠ I := fun p hp => off p (.tail _ (.tail _ hp))
      have hHI : Hm < I := hltI _ (.head _)
      have hDI : D < I := hltI _ (.tail _ (.head _))
      have hHD : Hm < D := hlt _ (.head _)
      have hst1 : (ties.take (i + 1)).foldl tstep (ts0 ls look) = tstep S (pr, j, k) := by rw [take_snoc hx, List.foldl_append, ← hS]; rfl
      by_cases hne : S.hs.getD j 0 = S.hs.getD k 0
      · (try k_fold)
        k_steps
        all_goals (try first | exact Str.ofString "" | exact (0 : Nat) | exact Value.none)
        · exfalso; rename_i a; exact a hne
        · refine ForEnd.intro ((Hm, listOf (List.toArray hv) cH) :: (D, listOf (List.toArray pv) ys.length) :: X) (by k_asm) (by k_asm) ?ua ?ub (TJ.mk hv pv Fg fv cF X rfl ?uc hFg hoX (by (repeat (first | assumption | exact if_pos rfl | refine' (if_neg (by decide)).trans ?_))) (by (repeat (first | assumption | exact if_pos rfl | refine' (if_neg (by decide)).trans ?_))) (by (repeat (first | assumption | exact if_pos rfl | refine' (if_neg (by decide)).trans ?_))) (by (repeat (first | assumption | exact if_pos rfl | refine' (if_neg (by decide)).trans ?_))))
          case ua =>
            intro p hp
            simp only [List.mem_cons] at hp ⊢
            rcases hp with rfl | rfl | rfl | hp
            · exact .inl rfl
            · exact .inr (.inr (.inl rfl))
            · exact .inr (.inr (.inr (.inl rfl)))
            · exact .inr (.inr (.inr (.inr hp)))
          case ub =>
            intro p hp
            rcases List.mem_cons.mp hp with rfl | hp
            · exact ltN hHI
            rcases List.mem_cons.mp hp with rfl | hp
            · exact ltN hDI
            · exact offI p hp
          case uc =>
            rw [hst1]
            unfold tstep
            rw [if_pos hne]
            exact st
      · refine e2a4 (hmrg hne) fun f fr hfr hr3 hlj hlk => ?_
        have hf1 := st.fr
        rw [hfr] at hf1
        cases hf1 with
        | cons f tf hf1 =>
          rename_i fv
          refine e1a2 (Are.at_ st.ts (i := j) (x := pre (S.ts.getD j (.leaf 0 0))) (by rw [List.getElem?_map, getD_at (d := .leaf 0 0) (by rw [hSn.2.1]; exact hj)]; rfl)) fun vj hpj zt0 => ?_
          refine e3a3 (zt0) fun Aj va ca ze1 hAj haj => ?_
          clear zt0
          subst ze1
          refine e1a2 (Are.at_ st.ts (i := k) (x := pre (S.ts.getD k (.leaf 0 0))) (by rw [List.getElem?_map, getD_at (d := .leaf 0 0) (by rw [hSn.2.1]; exact hk)]; rfl)) fun vk hpk zt0 => ?_
          refine e3a3 (zt0) fun Ak vb cb ze1 hAk hak => ?_
          clear zt0
          subst ze1
          have hf0 : (Value.int f tf :: fv)[(0 : Int).toNat]? = some (.int f tf) := rfl
          have hva : va.length ≤ 15 := by rw [haj.len]; exact hlj
          have hvb : vb.length ≤ 15 := by rw [hak.len]; exact hlk
          (try k_fold)
          k_steps
          all_goals (try first | exact Str.ofString "" | exact (0 : Nat) | exact Value.none)
          rotate_left
          · exfalso; rename_i a; exact hne a
          rename_i Tm g1 lT B1 g2 lB1 B2 g3 lB2 Bm g4 lBm g5 F5 N5 t9 tk9 g6 tk6 t6 u6 v6 hRg F6 N6 kp6
          refine stop_elim ?_
          have hXT : ∀ p ∈ X, p.1 < Tm := fun p hp => allLt_at lT.2.2.2.2 p hp
          have hXB : ∀ p ∈ X, p.1 < Bm := fun p hp => allLt_at lBm.2.2.2.2.2.2.2 p hp
          refine e1a1 ((⟨_, rfl⟩ : ∃ X1, X1 = (Bm, listOf (List.toArray ([Value.ref Tm] ++ va ++ vb)) 0) :: (Tm, tupOf [.int f tf, .int pr t1] 0) :: X)) fun X1 hX1 => ?_
          refine e1a1 ((⟨_, rfl⟩ : ∃ XX, XX = (I, oI) :: X1)) fun XX hXX => ?_
          have hXX1 : ∀ p ∈ X, p ∈ X1 := fun p hp => by rw [hX1]; exact .tail _ (.tail _ hp)
          have hX1X : ∀ p ∈ X1, p ∈ XX := fun p hp => by rw [hXX]; exact .tail _ hp
          have hXXm : ∀ p ∈ X, p ∈ XX := fun p hp => hX1X p (hXX1 p hp)
          have hoX1 : ∀ p ∈ X1, p.1 ≠ Hm ∧ p.1 ≠ D := by
            rw [hX1]
            intro p hp
            rcases List.mem_cons.mp hp with rfl | hp
            · exact ⟨gtN lBm.2.2.2.2.2.1, gtN lBm.2.2.2.2.2.2.1⟩
            rcases List.mem_cons.mp hp with rfl | hp
            · exact ⟨gtN lT.2.2.1, gtN lT.2.2.2.1⟩
            · exact hoX p hp
          have hoX1I : ∀ p ∈ X1, p.1 ≠ I := by
            rw [hX1]
            intro p hp
            rcases List.mem_cons.mp hp with rfl | hp
            · exact gtN lBm.2.2.2.1
            rcases List.mem_cons.mp hp with rfl | hp
            · exact gtN lT.1
            · exact offI p hp
          have hXXH : ∀ p ∈ XX, p.1 ≠ Hm := by
            rw [hXX]
            intro p hp
            rcases List.mem_cons.mp hp with rfl | hp
            · exact gtN hHI
            · exact (hoX1 p hp).1
          have hXXD : ∀ p ∈ XX, p.1 ≠ D := by
            rw [hXX]
            intro p hp
            rcases List.mem_cons.mp hp with rfl | hp
            · exact gtN hDI
            · exact (hoX1 p hp).2
          have hbA : AbvAt X1 (.ref Bm) (pre (tnode S (pr, j, k))) := by
            refine ⟨Bm, [Value.ref Tm] ++ va ++ vb, 0, rfl, by rw [hX1]; exact .head _, ?_⟩
            have e : pre (tnode S (pr, j, k)) = [(f, pr)] ++ pre (S.ts.getD j (.leaf 0 0)) ++ pre (S.ts.getD k (.leaf 0 0)) := by
              show (S.fr.headD 0, pr) :: (_ ++ _) = _
              rw [hfr]; simp
            rw [e]
            exact Are.app' (Are.app' (.cons ⟨Tm, 0, tf, t1, rfl, by rw [hX1]; exact .tail _ (.head _)⟩ .nil) (haj.imp (PairAt.mono hXX1))) (hak.imp (PairAt.mono hXX1))
          have hFgX : (Fg, listOf (List.toArray (Value.int f tf :: fv)) cF) ∈ XX := hXXm _ hFg
          have hlvXX : (lv, listOf (List.toArray vs) n) ∈ XX := hXXm _ hlvX
          have hIXX : (I, oI) ∈ XX := by rw [hXX]; exact .head _
          refine' srcF_range (n := ls.length) (news := (Hm, listOf (List.toArray hv) cH) :: (D, listOf (List.toArray pv) ys.length) :: XX) rfl F6 ?zN (by rw [← hvl]; exact hRg) (small_k (by omega)) (range_k _) ?_
          case zN =>
            refine news_pick N6 ?_
            rw [hXX, hX1]
            intro p hp
            simp only [List.mem_cons] at hp ⊢
            rcases hp with rfl | rfl | rfl | rfl | rfl | hp
            · exact .inr (.inr (.inr (.inr (.inr (.inr (.inl rfl))))))
            · exact .inr (.inr (.inr (.inr (.inr (.inr (.inr (.inl rfl)))))))
            · exact .inr (.inr (.inr (.inr (.inl rfl))))
            · exact .inl rfl
            · exact .inr (.inr (.inr (.inl rfl)))
            · exact .inr (.inr (.inr (.inr (.inr (.inr (.inr (.inr hp)))))))
          intro it9 s9 S9
          refine e1a1 (SrcF.same S9) fun g9 e9 => ?_
          subst e9
          refine LoopOK.put (fun i => TI Hm D lv Fg Bm cH ys.length XX X1 (S.hs.getD j 0) (S.hs.getD k 0) (mrg (S.hs.getD j 0) (S.hs.getD k 0) f (tnode S (pr, j, k)) (S.hs, S.ts) i)) S9 ?ka ?kb ?kc ?kd
          case ka => exact (TI.mk hv pv ta tb rfl st.hs (st.ts.imp (AbvAt.mono hXX1)) (by (repeat (first | assumption | exact if_pos rfl | refine' (if_neg (by decide)).trans ?_))) (by (repeat (first | assumption | exact if_pos rfl | refine' (if_neg (by decide)).trans ?_))) (by (repeat (first | assumption | exact if_pos rfl | refine' (if_neg (by decide)).trans ?_))) (by (repeat (first | assumption | exact if_pos rfl | refine' (if_neg (by decide)).trans ?_))) (by (repeat (first | assumption | exact if_pos rfl | refine' (if_neg (by decide)).trans ?_))) (by (repeat (first | assumption | exact if_pos rfl | refine' (if_neg (by decide)).trans ?_))) (by (repeat (first | assumption | exact if_pos rfl | refine' (if_neg (by decide)).trans ?_))))
          case kb => exact fun _ _ _ _ => trivial
          case kc =>
            intro q v m3 nw I3 oI3 h3 tk3 E3 hq9 zr0 zr1 off3 hltI3 F7 N7
            (try (refine absL ?_; intro QL7))
            (try dsimp only)
            (try k_fold)
            refine e1a1 (zr0) fun t7 ze0 => ?_
            clear zr0
            subst ze0
            refine e4a10 (zr1) fun hv3 pv3 ta3 tb3 ze0 hi3 hp3 me1 me2 me3 me4 me5 me6 me7 => ?_
            clear zr1
            subst ze0
            rw [Int.zero_add]
            refine e1a1 ((⟨_, rfl⟩ : ∃ M, M = mrg (S.hs.getD j 0) (S.hs.getD k 0) f (tnode S (pr, j, k)) (S.hs, S.ts) q)) fun M hM => ?_
            have hMl := mrg_len (a := S.hs.getD j 0) (b := S.hs.getD k 0) (f := f) (t := tnode S (pr, j, k)) (S := (S.hs, S.ts)) q
            rw [← hM] at hi3 hp3 hMl
            refine e1a1 (IntsAre.at_ hi3 (i := q) (by rw [hMl.1]; show q < S.hs.length; rw [hSn.1]; exact hq9)) fun tq hq => ?_
            have hqn : (q : Int) < 5 := by omega
            have hv3l : hv3.length = ls.length := by rw [hi3.length, hMl.1]; exact hSn.1
            have hp3l : pv3.length = ls.length := by rw [hp3.len, List.length_map, hMl.2]; exact hSn.2.1
            have hqv : (q : Int) < hv3.length := by rw [hv3l]; omega
            have hqp : (q : Int) < pv3.length := by rw [hp3l]; omega
            have hm1 : mrg (S.hs.getD j 0) (S.hs.getD k 0) f (tnode S (pr, j, k)) (S.hs, S.ts) (q + 1) = mrgS (S.hs.getD j 0) (S.hs.getD k 0) f (tnode S (pr, j, k)) M q := by rw [hM]; rfl
            have hl9 := hltI3
            k_lt hl9
            have hXX3 : ∀ p ∈ XX, p.1 ≠ I3 := fun p hp => ltN (hltI3 p (.tail _ (.tail _ hp)))
            have hH3 : Hm < I3 := hltI3 _ (.head _)
            have hD3 : D < I3 := hltI3 _ (.tail _ (.head _))
            have off9 : ∀ {o1 o2 : Obj}, ∀ p ∈ (Hm, o1) :: (D, o2) :: XX, p.1 ≠ I3 := by
              intro o1 o2 p hp
              rcases List.mem_cons.mp hp with rfl | hp
              · exact ltN hH3
              rcases List.mem_cons.mp hp with rfl | hp
              · exact ltN hD3
              · exact hXX3 p hp
            have hHD9 : @LT.lt Nat instLTNat Hm D := hHD
            (try k_fold)
            k_steps
            all_goals (try first | exact Str.ofString "" | exact (0 : Nat) | exact Value.none)
            · rename_i h9 F9 N9
              refine ForEnd.intro ((Hm, listOf (List.toArray (hv3.set ((q : Nat) : Int).toNat (.int f tf))) cH) :: (D, listOf (List.toArray (pv3.set ((q : Nat) : Int).toNat (.ref Bm))) ys.length) :: XX) F9 N9 (fun p hp => hp) off9 (TI.mk _ _ ta3 tb3 rfl ?_ ?_ (by (repeat (first | assumption | exact if_pos rfl | refine' (if_neg (by decide)).trans ?_))) (by (repeat (first | assumption | exact if_pos rfl | refine' (if_neg (by decide)).trans ?_))) (by (repeat (first | assumption | exact if_pos rfl | refine' (if_neg (by decide)).trans ?_))) (by (repeat (first | assumption | exact if_pos rfl | refine' (if_neg (by decide)).trans ?_))) (by (repeat (first | assumption | exact if_pos rfl | refine' (if_neg (by decide)).trans ?_))) (by (repeat (first | assumption | exact if_pos rfl | refine' (if_neg (by decide)).trans ?_))) (by (repeat (first | assumption | exact if_pos rfl | refine' (if_neg (by decide)).trans ?_))))
              · rw [hm1]; unfold mrgS; rw [if_pos (.inl (by assumption)), Int.toNat_natCast]; exact ints_set hi3 q
              · rw [hm1]; unfold mrgS; rw [if_pos (.inl (by assumption)), Int.toNat_natCast]
                show Are _ _ ((M.2.set q (tnode S (pr, j, k))).map pre)
                rw [List.map_set]
                exact hp3.set hbA q
            · rename_i h9 F9 N9
              refine ForEnd.intro ((Hm, listOf (List.toArray (hv3.set ((q : Nat) : Int).toNat (.int f tf))) cH) :: (D, listOf (List.toArray (pv3.set ((q : Nat) : Int).toNat (.ref Bm))) ys.length) :: XX) F9 N9 (fun p hp => hp) off9 (TI.mk _ _ ta3 tb3 rfl ?_ ?_ (by (repeat (first | assumption | exact if_pos rfl | refine' (if_neg (by decide)).trans ?_))) (by (repeat (first | assumption | exact if_pos rfl | refine' (if_neg (by decide)).trans ?_))) (by (repeat (first | assumption | exact if_pos rfl | refine' (if_neg (by decide)).trans ?_))) (by (repeat (first | assumption | exact if_pos rfl | refine' (if_neg (by decide)).trans ?_))) (by (repeat (first | assumption | exact if_pos rfl | refine' (if_neg (by decide)).trans ?_))) (by (repeat (first | assumption | exact if_pos rfl | refine' (if_neg (by decide)).trans ?_))) (by (repeat (first | assumption | exact if_pos rfl | refine' (if_neg (by decide)).trans ?_))))
              · rw [hm1]; unfold mrgS; rw [if_pos (.inr (by assumption)), Int.toNat_natCast]; exact ints_set hi3 q
              · rw [hm1]; unfold mrgS; rw [if_pos (.inr (by assumption)), Int.toNat_natCast]
                show Are _ _ ((M.2.set q (tnode S (pr, j, k))).map pre)
                rw [List.map_set]
                exact hp3.set hbA q
            · rename_i h9 F9 N9 n1 n2
              refine ForEnd.intro ((Hm, listOf (List.toArray hv3) cH) :: (D, listOf (List.toArray pv3) ys.length) :: XX) F9 N9 (fun p hp => hp) off9 (TI.mk _ _ ta3 tb3 rfl ?_ ?_ (by (repeat (first | assumption | exact if_pos rfl | refine' (if_neg (by decide)).trans ?_))) (by (repeat (first | assumption | exact if_pos rfl | refine' (if_neg (by decide)).trans ?_))) (by (repeat (first | assumption | exact if_pos rfl | refine' (if_neg (by decide)).trans ?_))) (by (repeat (first | assumption | exact if_pos rfl | refine' (if_neg (by decide)).trans ?_))) (by (repeat (first | assumption | exact if_pos rfl | refine' (if_neg (by decide)).trans ?_))) (by (repeat (first | assumption | exact if_pos rfl | refine' (if_neg (by decide)).trans ?_))) (by (repeat (first | assumption | exact if_pos rfl | refine' (if_neg (by decide)).trans ?_))))
              · rw [hm1]; unfold mrgS; rw [if_neg (fun h => h.elim n1 n2)]; exact hi3
              · rw [hm1]; unfold mrgS; rw [if_neg (fun h => h.elim n1 n2)]; exact hp3
          case kd =>
            intro h3 tk3 m3 nw zr0 F7 N7
            (try dsimp only)
            (try k_fold)
            refine e4a10 (zr0) fun hv3 pv3 ta3 tb3 ze0 hi3 hp3 me1 me2 me3 me4 me5 me6 me7 => ?_
            clear zr0
            subst ze0
            have hfI : IntsAre (Value.int f tf :: fv) (f :: fr) := .cons _ _ hf1
            have hfl : fv.length ≤ 3 := by rw [hf1.length]; exact hr3
            have hl9 := hlt
            have hHD9 : @LT.lt Nat instLTNat Hm D := hHD
            (try k_fold)
            k_steps
            all_goals (try first | exact Str.ofString "" | exact (0 : Nat) | exact Value.none)
            rename_i F2 ws g9 hws hwc hwl l9 g8 F9 N9
            have hX9 : ∀ p ∈ XX, p.1 < F2 := fun p hp => allLt_at l9.2.2 p hp
            refine ForEnd.intro ((Hm, listOf (List.toArray hv3) cH) :: (D, listOf (List.toArray pv3) ys.length) :: (F2, listOf (List.toArray ws) 0) :: X1) F9 N9 ?za ?zb (TJ.mk hv3 pv3 F2 ws 0 ((F2, listOf (List.toArray ws) 0) :: X1) rfl ?zc (.head _) ?zd (by (repeat (first | assumption | exact if_pos rfl | refine' (if_neg (by decide)).trans ?_))) (by (repeat (first | assumption | exact if_pos rfl | refine' (if_neg (by decide)).trans ?_))) (by (repeat (first | assumption | exact if_pos rfl | refine' (if_neg (by decide)).trans ?_))) (by (repeat (first | assumption | exact if_pos rfl | refine' (if_neg (by decide)).trans ?_))))
            case za =>
              intro p hp
              rw [hXX]
              simp only [List.mem_cons] at hp ⊢
              rcases hp with rfl | rfl | rfl | rfl | hp
              · exact .inr (.inr (.inr (.inl rfl)))
              · exact .inr (.inl rfl)
              · exact .inr (.inr (.inl rfl))
              · exact .inl rfl
              · exact .inr (.inr (.inr (.inr hp)))
            case zb =>
              intro p hp
              simp only [List.mem_cons] at hp
              rcases hp with rfl | rfl | rfl | hp
              · exact ltN hHI
              · exact ltN hDI
              · exact gtN (hX9 _ hIXX)
              · exact hoX1I p hp
            case zc =>
              rw [hst1]
              have e : tstep S (pr, j, k) = ⟨(mrg (S.hs.getD j 0) (S.hs.getD k 0) f (tnode S (pr, j, k)) (S.hs, S.ts) ls.length).1, (mrg (S.hs.getD j 0) (S.hs.getD k 0) f (tnode S (pr, j, k)) (S.hs, S.ts) ls.length).2, fr⟩ := by
                unfold tstep
                rw [if_neg hne, hSn.1, hfr]; rfl
              rw [e]
              exact ⟨hi3, hp3.imp (AbvAt.mono fun p hp => .tail _ hp), hws, fun p hp => .tail _ (hXX1 _ (st.sub p hp))⟩
            case zd =>
              intro p hp
              rcases List.mem_cons.mp hp with rfl | hp
              · exact ⟨gtN l9.1, gtN l9.2.1⟩
              · exact hoX1 p hp
    case jd =>
      intro h tk m1 nw zr0 F9 N9
      (try dsimp only)
      (try k_fold)
      refine e6a8 (zr0) fun hv pv Fg fv cF X ze0 st hFg hoX hm1 hm2 hm3 hm4 => ?_
      clear zr0
      subst ze0
      have hTS : (ties.take ts.toArray.size).foldl tstep (ts0 ls look) = ties.foldl tstep (ts0 ls look) := by rw [List.take_of_length_le (by rw [List.size_toArray, hts.len]; exact Nat.le_refl _)]
      rw [hTS] at st
      refine e1a1 ((⟨_, rfl⟩ : ∃ T, T = ties.foldl tstep (ts0 ls look))) fun T hT => ?_
      rw [← hT] at st hend
      refine e1a2 (Are.at_ st.ts (i := 0) (x := pre (T.ts.getD 0 (.leaf 0 0))) (by rw [List.getElem?_map, getD_at (d := .leaf 0 0) (by rw [hend.2.1]; omega)]; rfl)) fun v0 hp0 zt0 => ?_
      refine e3a3 (zt0) fun A0 va ca ze1 hA0 ha0 => ?_
      clear zt0
      subst ze1
      have hp0' : pv[(0 : Int).toNat]? = some (Value.ref A0) := hp0
      have hva : va.length ≤ 30 := by
        rw [ha0.len]
        refine hend.2.2 _ ?_
        have e := getD_at (l := T.ts) (i := 0) (d := .leaf 0 0) (by rw [hend.2.1]; omega)
        exact List.mem_of_getElem? e
      (try k_fold)
      k_steps
      all_goals (try first | exact Str.ofString "" | exact (0 : Nat) | exact Value.none)
      rename_i D9 g1 l1 B9 g2 F2 N2 l2 R9 g3 F3 N3 l3 kF kN kT kX
      rw [hT] at ha0
      obtain ⟨t8, u8, k8, NN⟩ := name_p2 kN
      refine hret _ _ _ _ ⟨R9, 0, _, va ++ [.ref D9], rfl, rfl, (ha0.imp (PairAt.mono fun p hp => ?_)).snoc ⟨D9, k8, t8, u8, rfl, ?_⟩, fun p hp => ?_⟩ kF NN
      · exact .tail _ (.tail _ (.tail _ (.tail _ hp)))
      · exact .tail _ (.head _)
      · exact .tail _ (.tail _ (.tail _ (.tail _ (st.sub p (by rw [hbase]; exact .tail _ hp)))))
end Mine
end
section
namespace Mine
section
variable {h₀ h : Heap} {L c : Addr} {o o' : Obj} {Y : List (Addr × Obj)}
/-- one object taken out of the ledger's rest, to be changed -/
theorem news_sep (N : News h₀ L h Y) (hc : (c, o) ∈ Y) : ∃ Y', News h₀ L h ((c, o) :: Y') ∧ (∀ p ∈ Y', p.1 ≠ c) ∧ (∀ p ∈ Y, p.1 ≠ c → p ∈ Y') ∧ ∀ p ∈ Y', p ∈ Y := by
  refine ⟨Y.filter (fun p => decide (p.1 ≠ c)), fun p hp => ?_, fun p hp => of_decide_eq_true (List.mem_filter.mp hp).2, fun p hp hn => List.mem_filter.mpr ⟨hp, decide_eq_true hn⟩, fun p hp => (List.mem_filter.mp hp).1⟩
  rcases List.mem_cons.mp hp with rfl | hp
  · exact N _ hc
  · exact N p (List.mem_filter.mp hp).1
theorem news_uniq (N : News h₀ L h Y) (h1 : (c, o) ∈ Y) (h2 : (c, o') ∈ Y) : o = o' := by
  have e1 := (N _ h1).1
  have e2 := (N _ h2).1
  exact Option.some.inj (e1.symm.trans e2)
theorem IsTie.sep {X : List (Addr × Obj)} (N : News h₀ L h Y) (hc : (c, o) ∈ Y) (ho : ∀ vs k, o ≠ tupOf vs k) (hX : ∀ p ∈ Y, p.1 ≠ c → p ∈ X) : ∀ v x, IsTie Y v x → IsTie X v x := by
  rintro v x ⟨A, k, t1, t2, t3, rfl, h⟩
  refine ⟨A, k, t1, t2, t3, rfl, hX _ h fun e => ?_⟩
  subst e
  exact ho _ _ (news_uniq N hc h)
end
theorem cell_ne {o : Obj} {v : Option Value} (h : o.data = Data.cell v) : ∀ vs k, o ≠ tupOf vs k := fun vs k e => by
  rw [e] at h; cases h
theorem tab_ne {ps : Array Value} : ∀ vs k, tabObj ps ≠ tupOf vs k := fun vs k e => by
  have := congrArg Obj.cls e
  revert this
  unfold tabObj tupOf
  intro e
  cases e
end Mine
end
section
set_option maxRecDepth 100000
set_option maxHeartbeats 8000000
namespace Mine










noncomputable abbrev tup3 (x y z : Value) : Obj := { cls := .type "tuple", data := .seq #[x, y, z] }
theorem tok3 {r t u v : Tok} (h : r = t ∨ r = u ∨ r = v) (h1 : (t : Nat) ≠ 0) (h2 : (u : Nat) ≠ 0) (h3 : (v : Nat) ≠ 0) : (r : Nat) ≠ 0 := by
  rcases h with rfl | rfl | rfl <;> assumption
theorem six {i : Int} (h0 : i.fmod 6 ≠ 0) (h1 : i.fmod 6 ≠ 1) (h2 : i.fmod 6 ≠ 2) (h3 : i.fmod 6 ≠ 3) (h4 : i.fmod 6 ≠ 4) (h5 : i.fmod 6 ≠ 5) : False := by
  rw [Int.fmod_eq_emod_of_nonneg _ (by decide)] at *; (first | lia | omega)
theorem tup_ret {news : List (Addr × Obj)} {D' : Addr} {a b c : UInt64} {t1 t2 t3 : Tok} {F : UInt64 × UInt64 × UInt64} (h : ∀ p ∈ news, p.1 < D') (e : (a, b, c) = F) (n1 : (t1 : Nat) ≠ 0) (n2 : (t2 : Nat) ≠ 0) (n3 : (t3 : Nat) ≠ 0) :
    ∃ D r1 r2 r3, Value.ref D' = .ref D ∧ (∀ p ∈ news, p.1 < D) ∧ ((D', tup3 (.float a t1) (.float b t2) (.float c t3)) :: news) = (D, tup3 (.float F.1 r1) (.float F.2.1 r2) (.float F.2.2 r3)) :: news ∧ (r1 : Nat) ≠ 0 ∧ (r2 : Nat) ≠ 0 ∧ (r3 : Nat) ≠ 0 := by
  subst e; exact ⟨D', t1, t2, t3, rfl, h, rfl, n1, n2, n3⟩
theorem hsv_call (w : World) (news : List (Addr × Obj)) (fh fs fv : UInt64) (t1 t2 t3 : Tok) (z3 : (t3 : Nat) ≠ 0) (hs0 : (Float64.cmp fs 0 == some .eq) = false) (hnan : Float64.isNaN (Float64.mul fh 4618441417868443648) = false) (hinf : Float64.isInf (Float64.mul fh 4618441417868443648) = false)
    (hbig : (Flt.toInt Float64.truncOf (Float64.mul fh 4618441417868443648)).natAbs < 2 ^ 40) :
    Call1 1 w 64 news [.float fh t1, .float fs t2, .float fv t3] (fun v news' => ∃ D r1 r2 r3, v = .ref D ∧ (∀ p ∈ news, p.1 < D) ∧ news' = (D, tup3 (.float (hsvF fh fs fv).1 r1) (.float (hsvF fh fs fv).2.1 r2) (.float (hsvF fh fs fv).2.2 r3)) :: news ∧ (r1 : Nat) ≠ 0 ∧ (r2 : Nat) ≠ 0 ∧ (r3 : Nat) ≠ 0) := by
  have hrow : PySem.Challenge.rw_ty0036_02.most = some 63 := rfl
  unfold Call1
  revert hrow
  k_with_none
  w_top off
  k_with "storeName" => ((k_here; k_dflt (refine' storeX_Lf ?zqeg ?zqed ?zqeo ?zqet ?zqF ?zqN ?_ ?zqa ?zqb; (case zqeg => dsimp only); (case zqed => dsimp only); (case zqeo => dsimp only); (case zqet => dsimp only); (case zqF => k_asm); (case zqN => k_asm); (case zqa => rfl); (case zqb => rfl); k_whole; intro h' F' N'; (try k_sweep))))
  k_with "tb_start" => (k_dflt (first
  | (refine' code_def ?zqk1 ?zqk2 ?zqk3 ?zqk4 ?zqk5 ?zqkA ?zqkF ?zqkK ?zqk6 ?zqk7 ?zqk8 ?zqk9 ?zqkB ?_ ?zqc2 ?zqc3 ?zqc4 ?zqc5; (case zqkA => exact rfl); (case zqkF => exact rfl); (case zqkK => assumption); (case zqk1 => k_asm); (case zqk2 => k_asm); (case zqk3 => k_asm); (case zqk4 => k_asm); (case zqk5 => k_asm); (case zqk6 => k_is); (case zqk7 => k_is); (case zqk8 => ktr_room); (case zqk9 => first | exact BindsTo.of_eq rfl | (refine' kp_binds ?zqkx ?zqke; (case zqkx => k_in); (case zqke => exact fun _ => rfl))); (case zqc5 => decide); (case zqkB => exact locs rfl); (case zqc2 => exact rfl); (case zqc3 => exact rfl); (case zqc4 => exact rfl); k_whole; intro g' L' h' FG' F' N' B' X' T'; (try dsimp only); (try k_lift B'); (try k_fold))
  | (refine' code_defC ?zqk1 ?zqk2 ?zqk3 ?zqk4 ?zqk5 ?zqkA ?zqkF ?zqkK ?zqk6 ?zqk7 ?zqk8 ?zqk9 ?zqkB ?zqkD ?_ ?zqc2 ?zqc3 ?zqc4; (case zqkA => exact rfl); (case zqkF => exact rfl); (case zqkK => assumption); (case zqk1 => k_asm); (case zqk2 => k_asm); (case zqk3 => k_asm); (case zqk4 => k_asm); (case zqk5 => k_asm); (case zqk6 => k_is); (case zqk7 => k_is); (case zqk8 => ktr_room); (case zqk9 => first | exact BindsTo.of_eq rfl | (refine' kp_binds ?zqkx ?zqke; (case zqkx => k_in); (case zqke => exact fun _ => rfl))); (case zqkB => exact rfl); (case zqkD => decide +kernel); (case zqc2 => exact rfl); (case zqc3 => exact rfl); (case zqc4 => exact rfl); k_whole; intro g' L' h' tk' cells' FG' F' N' Y' B' X' T' l1; (try k_lt l1); k_cells Y'; (try simp only [List.cons_append, List.nil_append] at N'); (try dsimp only); (try k_lift B'); (try k_fold))))
  k_with "execs cons" => ((k_here; first | (with_reducible refine gen_toks1 ?_; intro tk' ht') | (with_reducible refine gen_toks2 ?zqhn ?_; (case zqhn => exact Nat.succ_ne_zero _); intro tk' ht')))
  k_with "call builtin:max" => (((with_reducible show wpAny _ _ (call _ [Value.float _ _, Value.float _ _, Value.float _ _]) _ _ _); (rename News _ _ _ _ => N'); (rename Fr _ _ _ _ => F'); refine max_three_ff rfl F' N' ?_; clear N'; intro _ _ _ _ _ _))
  k_with "call builtin:min" => (((with_reducible show wpAny _ _ (call _ [Value.float _ _, Value.float _ _, Value.float _ _]) _ _ _); (rename News _ _ _ _ => N'); (rename Fr _ _ _ _ => F'); refine min_three_ff rfl F' N' ?_; clear N'; intro _ _ _ _ _ _))
  k_with "k_all" => (first | assumption | exact all_ne (by assumption) (by omega) | fail)
  k_fill
  intro hrow
  clear hrow
  intro p loose mean mg mb dp un gd cn cs a ccd cl outer A₀ base h₀ L m s Q E B F X N T hk hdp hun hret
  refine wpAny_call ?_
  k_extra "tb_start"
  refine tok_gen fun tk0 => ?_
  k_steps
  all_goals first
    | (exfalso; (have h8 := hs0); (have h9 := ‹(Float64.cmp fs 0 == some .eq) = true›); rw [h8] at h9; cases h9; done)
    | (exfalso; (have h9 := ‹Float64.isNaN (Float64.mul fh 4618441417868443648) = true›); rw [hnan] at h9; cases h9; done)
    | (exfalso; (have h9 := ‹Float64.isInf (Float64.mul fh 4618441417868443648) = true›); rw [hinf] at h9; cases h9; done)
    | exact (six (by assumption) (by assumption) (by assumption) (by assumption) (by assumption) (by assumption)).elim
    | (exfalso; (have h9 := ‹2 ^ 1024 - 2 ^ 970 ≤ (Flt.toInt Float64.truncOf (Float64.mul fh 4618441417868443648)).natAbs›); exact absurd (Nat.lt_of_le_of_lt h9 hbig) (by decide +kernel))
    | (refine hret _ _ _ _ (tup_ret (by assumption) ?_ ?_ ?_ ?_) (by k_asm) (by k_asm); (next => simp only [hsvF, *, if_true, if_false, Int.reduceEq]); all_goals (first | assumption | exact Nat.succ_ne_zero _))
theorem rgb_call (w : World) (news : List (Addr × Obj)) (fr fg fb : UInt64) (t1 t2 t3 : Tok) (z1 : (t1 : Nat) ≠ 0) (z2 : (t2 : Nat) ≠ 0) (z3 : (t3 : Nat) ≠ 0) (hne : (Float64.cmp (fmin3 fr fg fb) (fmax3 fr fg fb) == some .eq) = false) (hz : Float64.isZero (fmax3 fr fg fb) = false)
    (hz2 : Float64.isZero (Float64.sub (fmax3 fr fg fb) (fmin3 fr fg fb)) = false) :
    Call1 1 w 57 news [.float fr t1, .float fg t2, .float fb t3] (fun v news' => ∃ D r1 r2 r3, v = .ref D ∧ (∀ p ∈ news, p.1 < D) ∧ news' = (D, tup3 (.float (rgbF fr fg fb).1 r1) (.float (rgbF fr fg fb).2.1 r2) (.float (rgbF fr fg fb).2.2 r3)) :: news ∧ (r1 : Nat) ≠ 0 ∧ (r2 : Nat) ≠ 0 ∧ (r3 : Nat) ≠ 0) := by
  have hrow : PySem.Challenge.rw_ty0036_02.most = some 63 := rfl
  unfold Call1
  revert hrow
  k_with_none
  w_top off
  k_with "storeName" => ((k_here; k_dflt (refine' storeX_Lf ?zqeg ?zqed ?zqeo ?zqet ?zqF ?zqN ?_ ?zqa ?zqb; (case zqeg => dsimp only); (case zqed => dsimp only); (case zqeo => dsimp only); (case zqet => dsimp only); (case zqF => k_asm); (case zqN => k_asm); (case zqa => rfl); (case zqb => rfl); k_whole; intro h' F' N'; (try k_sweep))))
  k_with "tb_start" => (k_dflt (first
  | (refine' code_def ?zqk1 ?zqk2 ?zqk3 ?zqk4 ?zqk5 ?zqkA ?zqkF ?zqkK ?zqk6 ?zqk7 ?zqk8 ?zqk9 ?zqkB ?_ ?zqc2 ?zqc3 ?zqc4 ?zqc5; (case zqkA => exact rfl); (case zqkF => exact rfl); (case zqkK => assumption); (case zqk1 => k_asm); (case zqk2 => k_asm); (case zqk3 => k_asm); (case zqk4 => k_asm); (case zqk5 => k_asm); (case zqk6 => k_is); (case zqk7 => k_is); (case zqk8 => ktr_room); (case zqk9 => first | exact BindsTo.of_eq rfl | (refine' kp_binds ?zqkx ?zqke; (case zqkx => k_in); (case zqke => exact fun _ => rfl))); (case zqc5 => decide); (case zqkB => exact locs rfl); (case zqc2 => exact rfl); (case zqc3 => exact rfl); (case zqc4 => exact rfl); k_whole; intro g' L' h' FG' F' N' B' X' T'; (try dsimp only); (try k_lift B'); (try k_fold))
  | (refine' code_defC ?zqk1 ?zqk2 ?zqk3 ?zqk4 ?zqk5 ?zqkA ?zqkF ?zqkK ?zqk6 ?zqk7 ?zqk8 ?zqk9 ?zqkB ?zqkD ?_ ?zqc2 ?zqc3 ?zqc4; (case zqkA => exact rfl); (case zqkF => exact rfl); (case zqkK => assumption); (case zqk1 => k_asm); (case zqk2 => k_asm); (case zqk3 => k_asm); (case zqk4 => k_asm); (case zqk5 => k_asm); (case zqk6 => k_is); (case zqk7 => k_is); (case zqk8 => ktr_room); (case zqk9 => first | exact BindsTo.of_eq rfl | (refine' kp_binds ?zqkx ?zqke; (case zqkx => k_in); (case zqke => exact fun _ => rfl))); (case zqkB => exact rfl); (case zqkD => decide +kernel); (case zqc2 => exact rfl); (case zqc3 => exact rfl); (case zqc4 => exact rfl); k_whole; intro g' L' h' tk' cells' FG' F' N' Y' B' X' T' l1; (try k_lt l1); k_cells Y'; (try simp only [List.cons_append, List.nil_append] at N'); (try dsimp only); (try k_lift B'); (try k_fold))))
  k_with "execs cons" => ((k_here; first | (with_reducible refine gen_toks1 ?_; intro tk' ht') | (with_reducible refine gen_toks2 ?zqhn ?_; (case zqhn => exact Nat.succ_ne_zero _); intro tk' ht')))
  k_with "call builtin:max" => (((with_reducible show wpAny _ _ (call _ [Value.float _ _, Value.float _ _, Value.float _ _]) _ _ _); (rename News _ _ _ _ => N'); (rename Fr _ _ _ _ => F'); refine max_three_ff rfl F' N' ?_; clear N'; intro _ _ _ _ _ _))
  k_with "call builtin:min" => (((with_reducible show wpAny _ _ (call _ [Value.float _ _, Value.float _ _, Value.float _ _]) _ _ _); (rename News _ _ _ _ => N'); (rename Fr _ _ _ _ => F'); refine min_three_ff rfl F' N' ?_; clear N'; intro _ _ _ _ _ _))
  k_with "k_all" => (first | assumption | exact all_ne (by assumption) (by omega) | fail)
  k_fill
  intro hrow
  clear hrow
  intro p loose mean mg mb dp un gd cn cs a ccd cl outer A₀ base h₀ L m s Q E B F X N T hk hdp hun hret
  refine wpAny_call ?_
  k_extra "tb_start"
  refine tok_gen fun tk0 => ?_
  k_steps
  all_goals first
    | (exfalso; (have h9 := ‹(Float64.cmp (fmin3 fr fg fb) (fmax3 fr fg fb) == some .eq) = true›); rw [hne] at h9; cases h9; done)
    | (exfalso; (have h9 := ‹Float64.isZero (fmax3 fr fg fb) = true›); rw [hz] at h9; cases h9; done)
    | (exfalso; (have h9 := ‹Float64.isZero (Float64.sub (fmax3 fr fg fb) (fmin3 fr fg fb)) = true›); rw [hz2] at h9; cases h9; done)
    | (refine hret _ _ _ _ (tup_ret (by assumption) ?_ ?_ ?_ ?_) (by k_asm) (by k_asm); (next => simp only [rgbF, *, if_true, if_false, Bool.false_eq_true]); all_goals (first | assumption | exact Nat.succ_ne_zero _ | exact tok3 (by assumption) z1 z2 z3))
end Mine
end
section
set_option maxRecDepth 100000
set_option maxHeartbeats 8000000
namespace Mine








theorem hsvQ_call (w : World) (news : List (Addr × Obj)) (fh fs fv : UInt64) (t1 t2 t3 : Tok) (n share val : Int) (z3 : (t3 : Nat) ≠ 0) (hh : FQ fh (n * 2 ^ 11)) (hs : FQ fs (share * 2 ^ 18)) (hv : FQ fv (val * 2 ^ 17))
    (hn : 0 ≤ n ∧ n < 1024) (h1 : 1 ≤ share ∧ share ≤ 4) (h2 : 1 ≤ val ∧ val ≤ 8) :
    Call1 1 w 64 news [.float fh t1, .float fs t2, .float fv t3] (fun v news' => ∃ D x y z r1 r2 r3, v = .ref D ∧ (∀ p ∈ news, p.1 < D) ∧ news' = (D, tup3 (.float x r1) (.float y r2) (.float z r3)) :: news ∧
      FQ x (val * (1024 - share * (colX n).1) * 2 ^ 7) ∧ FQ y (val * (1024 - share * (colX n).2.1) * 2 ^ 7) ∧ FQ z (val * (1024 - share * (colX n).2.2) * 2 ^ 7) ∧ (r1 : Nat) ≠ 0 ∧ (r2 : Nat) ≠ 0 ∧ (r3 : Nat) ≠ 0) := by
  obtain ⟨q1, e1⟩ := hsv_six hh hn
  obtain ⟨_, q2, q3⟩ := fq_finite q1
  obtain ⟨a1, a2, a3⟩ := hsv_fq hh hs hv hn h1 h2
  refine (hsv_call w news fh fs fv t1 t2 t3 z3 (by rw [fq_cmp hs fq_lit0, cmp_eqT, decide_eq_false (by omega)]) q2 q3 (by rw [e1]; omega)).weak (fun _ h => h) fun v n' hr => ?_
  obtain ⟨D, r1, r2, r3, e, l, rfl, n1, n2, n3⟩ := hr
  exact ⟨_, ⟨D, _, _, _, r1, r2, r3, e, l, rfl, a1, a2, a3, n1, n2, n3⟩, fun _ h => h⟩
theorem rgbQ_call (w : World) (news : List (Addr × Obj)) (fr fg fb : UInt64) (t1 t2 t3 : Tok) (n share val : Int) (z1 : (t1 : Nat) ≠ 0) (z2 : (t2 : Nat) ≠ 0) (z3 : (t3 : Nat) ≠ 0) (hr : FQ fr (val * (1024 - share * (colX n).1) * 2 ^ 7)) (hg : FQ fg (val * (1024 - share * (colX n).2.1) * 2 ^ 7)) (hb : FQ fb (val * (1024 - share * (colX n).2.2) * 2 ^ 7))
    (hn : 0 ≤ n ∧ n < 1024) (h1 : 1 ≤ share ∧ share ≤ 4) (h2 : 1 ≤ val ∧ val ≤ 8) :
    Call1 1 w 57 news [.float fr t1, .float fg t2, .float fb t3] (fun v news' => ∃ D x y z r1 r2 r3, v = .ref D ∧ (∀ p ∈ news, p.1 < D) ∧ news' = (D, tup3 (.float x r1) (.float y r2) (.float z r3)) :: news ∧
      FQ x (n % 512 * 2 ^ 11) ∧ FQ y (share * 2 ^ 18) ∧ FQ z (val * 2 ^ 17) ∧ (r1 : Nat) ≠ 0 ∧ (r2 : Nat) ≠ 0 ∧ (r3 : Nat) ≠ 0) := by
  obtain ⟨a1, a2, a3, a4, a5, a6⟩ := rgb_fq hr hg hb hn.1 h1 h2
  refine (rgb_call w news fr fg fb t1 t2 t3 z1 z2 z3 a4 a5 a6).weak (fun _ h => h) fun v n' hr => ?_
  obtain ⟨D, r1, r2, r3, e, l, rfl, n1, n2, n3⟩ := hr
  exact ⟨_, ⟨D, _, _, _, r1, r2, r3, e, l, rfl, a1, a2, a3, n1, n2, n3⟩, fun _ h => h⟩
end Mine
end
section
namespace Mine
/-- the sort's questions answered by one plain order -/
noncomputable def kOk {α : Type} (N : Nat) (lt : Nat → Nat → Bool) (Q : α → Prop) : KasT α → Prop
  | .ret a => Q a
  | .ask i j k => (i < N ∧ j < N) ∧ kOk N lt Q (k (lt i j))
theorem kOk_bind {α β : Type} {N : Nat} {lt : Nat → Nat → Bool} {f : α → KasT β} {Q : β → Prop} : ∀ (t : KasT α), kOk N lt (fun a => kOk N lt Q (f a)) t → kOk N lt Q (t.bind f)
  | .ret _, h => h
  | .ask i j k, h => ⟨h.1, kOk_bind (k (lt i j)) h.2⟩
theorem kOk_mono {α : Type} {N : Nat} {lt : Nat → Nat → Bool} {Q Q' : α → Prop} (hq : ∀ a, Q a → Q' a) : ∀ (t : KasT α), kOk N lt Q t → kOk N lt Q' t
  | .ret _, h => hq _ h
  | .ask i j k, h => ⟨h.1, kOk_mono hq (k (lt i j)) h.2⟩
theorem kOk_wp {α : Type} {N : Nat} {lt : Nat → Nat → Bool} {cmp : Nat → Nat → (Bool → Shared → Prop) → Shared → Prop} {s : Shared} (hc : ∀ i j C, i < N → j < N → C (lt i j) s → cmp i j C s) {Q : α → Shared → Prop} : ∀ (t : KasT α), kOk N lt (fun a => Q a s) t → t.kasWp cmp Q s
  | .ret _, h => h
  | .ask i j k, h => hc i j _ h.1.1 h.1.2 (kOk_wp hc (k (lt i j)) h.2)
theorem mir_anti {m n i j : Nat} (hij : i < j) (hj : j < n) : m + n - 1 - j < m + n - 1 - i := by omega
theorem mir_ge {m n i : Nat} (hi : i < n) : m ≤ m + n - 1 - i := by omega
theorem mir_lt2 {m n i : Nat} (h0 : 0 < n) (h : m ≤ i) : m + n - 1 - i < n := by omega
theorem pred_lt {n : Nat} (h : 0 < n) : n - 1 < n := Nat.sub_lt h Nat.zero_lt_one
theorem mir_d1 {n q : Nat} (h : q + 1 ≤ n) : n - (q + 1) ≤ n - (q + 1) + n - 1 - (n - 1) := mir_ge (pred_lt (Nat.lt_of_lt_of_le (Nat.succ_pos q) h))
theorem mir_d2 {n q : Nat} (h : q + 1 ≤ n) : n - (q + 1) + n - 1 - (n - 1) < n := mir_lt2 (Nat.lt_of_lt_of_le (Nat.succ_pos q) h) (Nat.sub_le_sub_left (Nat.le_add_left 1 q) n)
theorem le_neI {a b c : Int} (h2 : b ≤ c) (h1 : a ≤ b) (h : ¬ a = c) : a < c := Int.lt_iff_le_and_ne.mpr ⟨Int.le_trans h1 h2, h⟩
theorem mir_z {n N i : Nat} (h1 : 1 ≤ N) (h : n ≤ N) : 0 + n - 1 - i < N := by omega
theorem mid_bd {l r : Nat} (h : l < r) : l ≤ (l + r) / 2 ∧ (l + r) / 2 < r :=
  ⟨(Nat.le_div_iff_mul_le (by decide)).mpr (by rw [Nat.mul_two]; exact Nat.add_le_add_left (Nat.le_of_lt h) l), Nat.div_lt_of_lt_mul (by rw [Nat.two_mul]; exact Nat.add_lt_add_right h r)⟩
theorem sub_a {f l r m : Nat} (h1 : l ≤ m) (h2 : m < r) (h : r - l ≤ f + 1) : m - l ≤ f := Nat.le_of_lt_succ (Nat.lt_of_lt_of_le (Nat.sub_lt_sub_right h1 h2) h)
theorem sub_b {f l r m : Nat} (h1 : l ≤ m) (h2 : m < r) (h : r - l ≤ f + 1) : r - (m + 1) ≤ f := Nat.le_of_lt_succ (Nat.lt_of_lt_of_le (Nat.sub_lt_sub_left (Nat.lt_of_le_of_lt h1 h2) (Nat.lt_succ_of_le h1)) h)
theorem sub1_lt {a b c : Nat} (h : c < a) (hab : a < b) : a - 1 < b - 1 := Nat.sub_lt_sub_right (Nat.lt_of_le_of_lt (Nat.zero_le c) h) hab
theorem sub1_ltk {a c k : Nat} (h : c < a) (ha : a < k + 1) : a - 1 < k := Nat.lt_of_lt_of_le (Nat.sub_lt (Nat.lt_of_le_of_lt (Nat.zero_le c) h) Nat.zero_lt_one) (Nat.le_of_lt_succ ha)
theorem le_antiI {a b c : Int} (h1 : a ≤ b) (h2 : b ≤ c) (h : ¬ a < c) : b = c := Int.le_antisymm h2 (Int.le_trans (Int.not_lt.mp h) h1)
theorem s1w : True := by
  k_with "s1" => (first
    | assumption
    | exact Nat.le_refl _
    | exact Nat.zero_le _
    | exact Nat.sub_le _ _
    | exact (by assumption : _ ∧ _).1
    | exact (by assumption : _ ∧ _).2
    | exact Nat.le_of_lt (by assumption)
    | exact Int.le_of_lt (by assumption)
    | exact Nat.le_trans (by assumption) (by assumption)
    | exact Nat.lt_of_lt_of_le (by assumption) (by assumption)
    | exact Nat.lt_of_le_of_lt (by assumption) (by assumption)
    | exact Nat.lt_trans (by assumption) (by assumption)
    | exact Int.le_trans (by assumption) (by assumption)
    | exact Int.lt_of_lt_of_le (by assumption) (by assumption)
    | exact Int.lt_of_le_of_lt (by assumption) (by assumption)
    | exact Int.not_lt.mp (by assumption)
    | exact Int.lt_iff_le_and_ne.mpr ⟨by assumption, by assumption⟩
    | exact le_antiI (by assumption) (by assumption) (by assumption)
    | exact mir_anti (by assumption) (by assumption)
    | exact mir_ge (by assumption)
    | exact mir_ge (Nat.lt_trans (by assumption) (by assumption))
    | exact mir_d1 (by assumption)
    | exact mir_d2 (by assumption)
    | exact mir_lt2 (Nat.lt_of_lt_of_le (Nat.succ_pos _) (by assumption)) (by first | assumption | exact Nat.zero_le _ | exact And.left (by assumption) | exact Nat.le_of_lt (Nat.lt_of_le_of_lt (by assumption) (by assumption)))
    | exact mir_lt2 (Nat.lt_of_le_of_lt (Nat.zero_le _) (by assumption)) (by first | assumption | exact And.left (by assumption))
    | exact Nat.sub_le_sub_left (Nat.le_add_left _ _) _
    | exact pred_lt (Nat.lt_of_lt_of_le (Nat.succ_pos _) (by assumption))
    | exact Nat.lt_of_lt_of_le (pred_lt (Nat.lt_of_lt_of_le (Nat.succ_pos _) (by assumption))) (by assumption)
    | exact Int.lt_trans (by assumption) (by assumption)
    | exact le_neI (by assumption) (by assumption) (by assumption)
    | exact Int.le_antisymm (Int.not_lt.mp (by assumption)) (Int.not_lt.mp (by assumption))
    | exact Int.le_trans (by assumption) (Int.not_lt.mp (by assumption))
    | exact Int.le_of_eq (And.left (by assumption))
    | exact mir_z (by assumption) (by assumption)
    | exact sub_a (by assumption) (by assumption) (by assumption)
    | exact sub_b (by assumption) (by assumption) (by assumption)
    | exact sub1_lt (And.left (by assumption)) (by assumption)
    | exact sub1_lt (by assumption) (by assumption)
    | exact sub1_ltk (And.left (by assumption)) (by assumption)
    | exact Nat.sub_sub_self (by assumption)
    | exact Nat.le_sub_one_of_lt (by assumption)
    | lia
    | omega)
  trivial
section
variable {key : Nat → Int} {N : Nat} {p : Array Nat}
noncomputable def kLt (key : Nat → Int) (i j : Nat) : Bool := decide (key i < key j)
/-- the first m places are the first m numbers in some order, the others as they came -/
noncomputable def PreN (N : Nat) (p : Array Nat) (m : Nat) : Prop := p.size = N ∧ (∀ i, m ≤ i → i < N → p.getD i 0 = i) ∧ ∀ i, i < m → p.getD i 0 < m
noncomputable def Lx (key : Nat → Int) (a b : Nat) : Prop := key a < key b ∨ key a = key b ∧ a < b
noncomputable def Stb (key : Nat → Int) (p : Array Nat) (m : Nat) : Prop := ∀ i j, i < j → j < m → Lx key (p.getD i 0) (p.getD j 0)
theorem PreN.lt {m : Nat} (P : PreN N p m) (hm : m ≤ N) {i : Nat} (hi : i < N) : p.getD i 0 < N := by
  by_cases h : i < m
  · exact Nat.lt_of_lt_of_le (P.2.2 i h) hm
  · rw [P.2.1 i (Nat.le_of_not_lt h) hi]; exact hi
theorem getD_q (p : Array Nat) (i : Nat) : p.getD i 0 = (p[i]?).getD 0 := by simp
theorem rev_at {i j : Nat} (hj : j ≤ p.size) (k : Nat) : (kas_rev p i j).getD k 0 = if i ≤ k ∧ k < j then p.getD (i + j - 1 - k) 0 else p.getD k 0 := by
  rw [getD_q, getD_q, getD_q]
  show ((mirror p i j ((j - i) / 2))[k]?).getD 0 = _
  rw [getElem?_mirror_all hj]
  split <;> rfl
theorem bub_at {src d : Nat} (hs : src < p.size) (hd : d ≤ src) (k : Nat) : (bubble p src d).getD k 0 = if k = src - d then p.getD src 0 else if src - d < k ∧ k ≤ src then p.getD (k - 1) 0 else p.getD k 0 := by
  rw [getD_q, getD_q, getD_q, getD_q, getElem?_bubble hs d hd]
  split
  · rfl
  · split <;> rfl
theorem preN_range : PreN N (List.toArray (List.range N)) 1 ∨ N = 0 := by
  by_cases h : N = 0
  · exact .inr h
  · refine .inl ⟨by simp, fun i _ hi => by rw [getD_q]; simp [hi], fun i hi => ?_⟩
    obtain rfl : i = 0 := by (k_extra "s1")
    have : 0 < N := by (k_extra "s1")
    rw [getD_q]; simp [this]
theorem asc_ok : ∀ (f n : Nat), 1 ≤ n → n + f = N → PreN N p n → Stb key p n → kOk N (kLt key) (fun m => n ≤ m ∧ m ≤ N ∧ PreN N p m ∧ Stb key p m ∧ (m < N → key (p.getD m 0) < key (p.getD (m - 1) 0))) (kas_asc p f n)
  | 0, n, hn, hf, P, S => ⟨Nat.le_refl _, by (k_extra "s1"), P, S, fun h => by (k_extra "s1")⟩
  | f + 1, n, hn, hf, P, S => by
    refine ⟨⟨P.lt (by (k_extra "s1")) (by (k_extra "s1")), P.lt (by (k_extra "s1")) (by (k_extra "s1"))⟩, ?_⟩
    show kOk N _ _ (if kLt key (p.getD n 0) (p.getD (n - 1) 0) = true then KasT.ret n else kas_asc p f (n + 1))
    by_cases h : kLt key (p.getD n 0) (p.getD (n - 1) 0) = true
    · rw [if_pos h]
      exact ⟨Nat.le_refl _, by (k_extra "s1"), P, S, fun _ => of_decide_eq_true h⟩
    · rw [if_neg h]
      have h' : key (p.getD (n - 1) 0) ≤ key (p.getD n 0) := by
        have : ¬ key (p.getD n 0) < key (p.getD (n - 1) 0) := fun q => h (decide_eq_true q)
        (k_extra "s1")
      have en := P.2.1 n (Nat.le_refl _) (by (k_extra "s1"))
      refine kOk_mono ?_ _ (asc_ok f (n + 1) (by (k_extra "s1")) (by (k_extra "s1")) ⟨P.1, fun i hi hN => P.2.1 i (by (k_extra "s1")) hN, fun i hi => ?_⟩ ?_)
      · rintro m ⟨a, b⟩
        exact ⟨by (k_extra "s1"), b⟩
      · by_cases e : i = n
        · rw [e, en]; (k_extra "s1")
        · have := P.2.2 i (by (k_extra "s1")); (k_extra "s1")
      · intro i j hij hj
        by_cases e : j = n
        · subst e
          have h1 : p.getD i 0 < p.getD j 0 := by rw [en]; exact P.2.2 i hij
          have h2 : key (p.getD i 0) ≤ key (p.getD (j - 1) 0) := by
            by_cases e : i = j - 1
            · rw [e]; exact Int.le_refl _
            · rcases S i (j - 1) (by (k_extra "s1")) (by (k_extra "s1")) with q | q <;> (k_extra "s1")
          by_cases e3 : key (p.getD i 0) = key (p.getD j 0)
          · exact .inr ⟨e3, h1⟩
          · exact .inl (by (k_extra "s1"))
        · exact S i j hij (by (k_extra "s1"))
/-- a falling run: like keys lie the wrong way round -/
noncomputable def Fal (key : Nat → Int) (N : Nat) (p : Array Nat) (n : Nat) : Prop := PreN N p n ∧ ∀ i j, i < j → j < n → key (p.getD j 0) < key (p.getD i 0) ∨ key (p.getD i 0) = key (p.getD j 0) ∧ p.getD j 0 < p.getD i 0
/-- a falling run whose last like keys lie as they came -/
noncomputable def FalQ (key : Nat → Int) (N : Nat) (p : Array Nat) (n q : Nat) : Prop :=
  PreN N p n ∧ q + 1 ≤ n ∧ (∀ i j, i < j → j < n → i < n - (q + 1) → key (p.getD j 0) < key (p.getD i 0) ∨ key (p.getD i 0) = key (p.getD j 0) ∧ p.getD j 0 < p.getD i 0) ∧
  (∀ i, i < n - (q + 1) → key (p.getD (n - 1) 0) < key (p.getD i 0)) ∧ ∀ i, n - (q + 1) ≤ i → i < n → key (p.getD i 0) = key (p.getD (n - 1) 0) ∧ p.getD i 0 = i
theorem preN_rev {i n : Nat} (P : PreN N p n) (hn : n ≤ N) : PreN N (kas_rev p i n) n := by
  have hs : n ≤ p.size := by rw [P.1]; exact hn
  refine ⟨(kas_rev_size i n).trans P.1, fun k hk hN => ?_, fun k hk => ?_⟩
  · rw [rev_at hs, if_neg (by (k_extra "s1"))]; exact P.2.1 k hk hN
  · rw [rev_at hs]
    split
    · exact P.2.2 _ (by (k_extra "s1"))
    · exact P.2.2 _ hk
theorem fal_rev {n q : Nat} (H : FalQ key N p n q) (hn : n ≤ N) : Fal key N (kas_rev p (n - (q + 1)) n) n := by
  obtain ⟨P, hq, h1, h2, h3⟩ := H
  have hs : n ≤ p.size := by rw [P.1]; exact hn
  refine ⟨preN_rev P hn, fun i j hij hj => ?_⟩
  by_cases hi : n - (q + 1) ≤ i
  · rw [(rev_at hs i).trans (if_pos ⟨hi, by (k_extra "s1")⟩), (rev_at hs j).trans (if_pos ⟨by (k_extra "s1"), hj⟩)]
    have a := h3 (n - (q + 1) + n - 1 - i) (by (k_extra "s1")) (by (k_extra "s1"))
    have b := h3 (n - (q + 1) + n - 1 - j) (by (k_extra "s1")) (by (k_extra "s1"))
    exact .inr ⟨by rw [a.1, b.1], by rw [a.2, b.2]; (k_extra "s1")⟩
  · rw [(rev_at (i := n - (q + 1)) hs i).trans (if_neg (by (k_extra "s1")))]
    by_cases hj' : n - (q + 1) ≤ j
    · rw [(rev_at hs j).trans (if_pos ⟨hj', hj⟩)]
      have b := h3 (n - (q + 1) + n - 1 - j) (by (k_extra "s1")) (by (k_extra "s1"))
      rw [b.1]
      exact .inl (h2 i (by (k_extra "s1")))
    · rw [(rev_at (i := n - (q + 1)) hs j).trans (if_neg (by (k_extra "s1")))]
      exact h1 i j hij hj (by (k_extra "s1"))
theorem fal_q0 {n : Nat} (H : FalQ key N p n 0) : Fal key N p n := by
  obtain ⟨P, hq, h1, h2, h3⟩ := H
  refine ⟨P, fun i j hij hj => ?_⟩
  exact h1 i j hij hj (by (k_extra "s1"))
theorem fal_next {n : Nat} (H : Fal key N p n) (h1 : 1 ≤ n) (hn : n < N) (h : key (p.getD n 0) < key (p.getD (n - 1) 0)) : FalQ key N p (n + 1) 0 := by
  obtain ⟨P, hf⟩ := H
  have en := P.2.1 n (Nat.le_refl _) hn
  have hk : ∀ i, i < n → key (p.getD n 0) < key (p.getD i 0) := fun i hi => by
    by_cases e : i = n - 1
    · rw [e]; exact h
    · rcases hf i (n - 1) (by (k_extra "s1")) (by (k_extra "s1")) with q | q <;> (k_extra "s1")
  refine ⟨⟨P.1, fun i hi hN => P.2.1 i (by (k_extra "s1")) hN, fun i hi => ?_⟩, by (k_extra "s1"), fun i j hij hj hi => ?_, fun i hi => hk i (by (k_extra "s1")), fun i hi hi' => ?_⟩
  · by_cases e : i = n
    · rw [e, en]; (k_extra "s1")
    · have := P.2.2 i (by (k_extra "s1")); (k_extra "s1")
  · by_cases e : j = n
    · rw [e]; exact .inl (hk i (by (k_extra "s1")))
    · exact hf i j hij (by (k_extra "s1"))
  · obtain rfl : i = n := by (k_extra "s1")
    exact ⟨rfl, en⟩
theorem desc_ok : ∀ (f : Nat) (p : Array Nat) (n q : Nat), n + f = N → FalQ key N p n q → kOk N (kLt key) (fun r => n ≤ r.2.1 ∧ r.2.1 ≤ N ∧ FalQ key N r.1 r.2.1 r.2.2) (kas_desc f p n q)
  | 0, p, n, q, hf, H => ⟨Nat.le_refl _, (by show n ≤ N; (k_extra "s1")), H⟩
  | f + 1, p, n, q, hf, H => by
    have up : ∀ {q' : Nat} {p' : Array Nat}, kOk N (kLt key) (fun r => n + 1 ≤ r.2.1 ∧ r.2.1 ≤ N ∧ FalQ key N r.1 r.2.1 r.2.2) (kas_desc f p' (n + 1) q') → kOk N (kLt key) (fun r => n ≤ r.2.1 ∧ r.2.1 ≤ N ∧ FalQ key N r.1 r.2.1 r.2.2) (kas_desc f p' (n + 1) q') := fun h => kOk_mono (fun r ⟨a, b⟩ => ⟨Nat.le_of_succ_le a, b⟩) _ h
    have hq := H.2.1
    have hs : n ≤ p.size := by rw [H.1.1]; (k_extra "s1")
    refine ⟨⟨H.1.lt (by (k_extra "s1")) (by (k_extra "s1")), H.1.lt (by (k_extra "s1")) (by (k_extra "s1"))⟩, ?_⟩
    show kOk N _ _ (if kLt key (p.getD n 0) (p.getD (n - 1) 0) = true then (if q > 0 then kas_desc f (kas_rev p (n - (q + 1)) n) (n + 1) 0 else kas_desc f p (n + 1) 0)
      else KasT.ask (p.getD (n - 1) 0) (p.getD n 0) fun d => if d = true then KasT.ret (p, n, q) else kas_desc f p (n + 1) (q + 1))
    by_cases h : kLt key (p.getD n 0) (p.getD (n - 1) 0) = true
    · rw [if_pos h]
      have h' := of_decide_eq_true h
      by_cases hq0 : q > 0
      · rw [if_pos hq0]
        refine up (desc_ok f _ (n + 1) 0 (by (k_extra "s1")) (fal_next (fal_rev H (by (k_extra "s1"))) (by (k_extra "s1")) (by (k_extra "s1")) ?_))
        rw [rev_at hs, rev_at hs, if_neg (by (k_extra "s1")), if_pos ⟨by (k_extra "s1"), by (k_extra "s1")⟩]
        rw [(H.2.2.2.2 _ (show n - (q + 1) ≤ n - (q + 1) + n - 1 - (n - 1) by (k_extra "s1")) (by (k_extra "s1"))).1]
        exact h'
      · rw [if_neg hq0]
        obtain rfl : q = 0 := by (k_extra "s1")
        exact up (desc_ok f _ (n + 1) 0 (by (k_extra "s1")) (fal_next (fal_q0 H) (by (k_extra "s1")) (by (k_extra "s1")) h'))
    · rw [if_neg h]
      have h' : ¬ key (p.getD n 0) < key (p.getD (n - 1) 0) := fun q => h (decide_eq_true q)
      refine ⟨⟨H.1.lt (by (k_extra "s1")) (by (k_extra "s1")), H.1.lt (by (k_extra "s1")) (by (k_extra "s1"))⟩, ?_⟩
      show kOk N _ _ (if kLt key (p.getD (n - 1) 0) (p.getD n 0) = true then KasT.ret (p, n, q) else kas_desc f p (n + 1) (q + 1))
      by_cases h2 : kLt key (p.getD (n - 1) 0) (p.getD n 0) = true
      · rw [if_pos h2]
        exact ⟨Nat.le_refl _, (by show n ≤ N; (k_extra "s1")), H⟩
      · rw [if_neg h2]
        have h2' : ¬ key (p.getD (n - 1) 0) < key (p.getD n 0) := fun q => h2 (decide_eq_true q)
        have he : key (p.getD n 0) = key (p.getD (n - 1) 0) := by (k_extra "s1")
        obtain ⟨P, _, g1, g2, g3⟩ := H
        have en := P.2.1 n (Nat.le_refl _) (by (k_extra "s1"))
        have hb : n + 1 - (q + 1 + 1) = n - (q + 1) := by (k_extra "s1")
        refine up (desc_ok f p (n + 1) (q + 1) (by (k_extra "s1")) ⟨⟨P.1, fun i hi hN => P.2.1 i (by (k_extra "s1")) hN, fun i hi => ?_⟩, by (k_extra "s1"), fun i j hij hj hi => ?_, fun i hi => ?_, fun i hi hi' => ?_⟩)
        · by_cases e : i = n
          · rw [e, en]; (k_extra "s1")
          · have := P.2.2 i (by (k_extra "s1")); (k_extra "s1")
        · by_cases e : j = n
          · rw [e, he]; exact .inl (g2 i (by (k_extra "s1")))
          · exact g1 i j hij (by (k_extra "s1")) (by (k_extra "s1"))
        · rw [Nat.add_sub_cancel, he]; exact g2 i (by (k_extra "s1"))
        · rw [Nat.add_sub_cancel]
          by_cases e : i = n
          · rw [e]; exact ⟨rfl, en⟩
          · rw [he]; exact g3 i (by (k_extra "s1")) (by (k_extra "s1"))
noncomputable def CntN (key : Nat → Int) (N : Nat) (r : Nat × Array Nat) : Prop := 1 ≤ r.1 ∧ r.1 ≤ N ∧ PreN N r.2 r.1 ∧ Stb key r.2 r.1
theorem tail3_ok {n : Nat} (H : Fal key N p n) (h1 : 1 ≤ n) (hn : n ≤ N) : kOk N (kLt key) (CntN key N) (kas_tail3 n N p) := by
  have hs : n ≤ p.size := by rw [H.1.1]; exact hn
  refine kOk_bind _ (kOk_mono ?_ _ (asc_ok (key := key) (N := N) (p := kas_rev p 0 n) (N - n) n h1 (by (k_extra "s1")) (preN_rev H.1 hn) ?_))
  · rintro m ⟨a, b, c, d, _⟩
    exact ⟨by show 1 ≤ m; (k_extra "s1"), b, c, d⟩
  · intro i j hij hj
    rw [rev_at hs, rev_at hs, if_pos ⟨by (k_extra "s1"), by (k_extra "s1")⟩, if_pos ⟨by (k_extra "s1"), hj⟩]
    rcases H.2 (0 + n - 1 - j) (0 + n - 1 - i) (by (k_extra "s1")) (by (k_extra "s1")) with q | q
    · exact .inl q
    · exact .inr ⟨q.1.symm, q.2⟩
theorem descPart_ok {n : Nat} (H : Fal key N p n) (h1 : 1 ≤ n) (hn : n < N) (h : key (p.getD n 0) < key (p.getD (n - 1) 0)) : kOk N (kLt key) (CntN key N) (kas_descPart n N p) := by
  refine kOk_bind _ (kOk_mono ?_ _ (desc_ok (N - (n + 1)) p (n + 1) 0 (by (k_extra "s1")) (fal_next H h1 hn h)))
  rintro ⟨p', m, q⟩ ⟨a, b, c⟩
  dsimp only at a b c ⊢
  by_cases hq : q > 0
  · rw [if_pos hq]; exact tail3_ok (fal_rev c b) (by (k_extra "s1")) b
  · rw [if_neg hq]
    obtain rfl : q = 0 := by (k_extra "s1")
    exact tail3_ok (fal_q0 c) (by (k_extra "s1")) b
theorem count_ok (P : PreN N p 1) (hid : ∀ i, i < N → p.getD i 0 = i) (hN : 1 ≤ N) : kOk N (kLt key) (CntN key N) (kas_count N p) := by
  refine kOk_bind _ (kOk_mono ?_ _ (asc_ok (key := key) (N - 1) 1 (Nat.le_refl _) (by (k_extra "s1")) P (fun i j hij hj => by (k_extra "s1"))))
  rintro n ⟨a, b, c, d, e⟩
  by_cases e1 : (n == N) = true
  · rw [if_pos e1]; exact ⟨a, b, c, d⟩
  · rw [if_neg e1]
    have hlt : n < N := by
      have : n ≠ N := fun q => e1 (by rw [q]; exact beq_self_eq_true _)
      (k_extra "s1")
    have hs : n ≤ p.size := by rw [c.1]; exact b
    by_cases e2 : n > 1
    · rw [if_pos e2]
      refine ⟨⟨c.lt b (by (k_extra "s1")), c.lt b (by (k_extra "s1"))⟩, ?_⟩
      show kOk N _ _ (if kLt key (p.getD 0 0) (p.getD (n - 1) 0) = true then KasT.ret (n, p) else kas_descPart n N (kas_rev p 0 n))
      by_cases h : kLt key (p.getD 0 0) (p.getD (n - 1) 0) = true
      · rw [if_pos h]; exact ⟨a, b, c, d⟩
      · rw [if_neg h]
        have h' : ¬ key (p.getD 0 0) < key (p.getD (n - 1) 0) := fun q => h (decide_eq_true q)
        have le : ∀ i j, i ≤ j → j < n → key (p.getD i 0) ≤ key (p.getD j 0) := fun i j hij hj => by
          by_cases e : i = j
          · rw [e]; exact Int.le_refl _
          · rcases d i j (by (k_extra "s1")) hj with q | q <;> (k_extra "s1")
        have eq : ∀ i, i < n → key (p.getD i 0) = key (p.getD (n - 1) 0) := fun i hi => by
          have h1 := le 0 i (Nat.zero_le _) hi
          have h2 := le i (n - 1) (by (k_extra "s1")) (by (k_extra "s1"))
          (k_extra "s1")
        refine descPart_ok ⟨preN_rev c b, fun i j hij hj => ?_⟩ a hlt ?_
        · rw [(rev_at hs i).trans (if_pos ⟨by (k_extra "s1"), by (k_extra "s1")⟩), (rev_at hs j).trans (if_pos ⟨by (k_extra "s1"), hj⟩)]
          exact .inr ⟨by rw [eq _ (by (k_extra "s1")), eq (0 + n - 1 - j) (by (k_extra "s1"))], by rw [hid _ (by (k_extra "s1")), hid _ (by (k_extra "s1"))]; (k_extra "s1")⟩
        · rw [(rev_at (i := 0) hs n).trans (if_neg (by (k_extra "s1"))), (rev_at hs (n - 1)).trans (if_pos ⟨by (k_extra "s1"), by (k_extra "s1")⟩), eq (0 + n - 1 - (n - 1)) (by (k_extra "s1"))]
          exact e hlt
    · rw [if_neg e2]
      obtain rfl : n = 1 := by (k_extra "s1")
      exact descPart_ok ⟨c, fun i j hij hj => by (k_extra "s1")⟩ (Nat.le_refl _) hlt (e hlt)
theorem place_ok {k : Nat} (hk : k < N) (P : PreN N p k) (S : Stb key p k) : ∀ (f l r : Nat), l ≤ r → r ≤ k → r - l ≤ f → (∀ i, i < l → key (p.getD i 0) ≤ key (p.getD k 0)) → (∀ i, r ≤ i → i < k → key (p.getD k 0) < key (p.getD i 0)) →
    kOk N (kLt key) (fun l => l ≤ k ∧ (∀ i, i < l → key (p.getD i 0) ≤ key (p.getD k 0)) ∧ ∀ i, l ≤ i → i < k → key (p.getD k 0) < key (p.getD i 0)) (kas_place p k f l r)
  | 0, l, r, hlr, hr, hf, h1, h2 => ⟨by (k_extra "s1"), h1, fun i hi hk => h2 i (by (k_extra "s1")) hk⟩
  | f + 1, l, r, hlr, hr, hf, h1, h2 => by
    have le : ∀ i j, i ≤ j → j < k → key (p.getD i 0) ≤ key (p.getD j 0) := fun i j hij hj => by
      by_cases e : i = j
      · rw [e]; exact Int.le_refl _
      · rcases S i j (by (k_extra "s1")) hj with q | q <;> (k_extra "s1")
    unfold kas_place
    by_cases hge : l ≥ r
    · rw [if_pos hge]; exact ⟨by (k_extra "s1"), h1, fun i hi hk => h2 i (by (k_extra "s1")) hk⟩
    · rw [if_neg hge]
      have hb := mid_bd (Nat.lt_of_not_ge hge)
      generalize (l + r) / 2 = m at hb ⊢
      obtain ⟨b1, b2⟩ := hb
      refine ⟨⟨P.lt (Nat.le_of_lt hk) hk, P.lt (Nat.le_of_lt hk) (by (k_extra "s1"))⟩, ?_⟩
      show kOk N _ _ (if kLt key (p.getD k 0) (p.getD m 0) = true then kas_place p k f l m else kas_place p k f (m + 1) r)
      by_cases h : kLt key (p.getD k 0) (p.getD m 0) = true
      · rw [if_pos h]
        have h' := of_decide_eq_true h
        exact place_ok hk P S f l m (by (k_extra "s1")) (by (k_extra "s1")) (by (k_extra "s1")) h1 fun i hi hk => by have := le m i hi hk; (k_extra "s1")
      · rw [if_neg h]
        have h' : ¬ key (p.getD k 0) < key (p.getD m 0) := fun q => h (decide_eq_true q)
        exact place_ok hk P S f (m + 1) r (by (k_extra "s1")) hr (by (k_extra "s1")) (fun i hi => by have := le i m (by (k_extra "s1")) (by (k_extra "s1")); (k_extra "s1")) h2
theorem bin_ok : ∀ (f : Nat) (p : Array Nat) (k : Nat), k + f = N → PreN N p k → Stb key p k → kOk N (kLt key) (fun r => PreN N r N ∧ Stb key r N) (kas_bin f p k)
  | 0, p, k, hf, P, S => by
    obtain rfl : k = N := by (k_extra "s1")
    exact ⟨P, S⟩
  | f + 1, p, k, hf, P, S => by
    have hs : k < p.size := by rw [P.1]; (k_extra "s1")
    have ek := P.2.1 k (Nat.le_refl _) (by (k_extra "s1"))
    refine kOk_bind _ (kOk_mono ?_ _ (place_ok (by (k_extra "s1")) P S k 0 k (Nat.zero_le _) (Nat.le_refl _) (by (k_extra "s1")) (fun i hi => by (k_extra "s1")) (fun i hi hk => by (k_extra "s1"))))
    rintro l ⟨hl, h1, h2⟩
    have at_ : ∀ i, (bubble p k (k - l)).getD i 0 = if i = l then p.getD k 0 else if l < i ∧ i ≤ k then p.getD (i - 1) 0 else p.getD i 0 := fun i => by
      rw [bub_at hs (by (k_extra "s1")), show k - (k - l) = l by (k_extra "s1")]
    refine bin_ok f _ (k + 1) (by (k_extra "s1")) ⟨(bubble_size _ _ _).trans P.1, fun i hi hN => ?_, fun i hi => ?_⟩ fun i j hij hj => ?_
    · rw [at_, if_neg (by (k_extra "s1")), if_neg (by (k_extra "s1"))]; exact P.2.1 i (by (k_extra "s1")) hN
    · rw [at_]
      by_cases q1 : i = l
      · rw [if_pos q1, ek]; (k_extra "s1")
      · rw [if_neg q1]
        by_cases q2 : l < i ∧ i ≤ k
        · rw [if_pos q2]; have := P.2.2 (i - 1) (by (k_extra "s1")); (k_extra "s1")
        · rw [if_neg q2]; have := P.2.2 i (by (k_extra "s1")); (k_extra "s1")
    · rw [at_, at_]
      by_cases c1 : i = l
      · rw [if_pos c1, if_neg (by (k_extra "s1")), if_pos ⟨by (k_extra "s1"), by (k_extra "s1")⟩]
        exact .inl (h2 (j - 1) (by (k_extra "s1")) (by (k_extra "s1")))
      · rw [if_neg c1]
        by_cases c2 : l < i ∧ i ≤ k
        · rw [if_pos c2, if_neg (by (k_extra "s1")), if_pos ⟨by (k_extra "s1"), by (k_extra "s1")⟩]
          exact S (i - 1) (j - 1) (by (k_extra "s1")) (by (k_extra "s1"))
        · rw [if_neg c2]
          by_cases c3 : j = l
          · rw [if_pos c3]
            have a := h1 i (by (k_extra "s1"))
            have b := P.2.2 i (by (k_extra "s1"))
            by_cases e : key (p.getD i 0) = key (p.getD k 0)
            · exact .inr ⟨e, by rw [ek]; exact b⟩
            · exact .inl (by (k_extra "s1"))
          · rw [if_neg c3]
            by_cases c4 : l < j ∧ j ≤ k
            · rw [if_pos c4]
              exact S i (j - 1) (by (k_extra "s1")) (by (k_extra "s1"))
            · rw [if_neg c4]
              exact S i j hij (by (k_extra "s1"))
theorem sort_ok (hN : 1 ≤ N) : kOk N (kLt key) (fun r => PreN N r N ∧ Stb key r N) (kas_sort N) := by
  have P : PreN N (List.toArray (List.range N)) 1 := (preN_range (N := N)).resolve_right (by (k_extra "s1"))
  have hid : ∀ i, i < N → (List.toArray (List.range N)).getD i 0 = i := fun i hi => by rw [getD_q]; simp [hi]
  refine kOk_bind _ (kOk_mono ?_ _ (count_ok P hid hN))
  rintro ⟨m, p⟩ ⟨a, b, c, d⟩
  dsimp only at a b c d ⊢
  by_cases h : m < N
  · rw [if_pos h]
    have e : max m 1 = m := by (k_extra "s1")
    rw [e]
    exact bin_ok (N - m) p m (by (k_extra "s1")) c d
  · rw [if_neg h]
    obtain rfl : m = N := by (k_extra "s1")
    exact ⟨c, d⟩
end
end Mine
end
section
set_option maxRecDepth 100000
set_option maxHeartbeats 4000000
namespace Mine
/-- what a sort by keys gives: the one order in which like keys stand as they came -/
noncomputable def StOut (kz : List Int) (vs out : List Value) : Prop :=
  ∃ r : Array Nat, PreN vs.length r vs.length ∧ Stb (fun i => kz.getD i 0) r vs.length ∧ out = r.toList.map fun i => vs.getD i .none
theorem arr_size (vs : List Value) : vs.toArray.size = vs.length := by simp
theorem item_snd {keys : Array Value} {vs : List Value} (hl : keys.size = vs.length) (i : Nat) : (kas_item (keys.zip vs.toArray) i).2 = vs.getD i .none := by
  unfold kas_item
  by_cases hi : i < vs.length
  · have h1 : i < (keys.zip vs.toArray).size := by rw [Array.size_zip, arr_size vs]; (first | lia | omega)
    rw [show (keys.zip vs.toArray).getD i (Value.none, Value.none) = (keys.zip vs.toArray)[i] by simp only [Array.getD, h1, dif_pos]; rfl]
    rw [Array.getElem_zip, List.getD_eq_getElem?_getD, List.getElem?_eq_getElem hi]
    rfl
  · have h1 : ¬ i < (keys.zip vs.toArray).size := by rw [Array.size_zip, arr_size vs]; (first | lia | omega)
    rw [show (keys.zip vs.toArray).getD i (Value.none, Value.none) = (Value.none, Value.none) by simp only [Array.getD, h1, dif_neg, not_false_eq_true]]
    rw [List.getD_eq_getElem?_getD, List.getElem?_eq_none (by (first | lia | omega))]
    rfl
theorem item_fst {keys : Array Value} {vs : List Value} {kz : List Int} (hk : IntsAre keys.toList kz) (hl : kz.length = vs.length) {i : Nat} (hi : i < vs.length) : ∃ t, (kas_item (keys.zip vs.toArray) i).1 = .int (kz.getD i 0) t := by
  have hs : keys.size = vs.length := by have := hk.length; rw [Array.length_toList] at this; (first | lia | omega)
  have h1 : i < (keys.zip vs.toArray).size := by rw [Array.size_zip, arr_size vs]; (first | lia | omega)
  unfold kas_item
  rw [show (keys.zip vs.toArray).getD i (Value.none, Value.none) = (keys.zip vs.toArray)[i] by simp only [Array.getD, h1, dif_pos]; rfl]
  rw [Array.getElem_zip]
  obtain ⟨y, t, e1, e2⟩ := (ints_at (its := keys) hk).2 i (keys[i]'(by (first | lia | omega))) (Array.getElem?_eq_getElem (by (first | lia | omega))) (by (first | lia | omega))
  refine ⟨t, ?_⟩
  show keys[i]'_ = _
  rw [e2, List.getD_eq_getElem?_getD, e1]
  rfl
section
variable {prog : Program} {w : World} {A : Around} {E : Value → Shared → Prop} {s : Shared} {h₀ : Heap} {L : Addr} {m : Str → Option Value} {news : List (Addr × Obj)} {a kS : Addr} {vs : List Value} {kz : List Int} {keys : Array Value} {e e1 : Nat} {P : PySem.Fin → Shared → Prop}
/-- the last part of a sort by keys, none of which raised -/
theorem st_end (F : Fr h₀ L s.heap m) (N : News h₀ L s.heap ((kS, seqObj "list" keys e) :: (a, seqObj "list" #[] e1) :: news)) (hka : kS ≠ a) (off : ∀ p ∈ news, p.1 ≠ kS ∧ p.1 ≠ a)
    (hk : IntsAre keys.toList kz) (hlen : kz.length = vs.length) (h2 : 2 ≤ vs.length) (h64 : vs.length < 64)
    (done : ∀ h' tk out c, Fr h₀ L h' m → News h₀ L h' ((a, seqObj "list" out c) :: news) → StOut kz vs out.toList → P (.done (.ret .none)) { s with heap := h', toks := tk }) :
    wpAny (model prog w) A (ksk_end a false vs.toArray e1 (.ref kS) keys) P E s := by
  have hsz : keys.size = vs.length := by have := hk.length; rw [Array.length_toList] at this; (first | lia | omega)
  have hz : (keys.zip vs.toArray).size = vs.length := by rw [Array.size_zip, arr_size vs]; (first | lia | omega)
  have hst : SortSt.mk' oneType' (keys.zip vs.toArray) #[] 7 none = kas_st oneType' (keys.zip vs.toArray) (List.toArray (List.range vs.length)) := by
    unfold kas_st
    rw [← hz, kas_range]
  unfold ksk_end
  simp only [Bool.false_eq_true, if_false]
  have hn2 : ¬ vs.toArray.size < 2 := by rw [arr_size vs]; (first | lia | omega)
  rw [if_neg hn2, if_neg hn2, ksk_kind hk (by (first | lia | omega))]
  refine wpAny_bind (wpAny_pure (wpAny_bind ?_))
  rw [hst]
  show kasC (model prog w) A E sortRuns' (fun _ st' s' => wpAny (model prog w) A (ksk_tail a false e1 (Value.ref kS) st') P E s') _ s
  refine kas_runs (n := vs.length) (G := fun r s' => s' = s ∧ PreN vs.length r vs.length ∧ Stb (fun i => kz.getD i 0) r vs.length) h2 h64 ?_ ?_
  · rintro r st' s' hr ha hf ⟨rfl, hp, ho⟩
    have hout : ((arrOf st').map (·.2)).toList = r.toList.map fun i => vs.getD i .none := by
      rw [ha, Array.toList_map, Array.toList_map, List.map_map]
      exact List.map_congr_left fun i _ => item_snd hsz i
    have hol : ((arrOf st').map (·.2)).size = vs.length := by rw [ha, Array.size_map, Array.size_map, hr]
    have nk := N _ (.head _)
    have na := N _ (.tail _ (.head _))
    have u1 := Heap.SameBut.update s'.heap kS (Obj.mapSeq fun _ => (#[] : Array Value))
    have na1 := (u1.2 a (Ne.symm hka)).trans na.1
    have u2 := Heap.SameBut.update (s'.heap.update kS (Obj.mapSeq fun _ => (#[] : Array Value))) a (Obj.mapSeq fun _ => (arrOf st').map (·.2))
    obtain ⟨c2, hg⟩ : ∃ c2, ((s'.heap.update kS (Obj.mapSeq fun _ => (#[] : Array Value))).update a (Obj.mapSeq fun _ => (arrOf st').map (·.2))).get? a = some (seqObj "list" ((arrOf st').map (·.2)) c2) := ⟨_, get?_update_seq na1 fun _ => (arrOf st').map (·.2)⟩
    unfold ksk_tail
    refine wpAny_bind (listUpdate_at nk.1 rfl ?_ (by rw [hsz, sizeLine_eq]; (first | lia | omega)) (Nat.zero_le _))
    refine wpAny_bind (wpAny_letGo (wpAny_bind (seqEpoch_at na1 rfl (wpAny_bind (listUpdate_at na1 rfl ?_ (Nat.zero_le _) (Nat.le_trans (Nat.le_of_eq hol) (by rw [sizeLine_eq]; (first | lia | omega))))))))
    rw [hf]
    simp only [bne_self_eq_false, Bool.false_eq_true, if_false]
    refine wpAny_pure (done _ _ ((arrOf st').map (·.2)) c2 ((F.change u1 nk.2.1 nk.2.2).change u2 na.2.1 na.2.2) (fun p hp' => ?_) ⟨r, hp, ho, hout⟩)
    rcases List.mem_cons.mp hp' with rfl | hp'
    · exact ⟨hg, na.2⟩
    · have q := N p (.tail _ (.tail _ hp'))
      exact ⟨(u2.2 p.1 (off p hp').2).trans ((u1.2 p.1 (off p hp').1).trans q.1), q.2⟩
  · refine kOk_wp (N := vs.length) (lt := kLt fun i => kz.getD i 0) ?_ _ (kOk_mono (fun r h => ⟨rfl, h⟩) _ (sort_ok (by (first | lia | omega))))
    intro i j C hi hj hC
    obtain ⟨t, e1⟩ := item_fst hk hlen hi
    obtain ⟨u, e2⟩ := item_fst hk hlen hj
    unfold kas_cmp
    rw [e1, e2]
    exact kat_lt_int hC
/-- the keys asked, one by one, then the sort -/
theorem st_rest {f : Value} (F : Fr h₀ L s.heap m) (N : News h₀ L s.heap ((kS, seqObj "list" #[] e) :: (a, seqObj "list" #[] e1) :: news)) (hka : kS ≠ a) (off : ∀ p ∈ news, p.1 ≠ kS ∧ p.1 ≠ a)
    (hlen : kz.length = vs.length) (h2 : 2 ≤ vs.length) (h64 : vs.length < 64)
    (ask : ∀ (i : Nat) (v : Value) (k : Int), vs[i]? = some v → kz[i]? = some k → ∀ (h : Heap) (tk : Nat) (all : List (Addr × Obj)), (∀ p ∈ news, p ∈ all) → Fr h₀ L h m → News h₀ L h all →
      wpAny (model prog w) A (call f [v]) (KskEnd h₀ L m all k { s with heap := h, toks := tk }) (fun _ _ => False) { s with heap := h, toks := tk })
    (done : ∀ h' tk out c, Fr h₀ L h' m → News h₀ L h' ((a, seqObj "list" out c) :: news) → StOut kz vs out.toList → P (.done (.ret .none)) { s with heap := h', toks := tk }) :
    wpAny (model prog w) A (ksk_rest a f false vs.toArray e1 (.ref kS)) P E s := by
  unfold ksk_rest
  refine wpAny_bind (wpAny_rule ?_)
  rw [List.forIn_toArray]
  refine wpAny_bind (ksk_fold (fun i s' => ∃ h' tk ks c, s' = { s with heap := h', toks := tk } ∧ Fr h₀ L h' m ∧ News h₀ L h' ((kS, seqObj "list" ks c) :: (a, seqObj "list" #[] e1) :: news) ∧ IntsAre ks.toList (kz.take i)) vs 0 s
    ⟨s.heap, s.toks, #[], e, rfl, F, N, .nil⟩ ?one ?all)
  case one =>
    rintro i v s' hv ⟨g, tk, ks, c, rfl, F1, N1, hi⟩
    rw [Nat.zero_add] at hi
    rw [Nat.zero_add]
    have hiv : i < vs.length := (List.getElem?_eq_some_iff.mp hv).1
    have hik : kz[i]? = some (kz[i]'(by (first | lia | omega))) := List.getElem?_eq_getElem (by (first | lia | omega))
    have hks : ks.size ≤ 64 := by
      have := hi.length
      rw [Array.length_toList, List.length_take] at this
      (first | lia | omega)
    refine wpAny_bind (wpAny_attempt (wpAny_mono (ask i v _ hv hik g tk _ (fun p hp => .tail _ (.tail _ hp)) F1 N1) (fun y s'' hy => ?_) fun _ _ hF => hF.elim))
    obtain ⟨g2, tk2, t, rfl, rfl, F2, N2⟩ := hy
    have nk := N2 _ (.head _)
    have u := Heap.SameBut.update g2 kS (Obj.mapSeq (·.push (.int (kz[i]'(by (first | lia | omega))) t)))
    obtain ⟨c2, hg⟩ : ∃ c2, (g2.update kS (Obj.mapSeq (·.push (.int (kz[i]'(by (first | lia | omega))) t)))).get? kS = some (seqObj "list" (ks.push (.int (kz[i]'(by (first | lia | omega))) t)) c2) := ⟨_, get?_update_seq nk.1 (·.push (.int (kz[i]'(by (first | lia | omega))) t))⟩
    refine wpAny_bind (listUpdate_at nk.1 rfl ?_ (by rw [sizeLine_eq]; (first | lia | omega)) (by rw [Array.size_push, sizeLine_eq]; (first | lia | omega)))
    refine wpAny_pure ⟨rfl, _, _, ks.push (.int (kz[i]'(by (first | lia | omega))) t), c2, rfl, F2.change u nk.2.1 nk.2.2, fun p hp => ?_, ?_⟩
    · rcases List.mem_cons.mp hp with rfl | hp
      · exact ⟨hg, nk.2⟩
      · have hne : p.1 ≠ kS := by
          rcases List.mem_cons.mp hp with rfl | hp
          · exact Ne.symm hka
          · exact (off p hp).1
        have q := N2 p (.tail _ hp)
        exact ⟨(u.2 p.1 hne).trans q.1, q.2⟩
    · rw [Array.toList_push, List.take_add_one, hik]
      exact PyProof.Rows.IntsAre.append hi (.cons _ _ .nil)
  case all =>
    rintro s' ⟨g, tk, ks, c, rfl, F1, N1, hi⟩
    rw [Nat.zero_add, List.take_of_length_le (by (first | lia | omega))] at hi
    refine wpAny_bind (listItems_at (N1 _ (.head _)).1 rfl ?_)
    exact st_end F1 N1 hka off hi hlen h2 h64 done
/-- the sort of a list in place, by keys -/
theorem st_sort {f : Value} {n : Nat} (F : Fr h₀ L s.heap m) (N : News h₀ L s.heap ((a, seqObj "list" vs.toArray n) :: news)) (off : ∀ p ∈ news, p.1 ≠ a)
    (hlen : kz.length = vs.length) (h2 : 2 ≤ vs.length) (h64 : vs.length < 64)
    (ask : ∀ (i : Nat) (v : Value) (k : Int), vs[i]? = some v → kz[i]? = some k → ∀ (h : Heap) (tk : Nat) (all : List (Addr × Obj)), (∀ p ∈ news, p ∈ all) → Fr h₀ L h m → News h₀ L h all →
      wpAny (model prog w) A (call f [v]) (KskEnd h₀ L m all k { s with heap := h, toks := tk }) (fun _ _ => False) { s with heap := h, toks := tk })
    (done : ∀ h' tk out c, Fr h₀ L h' m → News h₀ L h' ((a, seqObj "list" out c) :: news) → StOut kz vs out.toList → P (.done (.ret .none)) { s with heap := h', toks := tk }) :
    wpAny (model prog w) A (ksk_tree a f false) P E s := by
  have na := N _ (.head _)
  have u := Heap.SameBut.update s.heap a (Obj.mapSeq fun _ => (#[] : Array Value))
  obtain ⟨e1, hg⟩ : ∃ e1, (s.heap.update a (Obj.mapSeq fun _ => (#[] : Array Value))).get? a = some (seqObj "list" #[] e1) := ⟨_, get?_update_seq na.1 fun _ => #[]⟩
  have F1 := F.change u na.2.1 na.2.2
  have N1 : News h₀ L (s.heap.update a (Obj.mapSeq fun _ => (#[] : Array Value))) ((a, seqObj "list" #[] e1) :: news) := fun p hp => by
    rcases List.mem_cons.mp hp with rfl | hp
    · exact ⟨hg, na.2⟩
    · have q := N p (.tail _ hp)
      exact ⟨(u.2 p.1 (off p hp)).trans q.1, q.2⟩
  unfold ksk_tree
  refine wpAny_bind (listItems_at na.1 rfl (wpAny_bind (listUpdate_at na.1 rfl ?_ (by rw [arr_size vs, sizeLine_eq]; (first | lia | omega)) (Nat.zero_le _))))
  refine wpAny_bind (seqEpoch_at hg rfl (wpAny_bind (wpAny_newTuple ?_ (by show vs.length ≤ _; rw [sizeLine_eq]; (first | lia | omega)))))
  refine wpAny_bind (wpAny_newList (wpAny_holding ?_) (Nat.zero_le _))
  have F2 := F1.push (seqObj "tuple" vs.toArray 0)
  have N2 := (N1.push F1 (seqObj "tuple" vs.toArray 0))
  have F3 := F2.push (seqObj "list" #[] 0)
  have N3 := (N2.push F2 (seqObj "list" #[] 0))
  have lt2 : ∀ p ∈ (a, seqObj "list" #[] e1) :: news, p.1 < ((s.heap.update a (Obj.mapSeq fun _ => (#[] : Array Value))).push (seqObj "tuple" vs.toArray 0)).objs.size := fun p hp => Heap.lt_size (N2 p (.tail _ hp)).1
  exact st_rest F3 (fun p hp => N3 p (by
    rcases List.mem_cons.mp hp with rfl | hp
    · exact .head _
    · exact .tail _ (.tail _ hp))) (Nat.ne_of_gt (lt2 _ (.head _))) (fun p hp => ⟨Nat.ne_of_lt (lt2 p (.tail _ hp)), off p hp⟩) hlen h2 h64 ask done
/-- sorted(l, key=f) of at least two items -/
theorem st_sorted {l f : Addr} {n : Nat} {Q : Value → Shared → Prop} (F : Fr h₀ L s.heap m) (N : News h₀ L s.heap news) (hm : (l, listOf vs.toArray n) ∈ news) (hlen : kz.length = vs.length) (h2 : 2 ≤ vs.length) (h64 : vs.length < 64)
    (ask : ∀ (i : Nat) (v : Value) (k : Int), vs[i]? = some v → kz[i]? = some k → ∀ (h : Heap) (tk : Nat) (all : List (Addr × Obj)), (∀ p ∈ news, p ∈ all) → Fr h₀ L h m → News h₀ L h all →
      wpAny (model prog w) A.in1.in1 (call (.ref f) [v]) (KskEnd h₀ L m all k { s with heap := h, toks := tk }) (fun _ _ => False) { s with heap := h, toks := tk })
    (done : ∀ D h' tk out c, Fr h₀ L h' m → News h₀ L h' ((D, seqObj "list" out c) :: news) → (∀ q ∈ news, q.1 < D) → StOut kz vs out.toList → Q (.ref D) { s with heap := h', toks := tk }) :
    wpAny (model prog w) A (call (.builtin "sorted") [.ref l] [(Str.ofString "key", .ref f)]) Q E s := by
  have hl : s.heap.IsList l vs.toArray := PySem.IsL.isList (n := n) (N _ hm).1
  refine call_function_entry_kw kind_sorted plain_sorted entry_sorted (ksk_s1 _ _) ?_
  unfold Builtin.«sorted»
  refine wpAny_bind (m := checkCount "sorted" 1 1 _) (wpAny_pure ?_)
  refine wpAny_bind (collect_list hl ?_ (by rw [sizeLine_eq]; omega))
  refine wpAny_bind (wpAny_newList ?_ (by rw [sizeLine_eq]; omega))
  generalize hg : (s.heap.push (seqObj "list" #[] 0)).update s.heap.objs.size (Obj.mapSeq (· ++ vs.toArray)) = g
  have keep : ∀ b o, s.heap.get? b = some o → g.get? b = some o := fun b o q => by
    have hlt : b < s.heap.objs.size := Heap.lt_size q
    rw [← hg, Heap.get?_update_ne _ _ _ _ (Nat.ne_of_lt hlt), Heap.get?_push_ne _ _ _ (Nat.ne_of_lt hlt)]
    exact q
  have hsz : s.heap.objs.size < g.objs.size := by rw [← hg, Heap.size_update, size_push']; exact Nat.lt_succ_self _
  have F1 : Fr h₀ L g m := F.kept keep
  have N1 : News h₀ L g news := N.grown keep
  show wpAny _ _ _ _ _ { s with heap := g.push (seqObj "list" vs.toArray 0) }
  have F2 := F1.push (seqObj "list" vs.toArray 0)
  have N2 := N1.push F1 (seqObj "list" vs.toArray 0)
  have lt2 : ∀ p ∈ news, p.1 < g.objs.size := fun p hp => Heap.lt_size (N1 p hp).1
  refine wpAny_bind (wpAny_holding (wpAny_call_entry_kw slot_list_sort ⟨_, (N2 _ (.head _)).1, rfl⟩ entry_list_sort ?body (ksk_l1 _ _)))
  case body =>
    show wpAny (model prog w) A.in1.in1 (Builtin.«list.sort» ⟨[.ref g.objs.size], [(Str.ofString "key", .ref f)]⟩) _ _ _
    rw [ksk_t1]
    refine st_sort (s := { s with heap := g.push (seqObj "list" vs.toArray 0) }) F2 N2 (fun p hp => Nat.ne_of_lt (lt2 p hp)) hlen h2 h64 ask fun h' tk out c F' N' k' => ⟨_, rfl, ?_⟩
    exact wpAny_pure ⟨_, rfl, done _ h' tk out c F' N' lt2 k'⟩
end
end Mine
end
section
namespace Mine
/-- the ties as they come, price by price -/
noncomputable def cam (ls : List Int) (ps : List (Nat × Nat)) : List (Int × Nat × Nat) := ps.map fun q => (price (ls.getD q.1 0) (ls.getD q.2 0), q.1, q.2)
theorem tieF_cam (ls : List Int) (ps : List (Nat × Nat)) : tieF ls ps = (cam ls ps).foldl insT [] := by
  unfold tieF cam
  rw [List.foldl_map]
theorem Lx.asymm {key : Nat → Int} {a b : Nat} (h : Lx key a b) : ¬ Lx key b a := by
  unfold Lx at *; (first | lia | omega)
theorem sub_sorted {key : Nat → Int} : ∀ {a b : List Nat}, a.Pairwise (Lx key) → b.Pairwise (Lx key) → (∀ x ∈ a, x ∈ b) → a.Sublist b
  | [], _, _, _, _ => List.nil_sublist _
  | x :: r, [], _, _, h => nomatch h x (.head _)
  | x :: r, y :: q, ha, hb, h => by
    have ha' := List.pairwise_cons.mp ha
    have hb' := List.pairwise_cons.mp hb
    by_cases e : x = y
    · subst e
      refine List.Sublist.cons_cons _ (sub_sorted ha'.2 hb'.2 fun z hz => ?_)
      rcases List.mem_cons.mp (h z (.tail _ hz)) with rfl | hz'
      · exact absurd (ha'.1 _ hz) (ha'.1 _ hz).asymm
      · exact hz'
    · have hx : x ∈ q := (List.mem_cons.mp (h x (.head _))).resolve_left e
      refine List.Sublist.cons _ (sub_sorted ha hb'.2 fun z hz => ?_)
      rcases List.mem_cons.mp (h z hz) with rfl | hz'
      · rcases List.mem_cons.mp hz with rfl | hz
        · exact absurd rfl e
        · exact absurd (hb'.1 _ hx) (ha'.1 _ hz).asymm
      · exact hz'
theorem cut_keys {α : Type} {key : α → Int} {x : Int} : ∀ {b : List α}, Srt (b.map key) → (∀ a ∈ b.take (cR (b.map key) x), key a ≤ x) ∧ ∀ a ∈ b.drop (cR (b.map key) x), x < key a
  | [], _ => ⟨by simp, by simp⟩
  | y :: r, h => by
    have h' := List.pairwise_cons.mp h
    have ih := cut_keys (x := x) h'.2
    by_cases hy : key y ≤ x
    · have e : cR ((y :: r).map key) x = cR (r.map key) x + 1 := by unfold cR; rw [List.map_cons, List.countP_cons_of_pos (by simpa using hy)]
      rw [e]
      refine ⟨fun a ha => ?_, fun a ha => ih.2 a ha⟩
      rcases List.mem_cons.mp ha with rfl | ha
      · exact hy
      · exact ih.1 a ha
    · have e : cR ((y :: r).map key) x = 0 := by
        unfold cR
        rw [List.countP_eq_zero]
        intro z hz
        rw [List.map_cons] at hz
        rcases List.mem_cons.mp hz with rfl | hz
        · simpa using hy
        · have := h'.1 z hz
          simp; (first | lia | omega)
      rw [e]
      refine ⟨fun a ha => by simp at ha, fun a ha => ?_⟩
      rcases List.mem_cons.mp ha with rfl | ha
      · (first | lia | omega)
      · have := h'.1 (key a) (List.mem_map_of_mem ha)
        (first | lia | omega)
noncomputable abbrev dT : Int × Nat × Nat := (0, 0, 0)
/-- inserting behind like prices, one by one, is the stable order -/
theorem ins_order (c : List (Int × Nat × Nat)) : ∀ k, k ≤ c.length → ∃ b : List Nat, b.Pairwise (Lx fun i => (c.getD i dT).1) ∧ (∀ x, x ∈ b ↔ x < k) ∧ b.length = k ∧ b.map (fun i => c.getD i dT) = (c.take k).foldl insT [] := by
  intro k
  induction k with
  | zero => intro _; exact ⟨[], .nil, by simp, rfl, rfl⟩
  | succ k ih =>
    intro hk
    obtain ⟨b, hb, hm, hl, he⟩ := ih (by (first | lia | omega))
    have hs : Srt (b.map fun i => (c.getD i dT).1) := by
      show List.Pairwise _ _
      rw [List.pairwise_map]
      exact hb.imp fun {a b} h => by unfold Lx at h; dsimp only at h; (first | lia | omega)
    have hc := cut_keys (key := fun i => (c.getD i dT).1) (x := (c.getD k dT).1) hs
    generalize hp : cR (b.map fun i => (c.getD i dT).1) (c.getD k dT).1 = p at hc
    refine ⟨b.take p ++ k :: b.drop p, ?_, ?_, ?_, ?_⟩
    · have hsp : (b.take p ++ b.drop p).Pairwise (Lx fun i => (c.getD i dT).1) := by rw [List.take_append_drop]; exact hb
      rw [List.pairwise_append] at hsp ⊢
      refine ⟨hsp.1, List.pairwise_cons.mpr ⟨fun z hz => .inl (hc.2 z hz), hsp.2.1⟩, fun x hx y hy => ?_⟩
      rcases List.mem_cons.mp hy with rfl | hy
      · have h1 := hc.1 x hx
        have h2 := (hm x).mp (List.mem_of_mem_take hx)
        unfold Lx
        dsimp only at h1 ⊢
        (first | lia | omega)
      · exact hsp.2.2 x hx y hy
    · intro x
      have e : x ∈ b.take p ++ k :: b.drop p ↔ x = k ∨ x ∈ b := by
        rw [List.perm_middle.mem_iff, List.take_append_drop, List.mem_cons]
      rw [e, hm]
      (first | lia | omega)
    · rw [List.perm_middle.length_eq, List.take_append_drop, List.length_cons, hl]
    · have ek : c.take (k + 1) = c.take k ++ [c.getD k dT] := by
        rw [List.take_add_one, List.getElem?_eq_getElem (by (first | lia | omega)), List.getD_eq_getElem?_getD, List.getElem?_eq_getElem (by (first | lia | omega))]
        rfl
      rw [ek, List.foldl_append, ← he]
      show _ = insT _ _
      unfold insT
      rw [List.map_append, List.map_cons, List.map_take, List.map_drop, List.map_map]
      show _ = _
      rw [show cR (b.map ((fun x : Int × Nat × Nat => x.1) ∘ fun i => c.getD i dT)) (c.getD k dT).1 = p from hp]
theorem are_getD {α : Type} {R : Value → α → Prop} {vs : List Value} {xs : List α} {d : α} (h : Are R vs xs) {i : Nat} (hi : i < vs.length) : R (vs.getD i .none) (xs.getD i d) := by
  obtain ⟨x, hx, r⟩ := h.get (List.getElem?_eq_getElem hi)
  rw [List.getD_eq_getElem?_getD, List.getD_eq_getElem?_getD, hx, List.getElem?_eq_getElem hi]
  exact r
theorem are_map {α : Type} {R : Value → α → Prop} {vs : List Value} {xs : List α} {d : α} (h : Are R vs xs) : ∀ (l : List Nat), (∀ i ∈ l, i < vs.length) → Are R (l.map fun i => vs.getD i .none) (l.map fun i => xs.getD i d)
  | [], _ => .nil
  | i :: l, hl => .cons (are_getD h (hl i (.head _))) (are_map h l fun j hj => hl j (.tail _ hj))
/-- the sorted list is the row of ties -/
theorem st_ties {X : List (Addr × Obj)} {ls : List Int} {ps : List (Nat × Nat)} {vs out : List Value} (h : Are (IsTie X) vs (cam ls ps)) (ho : StOut ((cam ls ps).map (·.1)) vs out) : Are (IsTie X) out (tieF ls ps) := by
  obtain ⟨r, hp, hs, rfl⟩ := ho
  have hl := h.len
  have hkey : (fun i => ((cam ls ps).map (·.1)).getD i 0) = fun i => ((cam ls ps).getD i dT).1 := by
    funext i
    rw [List.getD_eq_getElem?_getD, List.getD_eq_getElem?_getD, List.getElem?_map]
    cases (cam ls ps)[i]? <;> rfl
  rw [hkey] at hs
  obtain ⟨b, hb, hm, hbl, he⟩ := ins_order (cam ls ps) (cam ls ps).length (Nat.le_refl _)
  have hat : ∀ i (hi : i < r.toList.length), r.toList[i] = r.getD i 0 := fun i hi => by
    rw [Array.length_toList] at hi
    simp [hi]
  have hrl : r.toList.length = vs.length := by rw [Array.length_toList]; exact hp.1
  have hrm : ∀ x ∈ r.toList, x < vs.length := fun x hx => by
    obtain ⟨i, hi, rfl⟩ := List.getElem_of_mem hx
    rw [hat]
    exact hp.2.2 i (by rw [← hrl]; exact hi)
  have hrs : r.toList.Pairwise (Lx fun i => ((cam ls ps).getD i dT).1) := by
    rw [List.pairwise_iff_getElem]
    intro i j hi hj hij
    rw [hat, hat]
    exact hs i j hij (by rw [← hrl]; exact hj)
  have hrb : r.toList = b := (sub_sorted hrs hb fun x hx => (hm x).mpr (by rw [← hl]; exact hrm x hx)).eq_of_length (by rw [hrl, hbl, hl])
  rw [tieF_cam, ← List.take_length (l := cam ls ps), ← he, ← hrb]
  exact are_map h _ hrm
end Mine
end
section
namespace Mine
open PySem.SeqAt
section
variable {A : Around} {s : Shared} {h₀ : Heap} {L : Addr} {X : List (Addr × Obj)}
theorem tup_is (N : News h₀ L s.heap X) {l : Addr} {vs : List Value} {k : Nat} (h : (l, tupOf vs k) ∈ X) : s.heap.IsTuple l vs.toArray := ⟨_, (N _ h).1, rfl, k, rfl⟩
theorem list_is (N : News h₀ L s.heap X) {l : Addr} {vs : List Value} {k : Nat} (h : (l, listOf vs.toArray k) ∈ X) : s.heap.IsList l vs.toArray := ⟨_, (N _ h).1, rfl, k, rfl⟩
theorem eq_tups (N : News h₀ L s.heap X) {l b : Addr} {vs us : List Value} {k k' : Nat} (h1 : (l, tupOf vs k) ∈ X) (h2 : (b, tupOf us k') ∈ X) (hu : A.units < cLine) (he : EqAll A.in1 s vs us) : EqAt A s (.ref l) (.ref b) true := by
  by_cases e : l = b
  · subst e; exact EqAt.same _
  · have hl := he.length
    have q := RcAt.tuples (e := fun _ => true) (tup_is N h1) (tup_is N h2) hu fun j a1 a2 => he.get j (by simpa using a1) (by simpa using a2)
    have e2 : ((List.range (min vs.toArray.size us.toArray.size)).all (fun _ => true) && vs.toArray.size == us.toArray.size) = true := by simp [hl]
    rw [e2] at q
    exact EqAt.of_refs e q
theorem all_eq {α : Type} {R R' : Value → α → Prop} (he : ∀ v u x, R v x → R' u x → EqAt A s v u true) {vs us : List Value} {xs : List α} (h1 : Are R vs xs) (h2 : Are R' us xs) : EqAll A s vs us := by
  induction h1 generalizing us with
  | nil => cases h2; exact .nil
  | cons a _ ih => cases h2 with
    | cons b h2 => exact .cons (he _ _ _ a b) (ih h2)
theorem ties_eq (N : News h₀ L s.heap X) (hu : A.units < cLine) {vs us : List Value} {xs : List (Int × Nat × Nat)} (h1 : Are (IsTie X) vs xs) (h2 : Are (IsTie X) us xs) : EqAll A s vs us := by
  refine all_eq ?_ h1 h2
  rintro v u x ⟨B, k, t1, t2, t3, rfl, hB⟩ ⟨C, k', u1, u2, u3, rfl, hC⟩
  exact eq_tups N hB hC hu (.cons (eq_ints rfl) (.cons (eq_ints rfl) (.cons (eq_ints rfl) .nil)))
theorem pair_uniq (N : News h₀ L s.heap X) {v : Value} {x y : SL} (h1 : PairAt X v x) (h2 : PairAt X v y) : x = y := by
  obtain ⟨B, k, t1, t2, rfl, hB⟩ := h1
  obtain ⟨C, k', u1, u2, e, hC⟩ := h2
  cases e
  have e := news_uniq N hB hC
  unfold tupOf at e
  have e1 := congrArg Obj.data e
  simp only [Data.seq.injEq] at e1
  have e2 := e1.1
  simp at e2
  exact Prod.ext e2.1.1 e2.2.1
theorem pair_eq (N : News h₀ L s.heap X) (hu : A.units < cLine) {v u : Value} {x y : SL} (h1 : PairAt X v x) (h2 : PairAt X u y) : EqAt A s v u (decide (x = y)) := by
  obtain ⟨B, k, t1, t2, rfl, hB⟩ := id h1
  obtain ⟨C, k', u1, u2, rfl, hC⟩ := id h2
  by_cases e : B = C
  · subst e
    rw [pair_uniq N h1 h2, decide_eq_true rfl]
    exact EqAt.same _
  · have q := RcAt.tuples (e := fun j => if j = 0 then x.1 == y.1 else x.2 == y.2) (tup_is N hB) (tup_is N hC) hu fun j a1 a2 => by
      have a1' : j < 2 := a1
      match j, a1' with
      | 0, _ => exact EqAt.int_int _ _ _ _
      | 1, _ => exact EqAt.int_int _ _ _ _
    have e2 : ((List.range (min (List.toArray [Value.int x.1 t1, Value.int x.2 t2]).size (List.toArray [Value.int y.1 u1, Value.int y.2 u2]).size)).all (fun j => if j = 0 then x.1 == y.1 else x.2 == y.2) && (List.toArray [Value.int x.1 t1, Value.int x.2 t2]).size == (List.toArray [Value.int y.1 u1, Value.int y.2 u2]).size) = decide (x = y) := by
      show ((List.range 2).all _ && true) = _
      rw [Bool.and_true]
      show ((x.1 == y.1) && ((x.2 == y.2) && true)) = _
      rw [Bool.and_true, Bool.eq_iff_iff]
      simp [Prod.ext_iff]
    rw [e2] at q
    exact EqAt.of_refs e q
end
section
variable {prog : Program} {w : World} {A : Around} {E : Value → Shared → Prop} {s : Shared} {h₀ : Heap} {L : Addr} {X : List (Addr × Obj)}
/-- a pair asked for in a list of pairs -/
theorem in_pairs (N : News h₀ L s.heap X) (hu : A.in1.units < cLine) {l D : Addr} {vs : List Value} {k : Nat} {ys : List SL} {x : SL} {Q : Value → Shared → Prop} (hl : (l, listOf vs.toArray k) ∈ X) (ha : Are (PairAt X) vs ys) (hD : PairAt X (.ref D) x) (h : Q (.bool (decide (x ∈ ys))) s) :
    wpAny (model prog w) A (compareOp .In (.ref D) (.ref l)) Q E s := by
  refine in_listAt (fun v => @decide (PairAt X v x) (Classical.propDecidable _)) (list_is N hl) (fun y hy => ?_) ?_
  · obtain ⟨i, hi, e⟩ := List.getElem_of_mem (List.mem_toArray.mp hy)
    obtain ⟨z, hz, hp⟩ := ha.get (e ▸ List.getElem?_eq_getElem hi : vs[i]? = some y)
    have e2 : @decide (PairAt X y x) (Classical.propDecidable _) = decide (z = x) := by
      rw [Bool.eq_iff_iff]
      simp only [decide_eq_true_eq]
      exact ⟨fun q => pair_uniq N hp q, fun q => q ▸ hp⟩
    rw [e2]
    exact pair_eq N hu hp hD
  · have e : vs.toArray.any (fun v => @decide (PairAt X v x) (Classical.propDecidable _)) = decide (x ∈ ys) := by
      rw [List.any_toArray, Bool.eq_iff_iff]
      simp only [List.any_eq_true, decide_eq_true_eq]
      constructor
      · rintro ⟨v, hv, hp⟩
        obtain ⟨i, hi, e⟩ := List.getElem_of_mem hv
        obtain ⟨z, hz, hp'⟩ := ha.get (e ▸ List.getElem?_eq_getElem hi : vs[i]? = some v)
        rw [pair_uniq N hp hp']
        exact List.mem_of_getElem? hz
      · intro hx
        obtain ⟨i, hi, e⟩ := List.getElem_of_mem hx
        obtain ⟨v, hv, hp⟩ := ha.get' (e ▸ List.getElem?_eq_getElem hi : ys[i]? = some x)
        exact ⟨v, List.mem_of_getElem? hv, hp⟩
    rw [e]; exact h
end
end Mine
end
section
namespace Mine
open PySem.SeqAt
noncomputable def shr (look s : Int) : Int := 1 + (s + look) % 4
theorem shr_bd (look s : Int) : 1 ≤ shr look s ∧ shr look s ≤ 4 := by unfold shr; (first | lia | omega)
/-- a colour with all that is known of it -/
noncomputable def ColX (look : Int) (X : List (Addr × Obj)) (v : Value) (x : SL) : Prop :=
  ∃ A k h s q t1 t2 t3, v = .ref A ∧ (A, tupOf [.float h t1, .float s t2, .float q t3] k) ∈ X ∧ FQ h (x.1 * 2 ^ 11) ∧ FQ s (shr look x.1 * 2 ^ 18) ∧ FQ q (x.2 * 2 ^ 17) ∧ (t1 : Nat) ≠ 0 ∧ (t2 : Nat) ≠ 0 ∧ (t3 : Nat) ≠ 0
theorem ColX.mono {look : Int} {X Y : List (Addr × Obj)} (hs : ∀ p ∈ X, p ∈ Y) : ∀ v x, ColX look X v x → ColX look Y v x := by
  rintro v x ⟨A, k, h, s, q, t1, t2, t3, rfl, hm, r⟩; exact ⟨A, k, h, s, q, t1, t2, t3, rfl, hs _ hm, r⟩
theorem ColX.at_ {look : Int} {X : List (Addr × Obj)} : ∀ v x, ColX look X v x → ColAt X v x := by
  rintro v x ⟨A, k, h, s, q, t1, t2, t3, rfl, hm, h1, _, h2, _⟩; exact ⟨A, k, h, s, q, t1, t2, t3, rfl, hm, h1, h2⟩
theorem fq_d8 {a : Int} (ha : 0 ≤ a ∧ a < 100000) : FQ (Float64.ofFrac (decide (a < 0) != decide ((8 : Int) < 0)) a.natAbs (8 : Int).natAbs) (a * 2 ^ 17) := fq_divI _ ha.1 (by decide) (by (first | lia | omega)) (by (first | lia | omega))
theorem cols_eq {look : Int} {A : Around} {s : Shared} {h₀ : Heap} {L : Addr} {X : List (Addr × Obj)} (hb : NoneBooked s.heap) (N : News h₀ L s.heap X) (hu : A.units < cLine) {vs us : List Value} {xs : List SL} (h1 : Are (ColX look X) vs xs) (h2 : Are (ColX look X) us xs) : EqAll A s vs us := by
  refine all_eq ?_ h1 h2
  rintro v u x ⟨B, k, a1, a2, a3, t1, t2, t3, rfl, hB, f1, f2, f3, n1, n2, n3⟩ ⟨C, k', b1, b2, b3, u1, u2, u3, rfl, hC, g1, g2, g3, m1, m2, m3⟩
  exact eq_tups N hB hC hu (.cons (eq_fq_fq hb n1 m1 f1 g1 rfl) (.cons (eq_fq_fq hb n2 m2 f2 g2 rfl) (.cons (eq_fq_fq hb n3 m3 f3 g3 rfl) .nil)))
theorem news_sep2 {h₀ h : Heap} {L c d : Addr} {o o' : Obj} {Y : List (Addr × Obj)} (N : News h₀ L h Y) (hc : (c, o) ∈ Y) (hd : (d, o') ∈ Y) (hcd : c ≠ d) :
    ∃ Y', News h₀ L h ((c, o) :: (d, o') :: Y') ∧ (∀ p ∈ Y', p.1 ≠ d ∧ p.1 ≠ c) ∧ ∀ p ∈ Y, p.1 ≠ c → p.1 ≠ d → p ∈ Y' := by
  obtain ⟨Y1, N1, o1, i1, _⟩ := news_sep N hc
  obtain ⟨Y2, N2, o2, i2, j2⟩ := news_sep (fun p hp => N1 p (.tail _ hp)) (i1 _ hd (Ne.symm hcd))
  refine ⟨Y2, fun p hp => ?_, fun p hp => ⟨o2 p hp, o1 p (j2 p hp)⟩, fun p hp h1 h2 => i2 p (i1 p hp h1) h2⟩
  rcases List.mem_cons.mp hp with rfl | hp
  · exact N1 _ (.head _)
  · exact N2 p hp
theorem PairAt.sep {h₀ h : Heap} {L c : Addr} {o : Obj} {X Y : List (Addr × Obj)} (N : News h₀ L h Y) (hc : (c, o) ∈ Y) (ho : ∀ vs k, o ≠ tupOf vs k) {d : Addr} {o' : Obj} (hd : (d, o') ∈ Y) (ho' : ∀ vs k, o' ≠ tupOf vs k) (hX : ∀ p ∈ Y, p.1 ≠ c → p.1 ≠ d → p ∈ X) : ∀ v x, PairAt Y v x → PairAt X v x := by
  rintro v x ⟨A, k, t1, t2, rfl, h⟩
  refine ⟨A, k, t1, t2, rfl, hX _ h (fun e => ?_) fun e => ?_⟩
  · subst e; exact ho _ _ (news_uniq N hc h)
  · subst e; exact ho' _ _ (news_uniq N hd h)
theorem list_ne {us : List Value} {c : Nat} : ∀ vs k, listOf us.toArray c ≠ tupOf vs k := fun vs k e => by
  have := congrArg Obj.cls e
  revert this
  unfold tupOf
  intro e
  have e1 := Value.type.inj e
  exact absurd e1 (by decide)
/-- between the turns of the colours' loop -/
noncomputable def TolJ (look : Int) (Du To lv : Addr) (base : List (Addr × Obj)) (items : List SL) (i : Nat) (m : Str → Option Value) (nw : List (Addr × Obj)) : Prop :=
  ∃ dv tv cd ct X t9, nw = (To, listOf (List.toArray tv) ct) :: (Du, listOf (List.toArray dv) cd) :: X ∧ Are (ColX look X) dv (items.take i) ∧ Are (ColX look X) tv (items.take i) ∧ (∀ p ∈ base, p ∈ X) ∧ (∀ p ∈ X, p.1 ≠ Du ∧ p.1 ≠ To) ∧
    m (S' "due") = some (.ref Du) ∧ m (S' "told") = some (.ref To) ∧ m (S' "look") = some (.int look t9)
end Mine
end
section
namespace Mine
/-- a turn of the colours' loop ends -/
theorem tol_end {look : Int} {h₀ : Heap} {L I Du To lv B D0 D1 D2 : Addr} {oI oB oD : Obj} {s₁ : Shared} {Q : Flow → Shared → Prop} {base X : List (Addr × Obj)} {items : List SL} {i : Nat} {h : Heap} {tk : Nat} {m' : Str → Option Value} {dv tv : List Value} {cd ct kk : Nat} {sy l8 : Int} {a b c x y z : UInt64} {t1 t2 t3 r1 r2 r3 t9 : Tok}
    (F : Fr h₀ L h m') (N : News h₀ L h ((D2, tup3 (.float x r1) (.float y r2) (.float z r3)) :: (D1, ({ cls := .type "tuple", data := .seq #[.float a t1, .float b t2, .float c t3] kk } : Obj)) :: (D0, oD) :: (I, oI) :: (B, oB) :: (To, listOf (tv.toArray.push (.ref D2)) ct) :: (Du, listOf (dv.toArray.push (.ref D1)) cd) :: X))
    (hdv : Are (ColX look X) dv (items.take i)) (htv : Are (ColX look X) tv (items.take i)) (hx : items[i]? = some (sy, l8)) (hb : ∀ p ∈ base, p ∈ X) (ho : ∀ p ∈ X, p.1 ≠ Du ∧ p.1 ≠ To) (offI : ∀ p ∈ X, p.1 ≠ I)
    (qa : FQ a (sy * 2 ^ 11)) (qb : FQ b (shr look sy * 2 ^ 18)) (qc : FQ c (l8 * 2 ^ 17)) (qx : FQ x (sy % 512 * 2 ^ 11)) (hsy : 0 ≤ sy ∧ sy ≤ 511) (qy : FQ y (shr look sy * 2 ^ 18)) (qz : FQ z (l8 * 2 ^ 17))
    (n1 : (t1 : Nat) ≠ 0) (n2 : (t2 : Nat) ≠ 0) (n3 : (t3 : Nat) ≠ 0) (m1 : (r1 : Nat) ≠ 0) (m2 : (r2 : Nat) ≠ 0) (m3 : (r3 : Nat) ≠ 0)
    (h1 : To < I) (h2 : Du < I) (h3 : I < D1) (h4 : I < D2) (k1 : m' (S' "due") = some (.ref Du)) (k2 : m' (S' "told") = some (.ref To)) (k3 : m' (S' "look") = some (.int look t9)) :
    ForPost h₀ L I oI s₁ (TolJ look Du To lv base items (i + 1)) Q .next { s₁ with heap := h, toks := tk } := by
  rw [show sy % 512 = sy by (first | lia | omega)] at qx
  have ec : ∀ (vs : List Value) (v : Value), vs.toArray.push v = List.toArray (vs ++ [v]) := fun vs v => by simp
  rw [ec, ec] at N
  have et : items.take (i + 1) = items.take i ++ [(sy, l8)] := by rw [List.take_add_one, hx]; rfl
  have sub : ∀ p ∈ X, p ∈ (D2, tup3 (.float x r1) (.float y r2) (.float z r3)) :: (D1, ({ cls := .type "tuple", data := .seq #[.float a t1, .float b t2, .float c t3] kk } : Obj)) :: X := fun p hp => .tail _ (.tail _ hp)
  refine ForEnd.intro ((To, listOf (List.toArray (tv ++ [.ref D2])) ct) :: (Du, listOf (List.toArray (dv ++ [.ref D1])) cd) :: (D2, tup3 (.float x r1) (.float y r2) (.float z r3)) :: (D1, ({ cls := .type "tuple", data := .seq #[.float a t1, .float b t2, .float c t3] kk } : Obj)) :: X) F N ?_ ?_
    ⟨_, _, _, _, _, t9, rfl, ?_, ?_, fun p hp => sub p (hb p hp), ?_, k1, k2, k3⟩
  · intro p hp
    simp only [List.mem_cons] at hp ⊢
    rcases hp with rfl | rfl | rfl | rfl | rfl | hp
    · exact .inr (.inr (.inr (.inl rfl)))
    · exact .inr (.inr (.inr (.inr (.inr (.inl rfl)))))
    · exact .inr (.inr (.inr (.inr (.inr (.inr (.inl rfl))))))
    · exact .inl rfl
    · exact .inr (.inl rfl)
    · exact .inr (.inr (.inr (.inr (.inr (.inr (.inr hp))))))
  · intro p hp
    simp only [List.mem_cons] at hp
    rcases hp with rfl | rfl | rfl | rfl | hp
    · exact ltN h1
    · exact ltN h2
    · exact gtN h4
    · exact gtN h3
    · exact offI p hp
  · rw [et]
    exact (hdv.imp (ColX.mono sub)).snoc ⟨D1, kk, a, b, c, t1, t2, t3, rfl, .tail _ (.head _), qa, qb, qc, n1, n2, n3⟩
  · rw [et]
    exact (htv.imp (ColX.mono sub)).snoc ⟨D2, 0, x, y, z, r1, r2, r3, rfl, .head _, qx, qy, qz, m1, m2, m3⟩
  · intro p hp
    simp only [List.mem_cons] at hp
    rcases hp with rfl | rfl | hp
    · exact ⟨gtN (Nat.lt_trans h2 h4), gtN (Nat.lt_trans h1 h4)⟩
    · exact ⟨gtN (Nat.lt_trans h2 h3), gtN (Nat.lt_trans h1 h3)⟩
    · exact ho p hp
end Mine
end
section
namespace Mine
/-- one entry set -/
theorem gm_set {M : List (List Int)} {n j k : Nat} {v : Int} (h : Sq n M) (hj : j < n) (hk : k < n) (j' k' : Nat) : gm (M.set j ((M.getD j []).set k v)) j' k' = if j' = j ∧ k' = k then v else gm M j' k' := by
  have hM : j < M.length := by rw [h.1]; exact hj
  have hr := (sq_row h hj).2
  unfold gm
  by_cases e : j' = j
  · subst e
    have e1 : (M.set j' ((M.getD j' []).set k v)).getD j' [] = (M.getD j' []).set k v := by
      rw [List.getD_eq_getElem?_getD, List.getElem?_set_self hM]; rfl
    rw [e1]
    by_cases e2 : k' = k
    · subst e2
      rw [if_pos ⟨rfl, rfl⟩, List.getD_eq_getElem?_getD, List.getElem?_set_self (by (first | lia | omega))]; rfl
    · rw [if_neg (fun q => e2 q.2), List.getD_eq_getElem?_getD, List.getElem?_set_ne (Ne.symm e2), ← List.getD_eq_getElem?_getD]
  · have e1 : (M.set j ((M.getD j []).set k v)).getD j' [] = M.getD j' [] := by
      rw [List.getD_eq_getElem?_getD, List.getElem?_set_ne (Ne.symm e), ← List.getD_eq_getElem?_getD]
    rw [e1, if_neg (fun q => e q.1)]
noncomputable def newE (M : List (List Int)) (b j k : Nat) : Int := min (gm M j k) (max (gm M j b) (gm M b k))
theorem gm_fwS {M : List (List Int)} {n b j k : Nat} (h : Sq n M) (hj : j < n) (hk : k < n) (j' k' : Nat) : gm (fwS b j M k) j' k' = if j' = j ∧ k' = k then newE M b j k else gm M j' k' := by
  unfold fwS
  by_cases hc : max (gm M j b) (gm M b k) < gm M j k
  · rw [if_pos hc, gm_set h hj hk, show newE M b j k = max (gm M j b) (gm M b k) by unfold newE; (first | lia | omega)]
  · rw [if_neg hc]
    by_cases e : j' = j ∧ k' = k
    · rw [if_pos e, e.1, e.2]; unfold newE; (first | lia | omega)
    · rw [if_neg e]
theorem newE_col (M : List (List Int)) (b j : Nat) : newE M b j b = gm M j b := by unfold newE; (first | lia | omega)
theorem newE_row (M : List (List Int)) (b k : Nat) : newE M b b k = gm M b k := by unfold newE; (first | lia | omega)
theorem gm_fwK {M : List (List Int)} {n b j : Nat} (h : Sq n M) (hj : j < n) : ∀ k, k ≤ n → ∀ j' k', gm (fwK b j M k) j' k' = if j' = j ∧ k' < k then newE M b j k' else gm M j' k'
  | 0, _, j', k' => by rw [if_neg (by (first | lia | omega))]; rfl
  | k + 1, hk, j', k' => by
    have ih := gm_fwK h hj (b := b) k (by (first | lia | omega))
    rw [fwK_succ, gm_fwS (sq_fwK h hj k) hj (by (first | lia | omega))]
    have e1 : gm (fwK b j M k) j k = gm M j k := by rw [ih, if_neg (by (first | lia | omega))]
    have e2 : gm (fwK b j M k) j b = gm M j b := by
      rw [ih]; split
      · exact newE_col M b j
      · rfl
    have e3 : gm (fwK b j M k) b k = gm M b k := by rw [ih, if_neg (by (first | lia | omega))]
    have e4 : newE (fwK b j M k) b j k = newE M b j k := by unfold newE; rw [e1, e2, e3]
    by_cases e : j' = j ∧ k' = k
    · rw [if_pos e, if_pos (by (first | lia | omega)), e4, e.2]
    · rw [if_neg e, ih]
      by_cases e5 : j' = j ∧ k' < k
      · rw [if_pos e5, if_pos (by (first | lia | omega))]
      · rw [if_neg e5, if_neg (by (first | lia | omega))]
theorem gm_fwJ {M : List (List Int)} {n b : Nat} (h : Sq n M) : ∀ j, j ≤ n → ∀ j' k', k' < n → gm (fwJ n b M j) j' k' = if j' < j then newE M b j' k' else gm M j' k'
  | 0, _, j', k', _ => by rw [if_neg (by (first | lia | omega))]; rfl
  | j + 1, hj, j', k', hk => by
    have ih := gm_fwJ h (b := b) j (by (first | lia | omega))
    rw [fwJ_succ, gm_fwK (sq_fwJ h j (by (first | lia | omega))) (by (first | lia | omega)) n (Nat.le_refl n)]
    by_cases e : j' = j
    · subst e
      rw [if_pos ⟨rfl, hk⟩, if_pos (by (first | lia | omega))]
      have e1 : gm (fwJ n b M j') j' k' = gm M j' k' := by rw [ih _ _ hk, if_neg (by (first | lia | omega))]
      have e3 : gm (fwJ n b M j') b k' = gm M b k' := by
        rw [ih _ _ hk]; split
        · exact newE_row M b k'
        · rfl
      by_cases hb : b < n
      · have e2 : gm (fwJ n b M j') j' b = gm M j' b := by rw [ih _ _ hb, if_neg (by (first | lia | omega))]
        unfold newE; rw [e1, e2, e3]
      · have e0 : ∀ N, Sq n N → ∀ j, j < n → gm N j b = 0 := fun N hN j hj => by
          unfold gm
          rw [List.getD_eq_getElem?_getD, List.getElem?_eq_none (by rw [(sq_row hN hj).2]; (first | lia | omega))]; rfl
        unfold newE; rw [e1, e3, e0 _ (sq_fwJ h j' (by (first | lia | omega))) j' (by (first | lia | omega)), e0 _ h j' (by (first | lia | omega))]
    · rw [if_neg (by (first | lia | omega)), ih _ _ hk]
      by_cases e5 : j' < j
      · rw [if_pos e5, if_pos (by (first | lia | omega))]
      · rw [if_neg e5, if_neg (by (first | lia | omega))]
theorem gm_fwB {M : List (List Int)} {n : Nat} (h : Sq n M) (b : Nat) {j k : Nat} (hj : j < n) (hk : k < n) : gm (fwB n M (b + 1)) j k = newE (fwB n M b) b j k := by
  rw [fwB_succ, gm_fwJ (sq_fwB h b) n (Nat.le_refl n) _ _ hk, if_pos hj]
theorem fw_le {M : List (List Int)} {n : Nat} (h : Sq n M) : ∀ b {j k : Nat}, j < n → k < n → gm (fwB n M b) j k ≤ gm M j k
  | 0, _, _, _, _ => Int.le_refl _
  | b + 1, j, k, hj, hk => by
    rw [gm_fwB h b hj hk]
    have := fw_le h b hj hk
    unfold newE; omega
theorem minmax {jk jb bk jc cb bc ck : Int} (i1 : jk ≤ max jc ck) (i2 : jb ≤ max jc cb) (i3 : bk ≤ max bc ck) : min jk (max jb bk) ≤ max (min jc (max jb bc)) (min ck (max cb bk)) := by
  have lm : ∀ {a b c : Int}, a ≤ c → b ≤ c → max a b ≤ c := fun h h' => Int.max_le.mpr ⟨h, h'⟩
  have L : ∀ {a b c : Int}, a ≤ b → a ≤ max b c := fun h => Int.le_trans h (Int.le_max_left _ _)
  have R : ∀ {a b c : Int}, a ≤ c → a ≤ max b c := fun h => Int.le_trans h (Int.le_max_right _ _)
  rcases Int.le_total jc (max jb bc) with h | h <;> rcases Int.le_total ck (max cb bk) with h' | h'
  · rw [Int.min_eq_left h, Int.min_eq_left h']; exact Int.le_trans (Int.min_le_left _ _) i1
  · rw [Int.min_eq_left h, Int.min_eq_right h']
    exact Int.le_trans (Int.min_le_right _ _) (lm (Int.le_trans i2 (lm (L (Int.le_refl _)) (R (L (Int.le_refl _))))) (R (R (Int.le_refl _))))
  · rw [Int.min_eq_right h, Int.min_eq_left h']
    exact Int.le_trans (Int.min_le_right _ _) (lm (L (L (Int.le_refl _))) (Int.le_trans i3 (lm (L (R (Int.le_refl _))) (R (Int.le_refl _)))))
  · rw [Int.min_eq_right h, Int.min_eq_right h']
    exact Int.le_trans (Int.min_le_right _ _) (lm (L (L (Int.le_refl _))) (R (R (Int.le_refl _))))
theorem fw_closed {M : List (List Int)} {n : Nat} (h : Sq n M) : ∀ b, b ≤ n → ∀ {c j k : Nat}, c < b → j < n → k < n → gm (fwB n M b) j k ≤ max (gm (fwB n M b) j c) (gm (fwB n M b) c k)
  | 0, _, c, _, _, hc, _, _ => by (first | lia | omega)
  | b + 1, hb, c, j, k, hc, hj, hk => by
    have hbn : b < n := by (first | lia | omega)
    rw [gm_fwB h b hj hk, gm_fwB h b hj (by (first | lia | omega)), gm_fwB h b (by (first | lia | omega)) hk]
    by_cases e : c = b
    · subst e
      rw [newE_col, newE_row]; unfold newE; (first | lia | omega)
    · have hcb : c < b := by (first | lia | omega)
      have ih := @fw_closed M n h b (by (first | lia | omega))
      have i1 := ih hcb hj hk
      have i2 := ih hcb hj hbn
      have i3 := ih hcb hbn hk
      exact minmax i1 i2 i3
theorem fw_ge {M : List (List Int)} {n : Nat} (h : Sq n M) {W : Nat → Nat → Int} (h1 : ∀ j k, j < n → k < n → W j k ≤ gm M j k) (h2 : ∀ j b k, j < n → b < n → k < n → W j k ≤ max (W j b) (W b k)) : ∀ b, b ≤ n → ∀ {j k : Nat}, j < n → k < n → W j k ≤ gm (fwB n M b) j k
  | 0, _, j, k, hj, hk => h1 j k hj hk
  | b + 1, hb, j, k, hj, hk => by
    rw [gm_fwB h b hj hk]
    have ih := @fw_ge M n h W h1 h2 b (by omega)
    have i1 := ih hj hk
    have i2 := ih hj (show b < n by omega)
    have i3 := ih (show b < n by omega) hk
    have i4 := h2 j b k hj (by omega) hk
    unfold newE; omega
end Mine
end
section
namespace Mine
noncomputable def lfs : Tr → List Int
  | .leaf s _ => [s]
  | .node _ _ a b => lfs a ++ lfs b
noncomputable def nds : Tr → List Int
  | .leaf _ _ => []
  | .node s _ a b => s :: (nds a ++ nds b)
noncomputable def rootS : Tr → Int
  | .leaf s _ => s
  | .node s _ _ _ => s
noncomputable def topL : Tr → Int
  | .leaf _ _ => 0
  | .node _ l _ _ => l
/-- no piece's level is above its own -/
noncomputable def Dn : Tr → Prop
  | .leaf _ _ => True
  | .node _ l a b => topL a ≤ l ∧ topL b ≤ l ∧ 0 ≤ l ∧ Dn a ∧ Dn b
/-- the level of the last node over both leaves -/
noncomputable def VL : Tr → Int → Int → Int
  | .leaf _ _, _, _ => 0
  | .node _ l a b, x, y => if x ∈ lfs a ∧ y ∈ lfs a then VL a x y else if x ∈ lfs b ∧ y ∈ lfs b then VL b x y else l
theorem VL_le : ∀ {t : Tr}, Dn t → ∀ x y, VL t x y ≤ topL t ∧ 0 ≤ VL t x y ∧ 0 ≤ topL t
  | .leaf _ _, _, _, _ => ⟨Int.le_refl _, Int.le_refl _, Int.le_refl _⟩
  | .node _ l a b, ⟨h1, h2, h3, ha, hb⟩, x, y => by
    have ia := VL_le ha x y
    have ib := VL_le hb x y
    show (if x ∈ lfs a ∧ y ∈ lfs a then VL a x y else if x ∈ lfs b ∧ y ∈ lfs b then VL b x y else l) ≤ l ∧ 0 ≤ (if x ∈ lfs a ∧ y ∈ lfs a then VL a x y else if x ∈ lfs b ∧ y ∈ lfs b then VL b x y else l) ∧ 0 ≤ l
    split
    · exact ⟨by (first | lia | omega), by (first | lia | omega), h3⟩
    · split
      · exact ⟨by (first | lia | omega), by (first | lia | omega), h3⟩
      · exact ⟨Int.le_refl _, h3, h3⟩
theorem VL_aa {s l : Int} {a b : Tr} {x y : Int} (hx : x ∈ lfs a) (hy : y ∈ lfs a) : VL (.node s l a b) x y = VL a x y := if_pos ⟨hx, hy⟩
theorem VL_bb {s l : Int} {a b : Tr} {x y : Int} (hx : x ∈ lfs b) (hy : y ∈ lfs b) (hn : x ∉ lfs a) : VL (.node s l a b) x y = VL b x y := (if_neg fun q => hn q.1).trans (if_pos ⟨hx, hy⟩)
theorem VL_ab {s l : Int} {a b : Tr} {x y : Int} (hx : x ∉ lfs b) (hy : y ∉ lfs a) : VL (.node s l a b) x y = l := (if_neg fun q => hy q.2).trans (if_neg fun q => hx q.1)
theorem VL_ba {s l : Int} {a b : Tr} {x y : Int} (hx : x ∉ lfs a) (hy : y ∉ lfs b) : VL (.node s l a b) x y = l := (if_neg fun q => hx q.1).trans (if_neg fun q => hy q.2)
theorem dis {a b : Tr} {s l : Int} (h : (lfs (.node s l a b)).Nodup) : (lfs a).Nodup ∧ (lfs b).Nodup ∧ (∀ x, x ∈ lfs a → x ∉ lfs b) ∧ ∀ x, x ∈ lfs b → x ∉ lfs a := by
  have h' := List.nodup_append.mp (show (lfs a ++ lfs b).Nodup from h)
  exact ⟨h'.1, h'.2.1, fun x ha hb => h'.2.2 x ha x hb rfl, fun x hb ha => h'.2.2 x ha x hb rfl⟩
theorem VL_ultra : ∀ {t : Tr}, (lfs t).Nodup → Dn t → ∀ {x y z : Int}, x ∈ lfs t → y ∈ lfs t → z ∈ lfs t → VL t x z ≤ max (VL t x y) (VL t y z)
  | .leaf _ _, _, _, _, _, _, _, _, _ => by show (0 : Int) ≤ max 0 0; (first | lia | omega)
  | .node s l a b, hn, hd, x, y, z, hx, hy, hz => by
    obtain ⟨na, nb, dab, dba⟩ := dis hn
    obtain ⟨h1, h2, h3, ha, hb⟩ := hd
    have ba := VL_le ha x z
    have bb := VL_le hb x z
    rcases List.mem_append.mp hx with hx | hx <;> rcases List.mem_append.mp hy with hy | hy <;> rcases List.mem_append.mp hz with hz | hz
    · rw [VL_aa hx hz, VL_aa hx hy, VL_aa hy hz]; exact VL_ultra na ha hx hy hz
    · rw [VL_ab (dab _ hx) (dba _ hz), VL_aa hx hy, VL_ab (dab _ hy) (dba _ hz)]; (first | lia | omega)
    · rw [VL_aa hx hz, VL_ab (dab _ hx) (dba _ hy), VL_ba (dba _ hy) (dab _ hz)]; (first | lia | omega)
    · rw [VL_ab (dab _ hx) (dba _ hz), VL_ab (dab _ hx) (dba _ hy), VL_bb hy hz (dba _ hy)]; (first | lia | omega)
    · rw [VL_ba (dba _ hx) (dab _ hz), VL_ba (dba _ hx) (dab _ hy), VL_aa hy hz]; (first | lia | omega)
    · rw [VL_bb hx hz (dba _ hx), VL_ba (dba _ hx) (dab _ hy), VL_ab (dab _ hy) (dba _ hz)]; (first | lia | omega)
    · rw [VL_ba (dba _ hx) (dab _ hz), VL_bb hx hy (dba _ hx), VL_ba (dba _ hy) (dab _ hz)]; (first | lia | omega)
    · rw [VL_bb hx hz (dba _ hx), VL_bb hx hy (dba _ hx), VL_bb hy hz (dba _ hy)]; exact VL_ultra nb hb hx hy hz
/-- no two leaves' level is above their price -/
noncomputable def PrOK (t : Tr) : Prop := ∀ x ∈ lfs t, ∀ y ∈ lfs t, VL t x y ≤ price x y
/-- what keeps below the prices and lets no way be shorter keeps below the levels -/
noncomputable def Ult (ls : List Int) (W : Int → Int → Int) : Prop := (∀ x ∈ ls, ∀ y ∈ ls, W x y ≤ price x y) ∧ ∀ x ∈ ls, ∀ y ∈ ls, ∀ z ∈ ls, W x z ≤ max (W x y) (W y z)
noncomputable def MnOK (ls : List Int) (t : Tr) : Prop := ∀ W, Ult ls W → ∀ x ∈ lfs t, ∀ y ∈ lfs t, W x y ≤ VL t x y
theorem PrOK.node {s l : Int} {a b : Tr} (hn : (lfs (.node s l a b)).Nodup) (ha : PrOK a) (hb : PrOK b) (hc : ∀ x ∈ lfs a, ∀ y ∈ lfs b, l ≤ price x y) : PrOK (.node s l a b) := by
  obtain ⟨_, _, dab, dba⟩ := dis hn
  intro x hx y hy
  rcases List.mem_append.mp hx with hx | hx <;> rcases List.mem_append.mp hy with hy | hy
  · rw [VL_aa hx hy]; exact ha x hx y hy
  · rw [VL_ab (dab _ hx) (dba _ hy)]; exact hc x hx y hy
  · rw [VL_ba (dba _ hx) (dab _ hy), price_comm]; exact hc y hy x hx
  · rw [VL_bb hx hy (dba _ hx)]; exact hb x hx y hy
theorem MnOK.node {ls : List Int} {s l : Int} {a b : Tr} {p q : Int} (hn : (lfs (.node s l a b)).Nodup) (hs : ∀ x ∈ lfs (.node s l a b), x ∈ ls) (da : Dn a) (db : Dn b) (ha : MnOK ls a) (hb : MnOK ls b) (hp : p ∈ lfs a) (hq : q ∈ lfs b) (hl : price p q = l) (h1 : topL a ≤ l) (h2 : topL b ≤ l) : MnOK ls (.node s l a b) := by
  obtain ⟨_, _, dab, dba⟩ := dis hn
  have sa : ∀ x ∈ lfs a, x ∈ ls := fun x hx => hs x (List.mem_append_left _ hx)
  have sb : ∀ x ∈ lfs b, x ∈ ls := fun x hx => hs x (List.mem_append_right _ hx)
  intro W hW x hx y hy
  have pa := sa p hp
  have qb := sb q hq
  rcases List.mem_append.mp hx with hx | hx <;> rcases List.mem_append.mp hy with hy | hy
  · rw [VL_aa hx hy]; exact ha W hW x hx y hy
  · rw [VL_ab (dab _ hx) (dba _ hy)]
    have e1 := hW.2 x (sa _ hx) p pa y (sb _ hy)
    have e2 := hW.2 p pa q qb y (sb _ hy)
    have e3 := ha W hW x hx p hp
    have e4 := hb W hW q hq y hy
    have e5 := hW.1 p pa q qb
    have e6 := (VL_le da x p).1
    have e7 := (VL_le db q y).1
    omega
  · rw [VL_ba (dba _ hx) (dab _ hy)]
    have e1 := hW.2 x (sb _ hx) q qb y (sa _ hy)
    have e2 := hW.2 q qb p pa y (sa _ hy)
    have e3 := hb W hW x hx q hq
    have e4 := ha W hW p hp y hy
    have e5 := hW.1 q qb p pa
    rw [price_comm] at e5
    have e6 := (VL_le db x q).1
    have e7 := (VL_le da p y).1
    omega
  · rw [VL_bb hx hy (dba _ hx)]; exact hb W hW x hx y hy
theorem pre_two : ∀ t : Tr, (pre t).length + 1 = 2 * (lfs t).length ∧ 1 ≤ (lfs t).length
  | .leaf _ _ => ⟨rfl, Nat.le_refl _⟩
  | .node _ _ a b => by
    have h1 := pre_two a
    have h2 := pre_two b
    simp only [pre, lfs, List.length_cons, List.length_append]
    (first | lia | omega)
theorem fnd_fst : ∀ (t : Tr) (ab : List SL), (fnd t ab).map (·.1) = lfs t
  | .leaf _ _, _ => rfl
  | .node _ _ a b, ab => by simp only [fnd, lfs, List.map_append, fnd_fst]
theorem fnd_abv : ∀ (t : Tr) (ab : List SL), ∀ x ∈ fnd t ab, ∃ r, x.2 = ab ++ r ∧ (∀ p ∈ r, p.1 ∈ nds t) ∧ r.length ≤ (pre t).length
  | .leaf _ _, ab, x, h => by
    rw [List.mem_singleton.mp (show x ∈ [_] from h)]
    exact ⟨[], (List.append_nil _).symm, by simp, by simp⟩
  | .node s l a b, ab, x, h => by
    rcases List.mem_append.mp (show x ∈ fnd a (ab ++ [(s, l)]) ++ fnd b (ab ++ [(s, l)]) from h) with h | h
    · obtain ⟨r, e, hr, hl⟩ := fnd_abv a _ x h
      refine ⟨(s, l) :: r, by rw [e]; simp, fun p hp => ?_, ?_⟩
      · rcases List.mem_cons.mp hp with rfl | hp
        · exact .head _
        · exact .tail _ (List.mem_append_left _ (hr p hp))
      · simp only [pre, List.length_cons, List.length_append]; (first | lia | omega)
    · obtain ⟨r, e, hr, hl⟩ := fnd_abv b _ x h
      refine ⟨(s, l) :: r, by rw [e]; simp, fun p hp => ?_, ?_⟩
      · rcases List.mem_cons.mp hp with rfl | hp
        · exact .head _
        · exact .tail _ (List.mem_append_right _ (hr p hp))
      · simp only [pre, List.length_cons, List.length_append]; (first | lia | omega)
end Mine
end
section
namespace Mine
noncomputable def lvl (above beyond : List SL) : List Int := (above.filter fun p => decide (p ∈ beyond)).map (·.2)
theorem cut_abv {ab rx ry : List SL} (h1 : ∀ p ∈ rx, p ∉ ab) (h2 : ∀ p ∈ rx, p ∉ ry) : ((ab ++ rx).filter fun p => decide (p ∈ ab ++ ry)) = ab := by
  rw [List.filter_append]
  have e1 : (ab.filter fun p => decide (p ∈ ab ++ ry)) = ab := List.filter_eq_self.mpr fun p hp => decide_eq_true (List.mem_append_left _ hp)
  have e2 : (rx.filter fun p => decide (p ∈ ab ++ ry)) = [] := List.filter_eq_nil_iff.mpr fun p hp q => by
    rcases List.mem_append.mp (of_decide_eq_true q) with q | q
    · exact h1 p hp q
    · exact h2 p hp q
  rw [e1, e2, List.append_nil]
/-- what two leaves share: the last is the level of the last node over both -/
theorem fnd_lvl : ∀ (t : Tr) (ab : List SL), (lfs t).Nodup → (ab.map (·.1) ++ nds t).Nodup → ∀ {j k : Nat} {x y : Int × List SL}, j ≠ k → (fnd t ab)[k]? = some x → (fnd t ab)[j]? = some y →
    ∃ q s, (x.2.filter fun p => decide (p ∈ y.2)) = q ++ [(s, VL t x.1 y.1)]
  | .leaf _ _, ab, _, _, j, k, x, y, hjk, hk, hj => by
    have h1 := (List.getElem?_eq_some_iff.mp hk).1
    have h2 := (List.getElem?_eq_some_iff.mp hj).1
    simp only [fnd, List.length_singleton] at h1 h2
    (first | lia | omega)
  | .node s l a b, ab, hn, hd, j, k, x, y, hjk, hk, hj => by
    obtain ⟨na, nb, dab, dba⟩ := dis hn
    have hd' := List.nodup_append.mp hd
    have hs := List.nodup_cons.mp (show (s :: (nds a ++ nds b)).Nodup from hd'.2.1)
    have hab := List.nodup_append.mp hs.2
    have off : ∀ q ∈ nds a ++ nds b, q ∉ (ab ++ [(s, l)]).map (·.1) := fun q hq hm => by
      rw [List.map_append] at hm
      rcases List.mem_append.mp hm with hm | hm
      · exact hd'.2.2 q hm q (.tail _ hq) rfl
      · rw [List.mem_singleton.mp hm] at hq; exact hs.1 hq
    have nab : ((ab ++ [(s, l)]).map (·.1)).Nodup := by
      rw [List.map_append, List.nodup_append]
      exact ⟨hd'.1, by simp, fun p hp q hq => by rw [List.mem_singleton.mp hq]; exact fun e => hd'.2.2 p hp s (.head _) e⟩
    have da : ((ab ++ [(s, l)]).map (·.1) ++ nds a).Nodup := List.nodup_append.mpr ⟨nab, hab.1, fun p hp q hq e => off q (List.mem_append_left _ hq) (e ▸ hp)⟩
    have db : ((ab ++ [(s, l)]).map (·.1) ++ nds b).Nodup := List.nodup_append.mpr ⟨nab, hab.2.1, fun p hp q hq e => off q (List.mem_append_right _ hq) (e ▸ hp)⟩
    have mem1 : ∀ (t : Tr) {i : Nat} {z : Int × List SL}, (fnd t (ab ++ [(s, l)]))[i]? = some z → z.1 ∈ lfs t := fun t i z hz => by
      rw [← fnd_fst t (ab ++ [(s, l)])]
      exact List.mem_map_of_mem (List.mem_of_getElem? hz)
    have offp : ∀ {r : List SL}, (∀ p ∈ r, p.1 ∈ nds a ++ nds b) → ∀ p ∈ r, p ∉ ab ++ [(s, l)] := fun hr p hp hm => off p.1 (hr p hp) (List.mem_map_of_mem hm)
    have hk' : (fnd a (ab ++ [(s, l)]) ++ fnd b (ab ++ [(s, l)]))[k]? = some x := hk
    have hj' : (fnd a (ab ++ [(s, l)]) ++ fnd b (ab ++ [(s, l)]))[j]? = some y := hj
    rw [List.getElem?_append] at hk' hj'
    by_cases h1 : k < (fnd a (ab ++ [(s, l)])).length
    · rw [if_pos h1] at hk'
      by_cases h2 : j < (fnd a (ab ++ [(s, l)])).length
      · rw [if_pos h2] at hj'
        obtain ⟨q, s', e⟩ := fnd_lvl a _ na da hjk hk' hj'
        exact ⟨q, s', by rw [e, VL_aa (mem1 a hk') (mem1 a hj')]⟩
      · rw [if_neg h2] at hj'
        obtain ⟨rx, ex, hx, _⟩ := fnd_abv a _ x (List.mem_of_getElem? hk')
        obtain ⟨ry, ey, hy, _⟩ := fnd_abv b _ y (List.mem_of_getElem? hj')
        refine ⟨ab, s, ?_⟩
        rw [ex, ey, VL_ab (dab _ (mem1 a hk')) (dba _ (mem1 b hj'))]
        exact cut_abv (offp fun p hp => List.mem_append_left _ (hx p hp)) fun p hp hq => hab.2.2 p.1 (hx p hp) p.1 (hy p hq) rfl
    · rw [if_neg h1] at hk'
      by_cases h2 : j < (fnd a (ab ++ [(s, l)])).length
      · rw [if_pos h2] at hj'
        obtain ⟨rx, ex, hx, _⟩ := fnd_abv b _ x (List.mem_of_getElem? hk')
        obtain ⟨ry, ey, hy, _⟩ := fnd_abv a _ y (List.mem_of_getElem? hj')
        refine ⟨ab, s, ?_⟩
        rw [ex, ey, VL_ba (dba _ (mem1 b hk')) (dab _ (mem1 a hj'))]
        exact cut_abv (offp fun p hp => List.mem_append_right _ (hx p hp)) fun p hp hq => hab.2.2 p.1 (hy p hq) p.1 (hx p hp) rfl
      · rw [if_neg h2] at hj'
        obtain ⟨q, s', e⟩ := fnd_lvl b _ nb db (show j - (fnd a (ab ++ [(s, l)])).length ≠ k - (fnd a (ab ++ [(s, l)])).length by (first | lia | omega)) hk' hj'
        exact ⟨q, s', by rw [e, VL_bb (mem1 b hk') (mem1 b hj') (dba _ (mem1 b hk'))]⟩
theorem flat_uniq {α : Type} {g : α → List Int} : ∀ {F : List α}, (F.flatMap g).Nodup → ∀ {t t' : α}, t ∈ F → t' ∈ F → ∀ {x : Int}, x ∈ g t → x ∈ g t' → t = t'
  | [], _, _, _, h, _, _, _, _ => nomatch h
  | u :: r, hn, t, t', h, h', x, hx, hx' => by
    rw [List.flatMap_cons] at hn
    have hn' := List.nodup_append.mp hn
    rcases List.mem_cons.mp h with e | hr <;> rcases List.mem_cons.mp h' with e' | hr'
    · rw [e, e']
    · subst e; exact absurd rfl (hn'.2.2 x hx x (List.mem_flatMap.mpr ⟨_, hr', hx'⟩))
    · subst e'; exact absurd rfl (hn'.2.2 x hx' x (List.mem_flatMap.mpr ⟨_, hr, hx⟩))
    · exact flat_uniq hn'.2.1 hr hr' hx hx'
theorem pull {α : Type} {F : List α} {a : α} (h : a ∈ F) : ∃ G, F.Perm (a :: G) := by
  obtain ⟨s, t, rfl⟩ := List.append_of_mem h
  exact ⟨s ++ t, List.perm_middle⟩
theorem pull2 {α : Type} {F : List α} {a b : α} (ha : a ∈ F) (hb : b ∈ F) (hne : a ≠ b) : ∃ G, F.Perm (a :: b :: G) := by
  obtain ⟨G, h⟩ := pull ha
  have hb' : b ∈ G := (List.mem_cons.mp (h.mem_iff.mp hb)).resolve_left (Ne.symm hne)
  obtain ⟨H, h2⟩ := pull hb'
  exact ⟨H, h.trans (h2.cons a)⟩
theorem perm_flat {α : Type} (g : α → List Int) {F G : List α} (h : F.Perm G) : (F.flatMap g).Perm (G.flatMap g) := by
  induction h with
  | nil => exact .refl _
  | cons x _ ih => rw [List.flatMap_cons, List.flatMap_cons]; exact ih.append_left _
  | swap x y l =>
    simp only [List.flatMap_cons]
    rw [← List.append_assoc, ← List.append_assoc]
    exact List.perm_append_comm.append_right _
  | trans _ _ h1 h2 => exact h1.trans h2
theorem getD_set_at {α : Type} {l : List α} {m i : Nat} {v d : α} (h : m < l.length) : (l.set m v).getD i d = if i = m then v else l.getD i d := by
  by_cases e : i = m
  · subst e
    rw [if_pos rfl, List.getD_eq_getElem?_getD, List.getElem?_set_self h]; rfl
  · rw [if_neg e, List.getD_eq_getElem?_getD, List.getElem?_set_ne (Ne.symm e), ← List.getD_eq_getElem?_getD]
noncomputable abbrev d0 : Tr := .leaf 0 0
/-- the merging loop, entry by entry -/
theorem mrg_at {a b f : Int} {t : Tr} {S : List Int × List Tr} {n : Nat} (h1 : S.1.length = n) (h2 : S.2.length = n) : ∀ m, m ≤ n → ∀ i, (mrg a b f t S m).1.getD i 0 = (if i < m ∧ (S.1.getD i 0 = a ∨ S.1.getD i 0 = b) then f else S.1.getD i 0) ∧
    (mrg a b f t S m).2.getD i d0 = (if i < m ∧ (S.1.getD i 0 = a ∨ S.1.getD i 0 = b) then t else S.2.getD i d0)
  | 0, _, i => by rw [if_neg (by (first | lia | omega)), if_neg (by (first | lia | omega))]; exact ⟨rfl, rfl⟩
  | m + 1, hm, i => by
    have ih := mrg_at (a := a) (b := b) (f := f) (t := t) h1 h2 m (by (first | lia | omega))
    have hl := mrg_len (a := a) (b := b) (f := f) (t := t) (S := S) m
    have e0 : (mrg a b f t S m).1.getD m 0 = S.1.getD m 0 := by rw [(ih m).1, if_neg (by (first | lia | omega))]
    show (mrgS a b f t (mrg a b f t S m) m).1.getD i 0 = _ ∧ (mrgS a b f t (mrg a b f t S m) m).2.getD i d0 = _
    unfold mrgS
    rw [e0]
    by_cases hc : S.1.getD m 0 = a ∨ S.1.getD m 0 = b
    · rw [if_pos hc]
      dsimp only
      rw [getD_set_at (by rw [hl.1]; (first | lia | omega)), getD_set_at (by rw [hl.2]; (first | lia | omega)), (ih i).1, (ih i).2]
      by_cases e : i = m
      · subst e
        rw [if_pos rfl, if_pos rfl, if_pos ⟨by (first | lia | omega), hc⟩, if_pos ⟨by (first | lia | omega), hc⟩]; exact ⟨rfl, rfl⟩
      · rw [if_neg e, if_neg e]
        by_cases q : i < m ∧ (S.1.getD i 0 = a ∨ S.1.getD i 0 = b)
        · rw [if_pos q, if_pos q, if_pos ⟨by (first | lia | omega), q.2⟩, if_pos ⟨by (first | lia | omega), q.2⟩]; exact ⟨rfl, rfl⟩
        · rw [if_neg q, if_neg q, if_neg (fun z => q ⟨by (first | lia | omega), z.2⟩), if_neg (fun z => q ⟨by (first | lia | omega), z.2⟩)]; exact ⟨rfl, rfl⟩
    · rw [if_neg hc, (ih i).1, (ih i).2]
      by_cases q : i < m ∧ (S.1.getD i 0 = a ∨ S.1.getD i 0 = b)
      · rw [if_pos q, if_pos q, if_pos ⟨by (first | lia | omega), q.2⟩, if_pos ⟨by (first | lia | omega), q.2⟩]; exact ⟨rfl, rfl⟩
      · have q' : ¬ (i < m + 1 ∧ (S.1.getD i 0 = a ∨ S.1.getD i 0 = b)) := fun z => by
          by_cases e : i = m
          · subst e; exact hc z.2
          · exact q ⟨by (first | lia | omega), z.2⟩
        rw [if_neg q, if_neg q, if_neg q', if_neg q']; exact ⟨rfl, rfl⟩
end Mine
end
section
namespace Mine
noncomputable abbrev Tie3 := Int × Nat × Nat
/-- what holds of one piece -/
structure PcOK (ls : List Int) (R : List Tie3) (t : Tr) : Prop where
  ok : t.ok
  lv : ∀ x ∈ pre t, (1 ≤ x.1 ∧ x.1 ≤ 511) ∧ 1 ≤ x.2 ∧ x.2 ≤ 8
  dn : Dn t
  pr : PrOK t
  mn : MnOK ls t
  top : ∀ x ∈ R, topL t ≤ x.1
/-- the pieces between the ties: F the pieces, R the ties to come -/
structure FI (ls : List Int) (S : TS) (F : List Tr) (R : List Tie3) : Prop where
  l1 : S.hs.length = ls.length
  l2 : S.ts.length = ls.length
  perm : (F.flatMap lfs).Perm ls
  at_ : ∀ i, i < ls.length → S.ts.getD i d0 ∈ F ∧ ls.getD i 0 ∈ lfs (S.ts.getD i d0) ∧ S.hs.getD i 0 = rootS (S.ts.getD i d0)
  nn : (F.flatMap nds).Nodup
  nr : ∀ s ∈ F.flatMap nds, (256 ≤ s ∧ s ≤ 511) ∧ s ∉ S.fr
  fn : S.fr.Nodup
  fb : ∀ s ∈ S.fr, 256 ≤ s ∧ s ≤ 511
  fl : S.fr.length ≤ 4
  fc : F.length ≤ S.fr.length + 1
  pc : ∀ t ∈ F, PcOK ls R t
  op : ∀ i j, i < ls.length → j < ls.length → S.hs.getD i 0 ≠ S.hs.getD j 0 → ∃ x ∈ R, x.1 = price (ls.getD i 0) (ls.getD j 0) ∧ ((x.2.1 = i ∧ x.2.2 = j) ∨ (x.2.1 = j ∧ x.2.2 = i))
section
variable {ls : List Int} {S : TS} {F : List Tr} {R : List Tie3}
theorem root_nd : ∀ {t : Tr}, rootS t ∈ lfs t ∧ nds t = [] ∨ rootS t ∈ nds t
  | .leaf _ _ => .inl ⟨.head _, rfl⟩
  | .node _ _ _ _ => .inr (.head _)
theorem FI.lb (h : FI ls S F R) (hf : LeafSt ls ls.length) {t : Tr} (ht : t ∈ F) {x : Int} (hx : x ∈ lfs t) : x ∈ ls ∧ 1 ≤ x ∧ x ≤ 255 := by
  have := h.perm.mem_iff.mp (List.mem_flatMap.mpr ⟨t, ht, hx⟩)
  exact ⟨this, hf.bd x this⟩
theorem FI.ln (h : FI ls S F R) (hf : LeafSt ls ls.length) : (F.flatMap lfs).Nodup := h.perm.nodup_iff.mpr hf.nd
theorem FI.root (h : FI ls S F R) (hf : LeafSt ls ls.length) {t t' : Tr} (ht : t ∈ F) (ht' : t' ∈ F) (e : rootS t = rootS t') : t = t' := by
  rcases root_nd (t := t) with ⟨a, _⟩ | a <;> rcases root_nd (t := t') with ⟨b, _⟩ | b
  · exact flat_uniq (h.ln hf) ht ht' a (e ▸ b)
  · have h1 := (h.lb hf ht a).2
    have h2 := (h.nr _ (List.mem_flatMap.mpr ⟨t', ht', b⟩)).1
    (first | lia | omega)
  · have h1 := (h.lb hf ht' b).2
    have h2 := (h.nr _ (List.mem_flatMap.mpr ⟨t, ht, a⟩)).1
    (first | lia | omega)
  · exact flat_uniq h.nn ht ht' a (e ▸ b)
theorem FI.small (h : FI ls S F R) {t : Tr} (ht : t ∈ F) : (lfs t).length ≤ ls.length := by
  rw [← h.perm.length_eq]
  obtain ⟨G, hG⟩ := pull ht
  rw [(perm_flat lfs hG).length_eq, List.flatMap_cons, List.length_append]
  (first | lia | omega)
theorem FI.tok (h : FI ls S F R) (hl : ls.length ≤ 5) : TOk ls.length S := by
  refine ⟨h.l1, h.l2, fun t ht => ?_⟩
  obtain ⟨i, hi, rfl⟩ := List.getElem_of_mem ht
  have e := h.at_ i (by rw [← h.l2]; exact hi)
  have e1 : S.ts.getD i d0 = S.ts[i] := by rw [List.getD_eq_getElem?_getD, List.getElem?_eq_getElem hi]; rfl
  rw [e1] at e
  have h1 := h.small e.1
  have h2 := pre_two S.ts[i]
  (first | lia | omega)
/-- two homes that differ are two pieces, and a number is free -/
theorem FI.two (h : FI ls S F R) {j k : Nat} (hj : j < ls.length) (hk : k < ls.length) (hne : S.hs.getD j 0 ≠ S.hs.getD k 0) :
    ∃ G f r, F.Perm (S.ts.getD j d0 :: S.ts.getD k d0 :: G) ∧ S.fr = f :: r := by
  have ej := h.at_ j hj
  have ek := h.at_ k hk
  obtain ⟨G, hG⟩ := pull2 ej.1 ek.1 (fun e => hne (by rw [ej.2.2, ek.2.2, e]))
  have hlen := hG.length_eq
  have hc := h.fc
  cases hfr : S.fr with
  | nil => rw [hfr] at hc; simp only [List.length_cons, List.length_nil] at hlen hc; (first | lia | omega)
  | cons f r => exact ⟨G, f, r, hG, rfl⟩
theorem FI.turn (h : FI ls S F R) (hl : ls.length ≤ 5) {x : Tie3} (hj : x.2.1 < ls.length) (hk : x.2.2 < ls.length) : TTurn ls.length S x := by
  refine ⟨hj, hk, h.tok hl, fun hne => ?_⟩
  obtain ⟨G, f, r, hG, hfr⟩ := h.two hj hk hne
  have h1 := h.small (h.at_ _ hj).1
  have h2 := h.small (h.at_ _ hk).1
  have h3 := pre_two (S.ts.getD x.2.1 d0)
  have h4 := pre_two (S.ts.getD x.2.2 d0)
  have h5 := h.fl
  rw [hfr, List.length_cons] at h5
  exact ⟨f, r, hfr, by (first | lia | omega), (by show (pre (S.ts.getD x.2.1 d0)).length ≤ 15; (first | lia | omega)), by show (pre (S.ts.getD x.2.2 d0)).length ≤ 15; (first | lia | omega)⟩
/-- a tie within one piece changes nothing -/
theorem FI.skip {x : Tie3} (h : FI ls S F (x :: R)) (he : S.hs.getD x.2.1 0 = S.hs.getD x.2.2 0) : FI ls S F R where
  l1 := h.l1
  l2 := h.l2
  perm := h.perm
  at_ := h.at_
  nn := h.nn
  nr := h.nr
  fn := h.fn
  fb := h.fb
  fl := h.fl
  fc := h.fc
  pc t ht := let q := h.pc t ht; ⟨q.ok, q.lv, q.dn, q.pr, q.mn, fun y hy => q.top y (.tail _ hy)⟩
  op i j hi hj hne := by
    obtain ⟨y, hy, e, q⟩ := h.op i j hi hj hne
    rcases List.mem_cons.mp hy with rfl | hy
    · rcases q with ⟨rfl, rfl⟩ | ⟨rfl, rfl⟩
      · exact absurd he hne
      · exact absurd he.symm hne
    · exact ⟨y, hy, e, q⟩
/-- a tie between two pieces joins them -/
theorem FI.join {x : Tie3} (hf : LeafSt ls ls.length) (h : FI ls S F (x :: R)) (hs : ∀ y ∈ R, x.1 ≤ y.1) (hj : x.2.1 < ls.length) (hk : x.2.2 < ls.length) (hp : x.1 = price (ls.getD x.2.1 0) (ls.getD x.2.2 0)) (hb : 1 ≤ x.1 ∧ x.1 ≤ 8) (hne : S.hs.getD x.2.1 0 ≠ S.hs.getD x.2.2 0) :
    ∃ F', FI ls (tstep S x) F' R := by
  obtain ⟨p, j, k⟩ := x
  dsimp only at hj hk hp hb hne hs
  obtain ⟨G, f, r, hG, hfr⟩ := h.two hj hk hne
  obtain ⟨a1, a2, a3⟩ := h.at_ j hj
  obtain ⟨b1, b2, b3⟩ := h.at_ k hk
  generalize ha : S.ts.getD j d0 = a at *
  generalize hbb : S.ts.getD k d0 = b at *
  have hab : a ≠ b := fun e => hne (by rw [a3, b3, e])
  have hst : tstep S (p, j, k) = ⟨(mrg (rootS a) (rootS b) f (.node f p a b) (S.hs, S.ts) ls.length).1, (mrg (rootS a) (rootS b) f (.node f p a b) (S.hs, S.ts) ls.length).2, r⟩ := by
    have e1 : tnode S (p, j, k) = .node f p a b := by
      unfold tnode
      rw [hfr]
      show Tr.node f p (S.ts.getD j d0) (S.ts.getD k d0) = _
      rw [ha, hbb]
    unfold tstep
    rw [if_neg hne, e1, hfr, h.l1]
    dsimp only
    rw [a3, b3]; rfl
  have ma := mrg_at (a := rootS a) (b := rootS b) (f := f) (t := .node f p a b) (S := (S.hs, S.ts)) h.l1 h.l2 ls.length (Nat.le_refl _)
  have ml := mrg_len (a := rootS a) (b := rootS b) (f := f) (t := .node f p a b) (S := (S.hs, S.ts)) ls.length
  have qa := h.pc a a1
  have qb := h.pc b b1
  have pl : (F.flatMap lfs).Perm (lfs a ++ (lfs b ++ G.flatMap lfs)) := by
    have := perm_flat lfs hG
    rwa [List.flatMap_cons, List.flatMap_cons] at this
  have pn : (F.flatMap nds).Perm (nds a ++ (nds b ++ G.flatMap nds)) := by
    have := perm_flat nds hG
    rwa [List.flatMap_cons, List.flatMap_cons] at this
  have pn' : ((Tr.node f p a b :: G).flatMap nds).Perm (f :: F.flatMap nds) := by
    rw [List.flatMap_cons]
    show (f :: (nds a ++ nds b) ++ G.flatMap nds).Perm _
    rw [List.cons_append, List.append_assoc]
    exact pn.symm.cons f
  have hfF : f ∉ F.flatMap nds := fun q => (h.nr f q).2 (by rw [hfr]; exact .head _)
  have hfb := h.fb f (by rw [hfr]; exact .head _)
  have hfn := h.fn
  rw [hfr] at hfn
  have hfn' := List.nodup_cons.mp hfn
  have hnl : (lfs (Tr.node f p a b)).Nodup := by
    have := pl.nodup_iff.mp (h.ln hf)
    rw [← List.append_assoc] at this
    exact (List.nodup_append.mp this).1
  have cross : ∀ u ∈ lfs a, ∀ v ∈ lfs b, p ≤ price u v := by
    intro u hu v hv
    obtain ⟨iu, hiu, eu⟩ := List.getElem_of_mem (h.lb hf a1 hu).1
    obtain ⟨iv, hiv, ev⟩ := List.getElem_of_mem (h.lb hf b1 hv).1
    have gu : ls.getD iu 0 = u := by rw [List.getD_eq_getElem?_getD, List.getElem?_eq_getElem hiu, eu]; rfl
    have gv : ls.getD iv 0 = v := by rw [List.getD_eq_getElem?_getD, List.getElem?_eq_getElem hiv, ev]; rfl
    have tu := h.at_ iu hiu
    have tv := h.at_ iv hiv
    rw [gu] at tu
    rw [gv] at tv
    have e1 : S.ts.getD iu d0 = a := flat_uniq (h.ln hf) tu.1 a1 tu.2.1 hu
    have e2 : S.ts.getD iv d0 = b := flat_uniq (h.ln hf) tv.1 b1 tv.2.1 hv
    obtain ⟨y, hy, e, _⟩ := h.op iu iv hiu hiv (by rw [tu.2.2, tv.2.2, e1, e2, ← a3, ← b3]; exact hne)
    rw [gu, gv] at e
    rw [← e]
    rcases List.mem_cons.mp hy with rfl | hy
    · exact Int.le_refl _
    · exact hs y hy
  have hGF : ∀ t ∈ G, t ∈ F := fun t ht => hG.mem_iff.mpr (.tail _ (.tail _ ht))
  have hFG : ∀ t ∈ F, t ≠ a → t ≠ b → t ∈ G := fun t ht h1 h2 => (List.mem_cons.mp ((List.mem_cons.mp (hG.mem_iff.mp ht)).resolve_left h1)).resolve_left h2
  have hcond : ∀ i, i < ls.length → ((S.hs.getD i 0 = rootS a ∨ S.hs.getD i 0 = rootS b) ↔ (S.ts.getD i d0 = a ∨ S.ts.getD i d0 = b)) := fun i hi => by
    have q := h.at_ i hi
    rw [q.2.2]
    constructor
    · rintro (e | e)
      · exact .inl (h.root hf q.1 a1 e)
      · exact .inr (h.root hf q.1 b1 e)
    · rintro (e | e)
      · exact .inl (by rw [e])
      · exact .inr (by rw [e])
  have ta : topL a ≤ p := qa.top (p, j, k) (.head _)
  have tb : topL b ≤ p := qb.top (p, j, k) (.head _)
  refine ⟨.node f p a b :: G, ?_⟩
  rw [hst]
  refine ⟨ml.1.trans h.l1, ml.2.trans h.l2, ?_, ?_, pn'.nodup_iff.mpr (List.nodup_cons.mpr ⟨hfF, h.nn⟩), ?_, hfn'.2, fun s hs => h.fb s (by rw [hfr]; exact .tail _ hs), ?_, ?_, ?_, ?_⟩
  · rw [List.flatMap_cons]
    show ((lfs a ++ lfs b) ++ G.flatMap lfs).Perm ls
    rw [List.append_assoc]
    exact pl.symm.trans h.perm
  · intro i hi
    have q := h.at_ i hi
    dsimp only
    rw [(ma i).1, (ma i).2]
    dsimp only
    by_cases e : S.hs.getD i 0 = rootS a ∨ S.hs.getD i 0 = rootS b
    · rw [if_pos ⟨hi, e⟩, if_pos ⟨hi, e⟩]
      refine ⟨.head _, ?_, rfl⟩
      rcases (hcond i hi).mp e with e | e
      · rw [e] at q; exact List.mem_append_left _ q.2.1
      · rw [e] at q; exact List.mem_append_right _ q.2.1
    · rw [if_neg (fun z => e z.2), if_neg (fun z => e z.2)]
      exact ⟨.tail _ (hFG _ q.1 (fun z => e ((hcond i hi).mpr (.inl z))) fun z => e ((hcond i hi).mpr (.inr z))), q.2.1, q.2.2⟩
  · intro s hs
    rcases List.mem_cons.mp (pn'.mem_iff.mp hs) with rfl | hs
    · exact ⟨hfb, hfn'.1⟩
    · have q := h.nr s hs
      exact ⟨q.1, fun z => q.2 (by rw [hfr]; exact .tail _ z)⟩
  · have := h.fl
    rw [hfr, List.length_cons] at this
    show r.length ≤ 4
    (first | lia | omega)
  · have := h.fc
    rw [hfr, hG.length_eq] at this
    simp only [List.length_cons] at this ⊢
    (first | lia | omega)
  · intro t ht
    rcases List.mem_cons.mp ht with rfl | ht
    · refine ⟨⟨hfb, ⟨by (first | lia | omega), hb.2⟩, qa.ok, qb.ok⟩, fun y hy => ?_, ⟨ta, tb, by (first | lia | omega), qa.dn, qb.dn⟩, PrOK.node hnl qa.pr qb.pr cross, ?_, fun y hy => hs y hy⟩
      · rcases List.mem_cons.mp hy with rfl | hy
        · exact ⟨by show 1 ≤ f ∧ f ≤ 511; (first | lia | omega), hb⟩
        · rcases List.mem_append.mp hy with hy | hy
          · exact qa.lv y hy
          · exact qb.lv y hy
      · refine MnOK.node hnl (fun z hz => ?_) qa.dn qb.dn qa.mn qb.mn a2 b2 hp.symm ta tb
        rcases List.mem_append.mp hz with hz | hz
        · exact (h.lb hf a1 hz).1
        · exact (h.lb hf b1 hz).1
    · have q := h.pc t (hGF t ht)
      exact ⟨q.ok, q.lv, q.dn, q.pr, q.mn, fun y hy => q.top y (.tail _ hy)⟩
  · intro i1 i2 h1 h2 hn2
    dsimp only at hn2
    rw [(ma i1).1, (ma i2).1] at hn2
    dsimp only at hn2
    by_cases e1 : S.hs.getD i1 0 = rootS a ∨ S.hs.getD i1 0 = rootS b
    · by_cases e2 : S.hs.getD i2 0 = rootS a ∨ S.hs.getD i2 0 = rootS b
      · rw [if_pos ⟨h1, e1⟩, if_pos ⟨h2, e2⟩] at hn2
        exact absurd rfl hn2
      · have old : S.hs.getD i1 0 ≠ S.hs.getD i2 0 := fun e => e2 (e ▸ e1)
        obtain ⟨y, hy, e, q⟩ := h.op i1 i2 h1 h2 old
        rcases List.mem_cons.mp hy with rfl | hy
        · rcases q with ⟨rfl, rfl⟩ | ⟨rfl, rfl⟩
          · exact absurd (.inr b3) e2
          · exact absurd (.inl a3) e2
        · exact ⟨y, hy, e, q⟩
    · have old : S.hs.getD i1 0 ≠ S.hs.getD i2 0 := by
        by_cases e2 : S.hs.getD i2 0 = rootS a ∨ S.hs.getD i2 0 = rootS b
        · exact fun e => e1 (e ▸ e2)
        · rwa [if_neg (fun z => e1 z.2), if_neg (fun z => e2 z.2)] at hn2
      obtain ⟨y, hy, e, q⟩ := h.op i1 i2 h1 h2 old
      rcases List.mem_cons.mp hy with rfl | hy
      · rcases q with ⟨rfl, rfl⟩ | ⟨rfl, rfl⟩
        · exact absurd (.inl a3) e1
        · exact absurd (.inr b3) e1
      · exact ⟨y, hy, e, q⟩
end
end Mine
end
section
namespace Mine
noncomputable abbrev tiesOf (ls : List Int) : List (Int × Nat × Nat) := tieF ls (prs ls.length)
noncomputable def rootOf (ls : List Int) (look : Int) : Tr := ((tiesOf ls).foldl tstep (ts0 ls look)).ts.getD 0 (.leaf 0 0)
noncomputable def kept (ls : List Int) : List Int := ls.foldl (fun k x => insI k (cL k x) x) []
theorem kept_snoc (xs : List Int) (x : Int) : kept (xs ++ [x]) = insI (kept xs) (cL (kept xs) x) x := by unfold kept; rw [List.foldl_append]; rfl
theorem kept_len (xs : List Int) : (kept xs).length = xs.length := by
  suffices h : ∀ (xs k : List Int), (xs.foldl (fun k x => insI k (cL k x) x) k).length = k.length + xs.length from by have := h xs []; unfold kept; rw [this]; simp
  intro xs
  induction xs with
  | nil => intro k; rfl
  | cons x r ih => intro k; rw [List.foldl_cons, ih, insI_length, List.length_cons]; (first | lia | omega)
theorem kept_srt (xs : List Int) : Srt (kept xs) := by
  suffices h : ∀ (xs k : List Int), Srt k → Srt (xs.foldl (fun k x => insI k (cL k x) x) k) from h xs [] (by simp [Srt])
  intro xs
  induction xs with
  | nil => intro k h; exact h
  | cons x r ih => intro k h; exact ih _ (srt_insL h x)
theorem kept_perm (xs : List Int) : (kept xs).Perm xs := by
  suffices h : ∀ (xs k : List Int), (xs.foldl (fun k x => insI k (cL k x) x) k).Perm (xs ++ k) from by have := h xs []; unfold kept; simpa using this
  intro xs
  induction xs with
  | nil => intro k; exact List.Perm.refl _
  | cons x r ih =>
    intro k
    rw [List.foldl_cons]
    exact (ih _).trans (((insI_perm k _ x).append_left r).trans List.perm_middle)
theorem mem_insT {l : List Tie3} {y x : Tie3} : x ∈ insT l y ↔ x = y ∨ x ∈ l := by
  unfold insT
  rw [List.perm_middle.mem_iff, List.take_append_drop, List.mem_cons]
theorem mem_tieF {ls : List Int} {ps : List (Nat × Nat)} {x : Tie3} : x ∈ tieF ls ps ↔ ∃ q ∈ ps, x = (price (ls.getD q.1 0) (ls.getD q.2 0), q.1, q.2) := by
  suffices h : ∀ (ps : List (Nat × Nat)) (l : List Tie3), x ∈ ps.foldl (fun l q => insT l (price (ls.getD q.1 0) (ls.getD q.2 0), q.1, q.2)) l ↔ (∃ q ∈ ps, x = (price (ls.getD q.1 0) (ls.getD q.2 0), q.1, q.2)) ∨ x ∈ l from by
    have := h ps []
    unfold tieF
    rw [this]; simp
  intro ps
  induction ps with
  | nil => intro l; simp
  | cons q r ih =>
    intro l
    rw [List.foldl_cons, ih, mem_insT]
    constructor
    · rintro (⟨q', h, e⟩ | e | h)
      · exact .inl ⟨q', .tail _ h, e⟩
      · exact .inl ⟨q, .head _, e⟩
      · exact .inr h
    · rintro (⟨q', h, e⟩ | h)
      · rcases List.mem_cons.mp h with rfl | h
        · exact .inr (.inl e)
        · exact .inl ⟨q', h, e⟩
      · exact .inr (.inr h)
theorem mem_prs {n : Nat} {q : Nat × Nat} : q ∈ prs n ↔ q.1 < q.2 ∧ q.2 < n := by
  unfold prs
  rw [List.mem_flatMap]
  constructor
  · rintro ⟨a, ha, h⟩
    obtain ⟨j, hj, rfl⟩ := List.mem_map.mp h
    exact ⟨List.mem_range.mp hj, List.mem_range.mp ha⟩
  · rintro ⟨h1, h2⟩
    exact ⟨q.2, List.mem_range.mpr h2, List.mem_map.mpr ⟨q.1, List.mem_range.mpr h1, rfl⟩⟩
/-- a tie as it should be -/
noncomputable def TieOK (ls : List Int) (x : Tie3) : Prop := x.2.1 < ls.length ∧ x.2.2 < ls.length ∧ x.1 = price (ls.getD x.2.1 0) (ls.getD x.2.2 0) ∧ 1 ≤ x.1 ∧ x.1 ≤ 8
section
variable {ls : List Int} {look : Int}
theorem nd_ne {l : List Int} (hn : l.Nodup) {i j : Nat} (hi : i < l.length) (hj : j < l.length) (h : i ≠ j) : l.getD i 0 ≠ l.getD j 0 := by
  have key : ∀ {i j : Nat} (hi : i < l.length) (hj : j < l.length), i < j → l.getD i 0 ≠ l.getD j 0 := fun {i j} hi hj h => by
    rw [List.getD_eq_getElem?_getD, List.getD_eq_getElem?_getD, List.getElem?_eq_getElem hi, List.getElem?_eq_getElem hj]
    exact List.pairwise_iff_getElem.mp hn i j hi hj h
  rcases Nat.lt_or_gt_of_ne h with q | q
  · exact key hi hj q
  · exact (key hj hi q).symm
theorem nodup_ne (hf : LeafSt ls ls.length) {i j : Nat} (hi : i < ls.length) (hj : j < ls.length) (h : i ≠ j) : ls.getD i 0 ≠ ls.getD j 0 := nd_ne hf.nd hi hj h
theorem bd_at (hf : LeafSt ls ls.length) {i : Nat} (hi : i < ls.length) : 1 ≤ ls.getD i 0 ∧ ls.getD i 0 ≤ 255 := by
  rw [List.getD_eq_getElem?_getD, List.getElem?_eq_getElem hi]
  exact hf.bd _ (List.getElem_mem hi)
theorem ties_ok (hf : LeafSt ls ls.length) : ∀ x ∈ tiesOf ls, TieOK ls x := by
  intro x hx
  obtain ⟨q, hq, rfl⟩ := mem_tieF.mp hx
  obtain ⟨h1, h2⟩ := mem_prs.mp hq
  have h3 : q.1 < ls.length := by (first | lia | omega)
  exact ⟨h3, h2, rfl, price_pos (bd_at hf h3) (bd_at hf h2) (nodup_ne hf h3 h2 (by (first | lia | omega))), (price_bd _ _).2⟩
theorem ties_srt : (tiesOf ls).Pairwise (fun x y => x.1 ≤ y.1) := by
  have := srt_tieF ls (prs ls.length)
  unfold Srt at this
  rwa [List.pairwise_map] at this
theorem flat_leaf (f : Int → Int) : ∀ l : List Int, (l.map fun x => Tr.leaf x (f x)).flatMap lfs = l ∧ (l.map fun x => Tr.leaf x (f x)).flatMap nds = []
  | [] => ⟨rfl, rfl⟩
  | a :: r => by
    have ih := flat_leaf f r
    rw [List.map_cons, List.flatMap_cons, List.flatMap_cons, ih.1, ih.2]
    exact ⟨rfl, rfl⟩
theorem fi_start (hl : 4 ≤ ls.length ∧ ls.length ≤ 5) (hf : LeafSt ls ls.length) (look : Int) : FI ls (ts0 ls look) (ls.map fun x => .leaf x (1 + (x + look) % 8)) (tiesOf ls) := by
  have fl := flat_leaf (fun x => 1 + (x + look) % 8) ls
  have gt : ∀ i, i < ls.length → (ls.map fun x => Tr.leaf x (1 + (x + look) % 8)).getD i d0 = .leaf (ls.getD i 0) (1 + (ls.getD i 0 + look) % 8) := fun i hi => by
    rw [List.getD_eq_getElem?_getD, List.getD_eq_getElem?_getD, List.getElem?_map, List.getElem?_eq_getElem hi]; rfl
  refine ⟨rfl, List.length_map .., by rw [fl.1], fun i hi => ?_, (by rw [fl.2]; exact .nil), (by rw [fl.2]; intro s hs; cases hs), (show ([511, 256, 426, 341] : List Int).Nodup by decide), (show ∀ s ∈ ([511, 256, 426, 341] : List Int), 256 ≤ s ∧ s ≤ 511 by decide), (show 4 ≤ 4 by decide), (by rw [List.length_map]; exact hl.2), fun t ht => ?_, fun i j hi hj hne => ?_⟩
  · show (ls.map fun x => Tr.leaf x (1 + (x + look) % 8)).getD i d0 ∈ _ ∧ ls.getD i 0 ∈ lfs ((ls.map fun x => Tr.leaf x (1 + (x + look) % 8)).getD i d0) ∧ ls.getD i 0 = rootS ((ls.map fun x => Tr.leaf x (1 + (x + look) % 8)).getD i d0)
    rw [gt i hi]
    refine ⟨List.mem_map.mpr ⟨ls.getD i 0, ?_, rfl⟩, .head _, rfl⟩
    rw [List.getD_eq_getElem?_getD, List.getElem?_eq_getElem hi]
    exact List.getElem_mem hi
  · obtain ⟨x, hx, rfl⟩ := List.mem_map.mp ht
    have hb := hf.bd x hx
    refine ⟨⟨hb, by (first | lia | omega), by (first | lia | omega)⟩, fun y hy => ?_, trivial, fun u hu v hv => ?_, fun W hW u hu v hv => ?_, fun y hy => ?_⟩
    · rw [List.mem_singleton.mp (show y ∈ [_] from hy)]
      dsimp only
      (first | lia | omega)
    · exact (price_bd u v).1
    · rw [List.mem_singleton.mp (show u ∈ [x] from hu), List.mem_singleton.mp (show v ∈ [x] from hv)]
      have := hW.1 x hx x hx
      rwa [price_self] at this
    · have := (ties_ok hf y hy).2.2.2.1
      show (0 : Int) ≤ y.1
      (first | lia | omega)
  · have hij : i ≠ j := fun e => hne (by rw [e])
    by_cases h : i < j
    · exact ⟨_, mem_tieF.mpr ⟨(i, j), mem_prs.mpr ⟨h, hj⟩, rfl⟩, rfl, .inl ⟨rfl, rfl⟩⟩
    · exact ⟨_, mem_tieF.mpr ⟨(j, i), mem_prs.mpr ⟨by show j < i; (first | lia | omega), hi⟩, rfl⟩, price_comm _ _, .inr ⟨rfl, rfl⟩⟩
theorem fi_run (hl : ls.length ≤ 5) (hf : LeafSt ls ls.length) : ∀ (R : List Tie3) (S : TS) (F : List Tr), FI ls S F R → (∀ x ∈ R, TieOK ls x) → R.Pairwise (fun x y => x.1 ≤ y.1) →
    (∀ i x, R[i]? = some x → TTurn ls.length ((R.take i).foldl tstep S) x) ∧ ∃ F', FI ls (R.foldl tstep S) F' []
  | [], S, F, h, _, _ => ⟨fun i x hx => by simp at hx, F, h⟩
  | y :: R, S, F, h, ho, hs => by
    have ho' := ho y (.head _)
    have hs' := List.pairwise_cons.mp hs
    obtain ⟨F', h'⟩ : ∃ F', FI ls (tstep S y) F' R := by
      by_cases hne : S.hs.getD y.2.1 0 = S.hs.getD y.2.2 0
      · refine ⟨F, ?_⟩
        unfold tstep
        rw [if_pos hne]
        exact h.skip hne
      · exact h.join hf hs'.1 ho'.1 ho'.2.1 ho'.2.2.1 ho'.2.2.2 hne
    obtain ⟨ih1, ih2⟩ := fi_run hl hf R (tstep S y) F' h' (fun x hx => ho x (.tail _ hx)) hs'.2
    refine ⟨fun i x hx => ?_, ih2⟩
    cases i with
    | zero => cases hx; exact h.turn hl ho'.1 ho'.2.1
    | succ i => exact ih1 i x hx
theorem fi_end (hl : 4 ≤ ls.length ∧ ls.length ≤ 5) (hf : LeafSt ls ls.length) (look : Int) : ∃ F', FI ls ((tiesOf ls).foldl tstep (ts0 ls look)) F' [] :=
  (fi_run hl.2 hf _ _ _ (fi_start hl hf look) (ties_ok hf) ties_srt).2
theorem tree_turn (hl : 4 ≤ ls.length ∧ ls.length ≤ 5) (hf : LeafSt ls ls.length) (look : Int) : ∀ i x, (tiesOf ls)[i]? = some x → TTurn ls.length (((tiesOf ls).take i).foldl tstep (ts0 ls look)) x :=
  (fi_run hl.2 hf _ _ _ (fi_start hl hf look) (ties_ok hf) ties_srt).1
theorem tree_end (hl : 4 ≤ ls.length ∧ ls.length ≤ 5) (hf : LeafSt ls ls.length) (look : Int) : TOk ls.length ((tiesOf ls).foldl tstep (ts0 ls look)) := by
  obtain ⟨F, h⟩ := fi_end hl hf look
  exact h.tok hl.2
/-- one tree in the end, over all leaves -/
theorem root_one (hl : 4 ≤ ls.length ∧ ls.length ≤ 5) (hf : LeafSt ls ls.length) (look : Int) : PcOK ls [] (rootOf ls look) ∧ (lfs (rootOf ls look)).Perm ls ∧ (nds (rootOf ls look)).Nodup := by
  obtain ⟨F, h⟩ := fi_end hl hf look
  have e0 := h.at_ 0 (by (first | lia | omega))
  have same : ∀ t ∈ F, t = rootOf ls look := fun t ht => by
    obtain ⟨u, hu⟩ : ∃ u, u ∈ lfs t := by
      have := (pre_two t).2
      cases e : lfs t with
      | nil => rw [e] at this; simp at this
      | cons a r => exact ⟨a, .head _⟩
    obtain ⟨i, hi, e⟩ := List.getElem_of_mem (h.lb hf ht hu).1
    have ei := h.at_ i hi
    rw [show ls.getD i 0 = u by rw [List.getD_eq_getElem?_getD, List.getElem?_eq_getElem hi, e]; rfl] at ei
    have e1 := flat_uniq (h.ln hf) ei.1 ht ei.2.1 hu
    refine h.root hf ht e0.1 ?_
    have e0' : ((tiesOf ls).foldl tstep (ts0 ls look)).hs.getD 0 0 = rootS (rootOf ls look) := e0.2.2
    rw [← e1, ← ei.2.2]
    show _ = rootS (rootOf ls look)
    rw [← e0']
    by_cases q : ((tiesOf ls).foldl tstep (ts0 ls look)).hs.getD i 0 = ((tiesOf ls).foldl tstep (ts0 ls look)).hs.getD 0 0
    · exact q
    · obtain ⟨y, hy, _⟩ := h.op i 0 hi (by (first | lia | omega)) q
      cases hy
  have hF : F = [rootOf ls look] := by
    have hm : rootOf ls look ∈ F := e0.1
    cases F with
    | nil => cases hm
    | cons t r =>
      cases r with
      | nil => rw [same t (.head _)]
      | cons t' r =>
        exfalso
        have h1 := h.ln hf
        rw [List.flatMap_cons, List.flatMap_cons, same t (.head _), same t' (.tail _ (.head _))] at h1
        have h2 := (pre_two (rootOf ls look)).2
        cases e : lfs (rootOf ls look) with
        | nil => rw [e] at h2; simp at h2
        | cons a r' =>
          rw [e] at h1
          exact (List.nodup_append.mp h1).2.2 a (.head _) a (List.mem_append_left _ (.head _)) rfl
  have hp := h.perm
  have hn := h.nn
  rw [hF] at hp hn
  rw [List.flatMap_cons, List.flatMap_nil, List.append_nil] at hp hn
  exact ⟨h.pc _ e0.1, hp, hn⟩
theorem root_ok (hl : 4 ≤ ls.length ∧ ls.length ≤ 5) (hf : LeafSt ls ls.length) (look : Int) : (rootOf ls look).ok := (root_one hl hf look).1.ok
theorem root_bd (hl : 4 ≤ ls.length ∧ ls.length ≤ 5) (hf : LeafSt ls ls.length) (look : Int) : ∀ x ∈ pre (rootOf ls look), (1 ≤ x.1 ∧ x.1 ≤ 511) ∧ 1 ≤ x.2 ∧ x.2 ≤ 8 := (root_one hl hf look).1.lv
theorem root_len (hl : 4 ≤ ls.length ∧ ls.length ≤ 5) (hf : LeafSt ls ls.length) (look : Int) : (pre (rootOf ls look)).length ≤ 30 := by
  have h1 := pre_two (rootOf ls look)
  have h2 := (root_one hl hf look).2.1.length_eq
  (first | lia | omega)
theorem root_abv (hl : 4 ≤ ls.length ∧ ls.length ≤ 5) (hf : LeafSt ls ls.length) (look : Int) : ∀ x ∈ fnd (rootOf ls look) [], x.2.length ≤ 30 := fun x hx => by
  obtain ⟨r, e, _, hr⟩ := fnd_abv _ _ x hx
  rw [e, List.nil_append]
  exact Nat.le_trans hr (root_len hl hf look)
theorem root_lvs (hl : 4 ≤ ls.length ∧ ls.length ≤ 5) (hf : LeafSt ls ls.length) (look : Int) : ((fnd (rootOf ls look) []).map (·.1)).Perm ls := by
  rw [fnd_fst]; exact (root_one hl hf look).2.1
theorem cL_lt {ns : List Int} {x : Int} (h : x ∈ ns) : cL ns x < ns.length := by
  unfold cL
  rw [List.countP_eq_length_filter]
  refine Nat.lt_of_le_of_ne (List.length_filter_le _ _) fun e => ?_
  have := List.filter_eq_self.mp (List.filter_sublist.eq_of_length e) x h
  simp at this
theorem cL_at {ns : List Int} (hs : Srt ns) (hn : ns.Nodup) {x : Int} (h : x ∈ ns) : ns.getD (cL ns x) 0 = x := by
  obtain ⟨i, hi, e⟩ := List.getElem_of_mem h
  have ei : ns.getD i 0 = x := by rw [List.getD_eq_getElem?_getD, List.getElem?_eq_getElem hi, e]; rfl
  have e2 : cL ns x = i := by
    refine countP_at (Nat.le_of_lt hi) (fun k hk => decide_eq_true ?_) fun k hk hl => decide_eq_false ?_
    · have h1 := hs.at k i (Nat.le_of_lt hk) hi
      rw [ei] at h1
      have h2 : ns.getD k 0 ≠ ns.getD i 0 := nd_ne hn (by (first | lia | omega)) hi (by (first | lia | omega))
      rw [ei] at h2
      (first | lia | omega)
    · have h1 := hs.at i k hk hl
      rw [ei] at h1
      (first | lia | omega)
  rw [e2, ei]
theorem gm_prices {K : List Int} {j k : Nat} (hj : j < K.length) (hk : k < K.length) : gm (K.map fun a => K.map (price a)) j k = price (K.getD j 0) (K.getD k 0) := by
  unfold gm
  simp [hj, hk]
/-- the last of the levels that two leaves share is the table's -/
theorem root_lvl (hl : 4 ≤ ls.length ∧ ls.length ≤ 5) (hf : LeafSt ls ls.length) (look : Int) {j k : Nat} {x y : Int × List SL} (hjk : j < k) (hk : (fnd (rootOf ls look) [])[k]? = some x) (hj : (fnd (rootOf ls look) [])[j]? = some y) :
    (lvl x.2 y.2).drop ((lvl x.2 y.2).length - 1) = [gm (fwB ls.length ((kept ls).map fun a => (kept ls).map (price a)) ls.length) (cL (kept ls) x.1) (cL (kept ls) y.1)] := by
  obtain ⟨hpc, hp, hn⟩ := root_one hl hf look
  have hln : (lfs (rootOf ls look)).Nodup := hp.nodup_iff.mpr hf.nd
  obtain ⟨q, s, e⟩ := fnd_lvl (rootOf ls look) [] hln (by simpa using hn) (Nat.ne_of_lt hjk) hk hj
  have e1 : lvl x.2 y.2 = q.map (·.2) ++ [VL (rootOf ls look) x.1 y.1] := by unfold lvl; rw [e]; simp
  rw [e1, List.length_append, List.length_singleton, Nat.add_sub_cancel, List.drop_left]
  have mem : ∀ {i : Nat} {z : Int × List SL}, (fnd (rootOf ls look) [])[i]? = some z → z.1 ∈ lfs (rootOf ls look) := fun {i z} hz => by
    rw [← fnd_fst (rootOf ls look) []]
    exact List.mem_map_of_mem (List.mem_of_getElem? hz)
  have hx := mem hk
  have hy := mem hj
  generalize hK : kept ls = K
  have hKp : K.Perm ls := hK ▸ kept_perm ls
  have hKs : Srt K := hK ▸ kept_srt ls
  have hKl : K.length = ls.length := hKp.length_eq
  have hKn : K.Nodup := hKp.nodup_iff.mpr hf.nd
  have hKr : ∀ {z}, z ∈ K ↔ z ∈ lfs (rootOf ls look) := fun {z} => hKp.mem_iff.trans hp.mem_iff.symm
  have hKg : ∀ i, i < ls.length → K.getD i 0 ∈ lfs (rootOf ls look) := fun i hi => by
    rw [List.getD_eq_getElem?_getD, List.getElem?_eq_getElem (by (first | lia | omega))]
    exact hKr.mp (List.getElem_mem _)
  have hsq : Sq ls.length (K.map fun a => K.map (price a)) := ⟨by rw [List.length_map]; exact hKl, fun r hr => by obtain ⟨a, _, rfl⟩ := List.mem_map.mp hr; rw [List.length_map]; exact hKl⟩
  have hgm : ∀ i m, i < ls.length → m < ls.length → gm (K.map fun a => K.map (price a)) i m = price (K.getD i 0) (K.getD m 0) := fun i m hi hm => gm_prices (by (first | lia | omega)) (by (first | lia | omega))
  have hc : ∀ z ∈ ls, cL K z < ls.length ∧ K.getD (cL K z) 0 = z := fun z hz => by
    have hz' := hKp.mem_iff.mpr hz
    exact ⟨hKl ▸ cL_lt hz', cL_at hKs hKn hz'⟩
  have hxl := hp.mem_iff.mp hx
  have hyl := hp.mem_iff.mp hy
  obtain ⟨cx, gx⟩ := hc _ hxl
  obtain ⟨cy, gy⟩ := hc _ hyl
  have le1 : VL (rootOf ls look) x.1 y.1 ≤ gm (fwB ls.length (K.map fun a => K.map (price a)) ls.length) (cL K x.1) (cL K y.1) := by
    have this : VL (rootOf ls look) (K.getD (cL K x.1) 0) (K.getD (cL K y.1) 0) ≤ _ := fw_ge hsq (W := fun i m => VL (rootOf ls look) (K.getD i 0) (K.getD m 0)) (fun i m hi hm => by rw [hgm i m hi hm]; exact hpc.pr _ (hKg i hi) _ (hKg m hm))
      (fun i b m hi hb hm => VL_ultra hln hpc.dn (hKg i hi) (hKg b hb) (hKg m hm)) ls.length (Nat.le_refl _) cx cy
    rwa [gx, gy] at this
  have le2 : gm (fwB ls.length (K.map fun a => K.map (price a)) ls.length) (cL K x.1) (cL K y.1) ≤ VL (rootOf ls look) x.1 y.1 := by
    refine hpc.mn (fun u v => gm (fwB ls.length (K.map fun a => K.map (price a)) ls.length) (cL K u) (cL K v)) ⟨fun u hu v hv => ?_, fun u hu v hv z hz => ?_⟩ _ hx _ hy
    · have := fw_le hsq ls.length (hc u hu).1 (hc v hv).1
      rw [hgm _ _ (hc u hu).1 (hc v hv).1, (hc u hu).2, (hc v hv).2] at this
      exact this
    · exact fw_closed hsq ls.length (Nat.le_refl _) (hc v hv).1 (hc u hu).1 (hc z hz).1
  rw [Int.le_antisymm le1 le2]
end
end Mine
end
section
set_option maxRecDepth 100000
set_option maxHeartbeats 8000000
namespace Mine
theorem insL_at (w : World) (news news' : List (Addr × Obj)) (x : Int) (t1 : Tok) (l : Addr) (vs : List Value) (ns : List Int) (n : Nat) (U : Upd l (listOf vs.toArray n) (listOf (insV vs (cL ns x) (.int x t1)).toArray (n + 1)) news news') (hi : IntsAre vs ns) (hn : ns.length < 900) (hs : Srt ns) :
    Call1 3 w 41 news [.ref l, .int x t1] (fun v n' => v = .none ∧ n' = news' ∧ IntsAre (insV vs (cL ns x) (.int x t1)) (insI ns (cL ns x) x) ∧ Srt (insI ns (cL ns x) x) ∧ (insI ns (cL ns x) x).length = ns.length + 1) := by
  obtain ⟨pre, post, rfl, rfl, a, b⟩ := U.split
  refine (insL_call w (pre ++ post) x t1 l vs ns n hi hn hs ?_).weak ?_ ?_
  · intro p hp
    rcases List.mem_append.mp hp with h | h
    · exact a p h
    · exact b p h
  · intro p hp
    rcases List.mem_cons.mp hp with rfl | hp
    · exact List.mem_append.mpr (.inr (.head _))
    · rcases List.mem_append.mp hp with h | h
      · exact List.mem_append.mpr (.inl h)
      · exact List.mem_append.mpr (.inr (.tail _ h))
  · rintro v n' ⟨rfl, rfl⟩
    refine ⟨_, ⟨rfl, rfl, ints_ins hi _ _ _, srt_insL hs x, insI_length _ _ _⟩, fun p hp => ?_⟩
    rcases List.mem_append.mp hp with h | h
    · exact .tail _ (List.mem_append.mpr (.inl h))
    · rcases List.mem_cons.mp h with rfl | h
      · exact .head _
      · exact .tail _ (List.mem_append.mpr (.inr h))
end Mine
end
section
namespace Mine
/-- between the turns of the leaves' loop -/
noncomputable def KepJ (Kp Fd : Addr) (base : List (Addr × Obj)) (ls : List Int) (i : Nat) (m : Str → Option Value) (nw : List (Addr × Obj)) : Prop :=
  ∃ kv ck t9, nw = (Kp, listOf (List.toArray kv) ck) :: base ∧ IntsAre kv (kept (ls.take i)) ∧ m (S' "kept") = some (.ref Kp) ∧ m (S' "found") = some (.ref Fd) ∧ m (S' "awaited") = some (.int 0 t9)
theorem kep_end {h₀ : Heap} {L I Kp Fd : Addr} {oI : Obj} {s₁ : Shared} {Q : Flow → Shared → Prop} {base : List (Addr × Obj)} {ls : List Int} {i : Nat} {h : Heap} {tk : Nat} {m' : Str → Option Value} {kv : List Value} {ck : Nat} {t9 : Tok} {x : Int}
    (F : Fr h₀ L h m') (N : News h₀ L h ((I, oI) :: (Kp, listOf (List.toArray kv) ck) :: base)) (hi : IntsAre kv (insI (kept (ls.take i)) (cL (kept (ls.take i)) x) x)) (hx : ls[i]? = some x) (off : ∀ p ∈ (Kp, listOf (List.toArray kv) ck) :: base, p.1 ≠ I)
    (k1 : m' (S' "kept") = some (.ref Kp)) (k2 : m' (S' "found") = some (.ref Fd)) (k3 : m' (S' "awaited") = some (.int 0 t9)) :
    ForPost h₀ L I oI s₁ (KepJ Kp Fd base ls (i + 1)) Q .next { s₁ with heap := h, toks := tk } := by
  have et : ls.take (i + 1) = ls.take i ++ [x] := by rw [List.take_add_one, hx]; rfl
  exact ForEnd.intro _ F N (fun p hp => hp) off ⟨kv, ck, t9, rfl, by rw [et, kept_snoc]; exact hi, k1, k2, k3⟩
end Mine
end
section
namespace Mine
section
variable {prog : Program} {w : World} {A : Around} {E : Value → Shared → Prop} {s s₁ s₂ : Shared} {h₀ : Heap} {L : Addr} {m : Str → Option Value} {news : List (Addr × Obj)}
/-- a pair of names as a comprehension's target, over tuples that the ledger holds; K: what is known of the i-th -/
theorem CompG.pairs {elt : Expr} {a b : Str} {pa pb tp : Pos} {kk : Nat} {ifs : List Expr} {scope : Scope} {cl : List (Str × Addr)} {env : Env} {Fin : Heap → Addr → (Str → Option Value) → List (Addr × Obj) → Addr → Shared → Prop} {it : Value} {n : Nat} {P : Nat → Value → Prop}
    (J : Nat → List Value → List (Addr × Obj) → Prop) (K : Nat → Value → Value → Prop) (hh : A.handled = Option.none) (ha : scope.names.lookup a = some .local) (hb : scope.names.lookup b = some .local) (hab : b ≠ a) (hkind : scope.kind = .function) (S : SrcAt prog w A h₀ L m news n P s₁ it s₂) (hsz : n ≤ sizeLine) (j0 : J 0 [] news)
    (hP : ∀ i v, P i v → ∃ T x y k, v = .ref T ∧ (T, tupOf [x, y] k) ∈ news ∧ K i x y)
    (turn : ∀ i x y ys Y I oI C oC D m₂ h tk (E' : Value → Shared → Prop), i < n → K i x y → J i ys Y → (∀ p ∈ news, p ∈ Y) → Off Y I D [C] → LCg.NsObj oC m₂ → m₂ a = some x → m₂ b = some y → Fr h₀ L h m → News h₀ L h ((I, oI) :: (C, oC) :: (D, LCg.lst ys) :: Y) →
      wpAny (model prog w) A (testsOf ifs (compEnvC scope cl C env)) (fun ok s' => if ok = true then wpAny (model prog w) A (eval elt (compEnvC scope cl C env)) (TurnE h₀ L m { s₂ with heap := h, toks := tk } I D oI [C] [(C, oC)] news ys (J (i + 1))) E' s'
        else TurnS h₀ L m { s₂ with heap := h, toks := tk } I D oI [C] [(C, oC)] news ys (J (i + 1)) s') E' { s₂ with heap := h, toks := tk })
    (hlen : ∀ i ys Y, J i ys Y → ys.length ≤ i)
    (fin : ∀ D ys Y, J n ys Y → (∀ p ∈ news, p ∈ Y) → (∀ p ∈ Y, p.1 ≠ D) → (∀ p ∈ news, p.1 < D) → Fin h₀ L m ((D, listOf ys.toArray ys.length) :: Y) D s₂) : CompG prog w A L env elt (.Tuple [.Name a pa, .Name b pb] kk tp) ifs scope cl Fin s₁ it s₂ := by
  refine ⟨h₀, m, news, n, P, J, fun i _ m₂ => ∃ x y, K i x y ∧ m₂ a = some x ∧ m₂ b = some y, S, hsz, ?_, j0, ?_, hlen, fin⟩
  · intro i v C m' s' Q E' hP' hn N' hq
    refine e4a3 (hP i v hP') fun T x y k ze0 hm hK => ?_
    subst ze0
    refine kcp_assign hh ⟨_, (N' _ hm).1, rfl, k, rfl⟩ (lookup_relabel_local ha) (lookup_relabel_local hb) (by simp [compEnvC, relabel, hkind]) hn fun h' tk hn' hk => ?_
    exact hq h' tk _ hn' ⟨x, y, hK, by simp [Ne.symm hab], by simp⟩ hk
  · intro i v ys Y I oI C oC D m₂ h tk E' hi hPv hJ hsub hoff hC zr0 F' N'
    refine e2a3 (zr0) fun x y hK h1 h2 => ?_
    clear zr0
    exact turn i x y ys Y I oI C oC D m₂ h tk E' hi hK hJ hsub hoff hC h1 h2 F' N'
end
end Mine
end
section
namespace Mine
theorem cell_ne_list {o : Obj} {v : Option Value} (h : o.data = Data.cell v) : ∀ us k, o ≠ listOf (List.toArray us) k := fun us k e => by
  rw [e] at h; cases h
section
variable {h₀ h : Heap} {L c : Addr} {o : Obj} {X Y : List (Addr × Obj)}
theorem AbvAt.sep (N : News h₀ L h Y) (hc : (c, o) ∈ Y) (ho : ∀ vs k, o ≠ tupOf vs k) (hl : ∀ us k, o ≠ listOf (List.toArray us) k) (hX : ∀ p ∈ Y, p.1 ≠ c → p ∈ X) : ∀ v x, AbvAt Y v x → AbvAt X v x := by
  rintro v x ⟨A, vs, k, rfl, h, ha⟩
  refine ⟨A, vs, k, rfl, hX _ h fun e => ?_, ha.imp (PairAt.sep N hc ho hc ho fun p hp h1 _ => hX p hp h1)⟩
  subst e; exact hl _ _ (news_uniq N hc h)
theorem FndAt.sep (N : News h₀ L h Y) (hc : (c, o) ∈ Y) (ho : ∀ vs k, o ≠ tupOf vs k) (hl : ∀ us k, o ≠ listOf (List.toArray us) k) (hX : ∀ p ∈ Y, p.1 ≠ c → p ∈ X) : ∀ v x, FndAt Y v x → FndAt X v x := by
  rintro v x ⟨A, k, t1, w, rfl, h, ha⟩
  refine ⟨A, k, t1, w, rfl, hX _ h fun e => ?_, AbvAt.sep N hc ho hl hX _ _ ha⟩
  subst e; exact ho _ _ (news_uniq N hc h)
end
/-- the rows of a table, each in the ledger -/
noncomputable def RowsIn (Y : List (Addr × Obj)) (as : List Addr) (M : List (List Int)) : Prop := ∀ (j : Nat) (r : List Int), M[j]? = some r → ∃ a vs c, as[j]? = some a ∧ (a, listOf (List.toArray vs) c) ∈ Y ∧ IntsAre vs r
theorem RowsAt.in_ {as : List Addr} {R : List (Addr × Obj)} {M : List (List Int)} (h : RowsAt as R M) {Y : List (Addr × Obj)} (hY : ∀ p ∈ R, ∀ vs k, p.2 = listOf (List.toArray vs) k → p ∈ Y) : RowsIn Y as M := by
  intro j r hr
  obtain ⟨a, vs, c, h1, h2, h3⟩ := h.get hr
  exact ⟨a, vs, c, h1, hY _ (List.mem_of_getElem? h2) vs c rfl, h3⟩
/-- an entry of the table, asked -/
theorem RowsIn.at_ {Y : List (Addr × Obj)} {as : List Addr} {M : List (List Int)} {n j : Nat} (h : RowsIn Y as M) (hs : Sq n M) (hj : j < n) : ∃ a vs c, (as.map Value.ref)[((j : Nat) : Int).toNat]? = some (.ref a) ∧ (a, listOf (List.toArray vs) c) ∈ Y ∧ ∀ k, k < n → ∃ t, vs[((k : Nat) : Int).toNat]? = some (.int (gm M j k) t) := by
  obtain ⟨e, hl⟩ := sq_row hs hj
  obtain ⟨a, vs, c, h1, h2, h3⟩ := h _ _ e
  refine ⟨a, vs, c, by show (as.map Value.ref)[j]? = _; rw [List.getElem?_map, h1]; rfl, h2, fun k hk => ?_⟩
  have e2 : (M.getD j [])[k]? = some (gm M j k) := by
    unfold gm
    rw [List.getD_eq_getElem?_getD (l := M.getD j []), List.getElem?_eq_getElem (by omega)]; rfl
  obtain ⟨v, hv, t, rfl⟩ := (Are.of_ints h3).get' e2
  exact ⟨t, hv⟩
theorem sq_prices {ls : List Int} : Sq ls.length (ls.map fun a => ls.map (price a)) :=
  ⟨List.length_map .., fun r hr => by obtain ⟨a, _, rfl⟩ := List.mem_map.mp hr; exact List.length_map ..⟩
end Mine
end
namespace Mine
noncomputable def CamJ (ls : List Int) (Y0 : List (Addr × Obj)) (i j : Nat) (ys : List Value) (Y : List (Addr × Obj)) : Prop :=
  ∃ Z, Y = (144, tabObj #[]) :: Z ∧ Are (IsTie Z) ys (cam ls (prs i ++ (List.range j).map fun j => (j, i))) ∧ (∀ p ∈ Y0, p ∈ Z) ∧ (∀ p ∈ Z, p.1 ≠ 144) ∧ ys.length ≤ 100
theorem name_t3 {h₀ g : Heap} {L A : Addr} {x y z : Int} {t1 t2 t3 : Tok} {kk : Nat} {r : List (Addr × Obj)} (N : News h₀ L g ((A, ({ cls := .type "tuple", data := .seq #[.int x t1, .int y t2, .int z t3] kk } : Obj)) :: r)) : ∃ u1 u2 u3 k', News h₀ L g ((A, tupOf [.int x u1, .int y u2, .int z u3] k') :: r) := ⟨t1, t2, t3, kk, N⟩
theorem prs_two {k : Nat} (h : 4 ≤ k) : 2 ≤ (prs k).length := by
  have e : ∀ k, 2 ≤ k → 1 ≤ (prs k).length := fun k hk => by
    obtain ⟨j, rfl⟩ : ∃ j, k = j + 1 := ⟨k - 1, by omega⟩
    rw [prs_succ, List.length_append, List.length_map, List.length_range]; omega
  obtain ⟨j, rfl⟩ : ∃ j, k = j + 1 := ⟨k - 1, by omega⟩
  rw [prs_succ, List.length_append, List.length_map, List.length_range]
  have := e j (by omega)
  omega
theorem listOf_inj {vs us : List Value} {k c : Nat} (e : listOf vs.toArray k = listOf us.toArray c) : vs = us ∧ k = c := by
  have e1 := congrArg Obj.data e
  have e2 : Data.seq vs.toArray k = Data.seq us.toArray c := e1
  injection e2 with e3 e4
  exact ⟨by simpa using congrArg Array.toList e3, e4⟩
theorem ltI9 {a b : Nat} (h : a < b) : a < b := h
end Mine
local macro_rules | `(tactic| walk_at "pm11") => `(tactic| (intro tk' ht'))
local macro_rules | `(tactic| walk_at "pm12") => `(tactic| (intro v9 news9 h9 tk9 hR9 F9 N9; obtain ⟨D9, x9, y9, z9, r1, r2, r3, e9, l9, e9', q1, q2, q3, n1, n2, n3⟩ := hR9; subst e9; subst e9'; (try k_lt l9)))
local macro_rules | `(tactic| w_fin) => `(tactic| (exact rfl))

set_option maxRecDepth 100000 in
set_option maxHeartbeats 400000000 in
theorem Mine.law_all (_ : True) : PySem.Challenge.rw_ty0036_02.Holds := by
  k_with_none
  w_top off
  k_with "storeName" => ((k_here; k_dflt (refine' storeX_Lf ?zweg ?zwed ?zweo ?zwet ?zwF ?zwN ?_ ?zwa ?zwb; (case zweg => dsimp only); (case zwed => dsimp only); (case zweo => dsimp only); (case zwet => dsimp only); (case zwF => k_asm); (case zwN => k_asm); (case zwa => rfl); (case zwb => rfl); k_whole; walk_at "pm0"; (try k_sweep))))
  k_with "tb_start" => (k_dflt (first
  | (refine' code_def ?zwk1 ?zwk2 ?zwk3 ?zwk4 ?zwk5 ?zwkA ?zwkF ?zwkK ?zwk6 ?zwk7 ?zwk8 ?zwk9 ?zwkB ?_ ?zwc2 ?zwc3 ?zwc4 ?zwc5; (case zwkA => exact rfl); (case zwkF => exact rfl); (case zwkK => first | assumption | exact rfl); (case zwk1 => k_asm); (case zwk2 => k_asm); (case zwk3 => k_asm); (case zwk4 => k_asm); (case zwk5 => k_asm); (case zwk6 => k_is); (case zwk7 => k_is); (case zwk8 => ktr_room); (case zwk9 => first | exact BindsTo.of_eq rfl | (refine' kp_binds ?zwkx ?zwke; (case zwkx => k_in); (case zwke => exact fun _ => rfl))); (case zwc5 => decide); (case zwkB => exact locs rfl); (case zwc2 => exact rfl); (case zwc3 => exact rfl); (case zwc4 => exact rfl); k_whole; walk_at "pm1"; (try dsimp only); (try k_fold))
  | (refine' code_defC ?zwk1 ?zwk2 ?zwk3 ?zwk4 ?zwk5 ?zwkA ?zwkF ?zwkK ?zwk6 ?zwk7 ?zwk8 ?zwk9 ?zwkB ?zwkD ?_ ?zwc2 ?zwc3 ?zwc4; (case zwkA => exact rfl); (case zwkF => exact rfl); (case zwkK => first | assumption | exact rfl); (case zwk1 => k_asm); (case zwk2 => k_asm); (case zwk3 => k_asm); (case zwk4 => k_asm); (case zwk5 => k_asm); (case zwk6 => k_is); (case zwk7 => k_is); (case zwk8 => ktr_room); (case zwk9 => first | exact BindsTo.of_eq rfl | (refine' kp_binds ?zwkx ?zwke; (case zwkx => k_in); (case zwke => exact fun _ => rfl))); (case zwkB => exact rfl); (case zwkD => decide +kernel); (case zwc2 => exact rfl); (case zwc3 => exact rfl); (case zwc4 => exact rfl); k_whole; walk_at "pm2"; (try dsimp only); (try k_fold))))
  k_with "k_all" => (first | assumption | exact all_ne (by assumption) (by omega) | fail)
  k_with "call ref" => ((k_here; refine stop_intro ?_))
  k_with "k_all" => (first | assumption | (refine' List.forall_mem_cons.mpr ⟨?zwkza, ?zwkzb⟩; (case zwkza => (try dsimp only); first | assumption | exact ltN (by omega) | exact gtN (by omega) | fail); (case zwkzb => k_all)) | exact all_ne (by assumption) (by omega) | fail)
  k_with "loadName" => ((k_here; k_dflt (refine' ldn ?zwk1 ?zwk2 ?_; (case zwk1 => k_asm); (case zwk2 => (repeat (first | assumption | exact if_pos rfl | refine' (if_neg (by decide)).trans ?_))))))
  k_with "eval Name" => ((k_here; name_kind "local"; k_dflt (refine' ld ?zwk1 ?zwk2 ?_; (case zwk1 => k_asm); (case zwk2 => (repeat (first | assumption | exact if_pos rfl | refine' (if_neg (by decide)).trans ?_))); k_whole)))
  k_with "pyIter ref" => ((k_here; refine stop_intro ?_))
  k_with "exec For" => ((k_here; k_dflt (refine' for_ruleL ?zwhF ?zwhs ?_; (case zwhF => k_asm); (case zwhs => intro _; rfl))))
  k_with "exec For Name Name cons nil" => ((k_here; k_dflt (refine' for_ruleL ?zwhF ?zwhs ?_; (case zwhF => k_asm); (case zwhs => intro _; rfl))))
  k_with "exec For Name Subscript cons nil" => ((k_here; k_dflt (refine' for_ruleL ?zwhF ?zwhs ?_; (case zwhF => k_asm); (case zwhs => intro _; rfl))))
  k_with "exec For Name Call cons nil" => ((k_here; k_dflt (refine' for_ruleL ?zwhF ?zwhs ?_; (case zwhF => k_asm); (case zwhs => intro _; rfl))))
  k_with "exec For Tuple Name cons nil" => ((k_here; k_dflt (refine' for_ruleL ?zwhF ?zwhs ?_; (case zwhF => k_asm); (case zwhs => intro _; rfl))))
  k_with "exec For Tuple" => ((k_here; k_dflt (refine' for_ruleL ?zwhF ?zwhs ?_; (case zwhF => k_asm); (case zwhs => intro _; rfl))))
  k_with "call builtin:len" => ((k_here; (with_reducible show wpAny _ _ (call (Value.builtin _) [Value.ref _]) _ _ _); k_dflt (refine' len_at ?zwk1 ?zwk2 ?zwk3 ?_; (case zwk1 => k_asm); (case zwk2 => (repeat (first | assumption | exact List.Mem.head _ | apply List.Mem.tail))); (case zwk3 => omega); walk_at "pm3")))
  k_with "subscriptTail Name Name ref int" => ((k_here; (with_reducible show wpAny _ _ (subscriptTail _ _ (Value.ref _) (Value.int _ _)) _ _ _); k_dflt (refine' sub_at ?zwk1 ?zwk2 ?zwk3 ?zwk4 ?zwk5 ?_ ?zwk7; (case zwk1 => k_asm); (case zwk2 => (repeat (first | assumption | exact List.Mem.head _ | apply List.Mem.tail))); (case zwk3 => omega); (case zwk4 => omega); (case zwk5 => assumption); (case zwk7 => with_unfolding_all rfl); k_whole)))
  k_with "FnAt" => ((k_dflt (exact FnAt.of (by k_asm) (by first | assumption | k_mem))))
  k_with "callWith ref" => ((k_here; k_dflt (refine' callWith_F ?zwk1 ?_; (case zwk1 => exact FnAt.of (by k_asm) (by first | assumption | k_mem)); k_whole)))
  k_with "And" => (((with_reducible show FnAt _ _ ∧ _); k_dflt (refine ⟨FnAt.of (by k_asm) (by first | assumption | k_mem), ?_⟩); (try dsimp only [List.nil_append, List.cons_append])))
  k_with "exec Assign cons ListComp" => ((k_here; refine stop_intro ?_))
  k_with "k_all" => (first | assumption | exact all_ne (by assumption) (by omega) | fail)
  refine Mine.hd2 ?_
  k_go0
  (all_goals try k_fold)
  k_steps
  rename_i w s0 s1 mg mb G1 Y1 fa o1 pm doc ho hg X1 V1 T1 B1 TE1 TW1 hcd ns hs9 hlay0 hL0 hr9 hl9 z1 z2 sl svs z3 hL9 ra w1 r0 hI hr8 hcond hcond2 hD h1 tk1 oA oB dA dB X0 X T K F cH N l0
  have hsl : (ghostOf s1.heap [(124, 122), (146, 144)]).IsList sl svs.toArray := by assumption
  have hn63 : ns.length ≤ 63 := by omega
  obtain ⟨m0, F0, hm0⟩ : ∃ m0 : Str → Option Value, Fr (ghostOf s1.heap [(124, 122), (146, 144)]) s1.heap.objs.size h1 m0 ∧ m0 (S' "script") = some (.ref sl) := ⟨_, F, by rfl⟩
  clear F
  clear r0 w1 hr8 hcond hcond2 hs9 hlay0 hL0 hr9 hl9
  refine stop_elim ?_
  show wpAny _ _ _ (fun v s₁ => wpAny _ _ (storeName _ _ v) (fun _ s' => wpAny _ _ _ ?QB ?EB s') _ s₁) _ _
  generalize hQB : ?QB = QB
  generalize hEB : ?EB = EB
  refine stop_intro ?_
  k_with_none
  w_top off
  k_with "storeName" => ((k_here; k_dflt (refine' storeX_Lf ?zweg ?zwed ?zweo ?zwet ?zwF ?zwN ?_ ?zwa ?zwb; (case zweg => dsimp only); (case zwed => dsimp only); (case zweo => dsimp only); (case zwet => dsimp only); (case zwF => k_asm); (case zwN => k_asm); (case zwa => rfl); (case zwb => rfl); k_whole; walk_at "pm0"; (try k_sweep))))
  k_with "tb_start" => (k_dflt (first
  | (refine' code_def ?zwk1 ?zwk2 ?zwk3 ?zwk4 ?zwk5 ?zwkA ?zwkF ?zwkK ?zwk6 ?zwk7 ?zwk8 ?zwk9 ?zwkB ?_ ?zwc2 ?zwc3 ?zwc4 ?zwc5; (case zwkA => exact rfl); (case zwkF => exact rfl); (case zwkK => first | assumption | exact rfl); (case zwk1 => k_asm); (case zwk2 => k_asm); (case zwk3 => k_asm); (case zwk4 => k_asm); (case zwk5 => k_asm); (case zwk6 => k_is); (case zwk7 => k_is); (case zwk8 => ktr_room); (case zwk9 => first | exact BindsTo.of_eq rfl | (refine' kp_binds ?zwkx ?zwke; (case zwkx => k_in); (case zwke => exact fun _ => rfl))); (case zwc5 => decide); (case zwkB => exact locs rfl); (case zwc2 => exact rfl); (case zwc3 => exact rfl); (case zwc4 => exact rfl); k_whole; walk_at "pm1"; (try dsimp only); (try k_fold))
  | (refine' code_defC ?zwk1 ?zwk2 ?zwk3 ?zwk4 ?zwk5 ?zwkA ?zwkF ?zwkK ?zwk6 ?zwk7 ?zwk8 ?zwk9 ?zwkB ?zwkD ?_ ?zwc2 ?zwc3 ?zwc4; (case zwkA => exact rfl); (case zwkF => exact rfl); (case zwkK => first | assumption | exact rfl); (case zwk1 => k_asm); (case zwk2 => k_asm); (case zwk3 => k_asm); (case zwk4 => k_asm); (case zwk5 => k_asm); (case zwk6 => k_is); (case zwk7 => k_is); (case zwk8 => ktr_room); (case zwk9 => first | exact BindsTo.of_eq rfl | (refine' kp_binds ?zwkx ?zwke; (case zwkx => k_in); (case zwke => exact fun _ => rfl))); (case zwkB => exact rfl); (case zwkD => decide +kernel); (case zwc2 => exact rfl); (case zwc3 => exact rfl); (case zwc4 => exact rfl); k_whole; walk_at "pm2"; (try dsimp only); (try k_fold))))
  k_with "k_all" => (first | assumption | exact all_ne (by assumption) (by omega) | fail)
  k_with "call ref" => ((k_here; refine stop_intro ?_))
  k_with "k_all" => (first | assumption | (refine' List.forall_mem_cons.mpr ⟨?zwkza, ?zwkzb⟩; (case zwkza => (try dsimp only); first | assumption | exact ltN (by omega) | exact gtN (by omega) | fail); (case zwkzb => k_all)) | exact all_ne (by assumption) (by omega) | fail)
  k_with "loadName" => ((k_here; k_dflt (refine' ldn ?zwk1 ?zwk2 ?_; (case zwk1 => k_asm); (case zwk2 => (repeat (first | assumption | exact if_pos rfl | refine' (if_neg (by decide)).trans ?_))))))
  k_with "eval Name" => ((k_here; name_kind "local"; k_dflt (refine' ld ?zwk1 ?zwk2 ?_; (case zwk1 => k_asm); (case zwk2 => (repeat (first | assumption | exact if_pos rfl | refine' (if_neg (by decide)).trans ?_))); k_whole)))
  k_with "pyIter ref" => ((k_here; refine stop_intro ?_))
  k_with "exec For" => ((k_here; k_dflt (refine' for_ruleL ?zwhF ?zwhs ?_; (case zwhF => k_asm); (case zwhs => intro _; rfl))))
  k_with "exec For Name Name cons nil" => ((k_here; k_dflt (refine' for_ruleL ?zwhF ?zwhs ?_; (case zwhF => k_asm); (case zwhs => intro _; rfl))))
  k_with "exec For Name Subscript cons nil" => ((k_here; k_dflt (refine' for_ruleL ?zwhF ?zwhs ?_; (case zwhF => k_asm); (case zwhs => intro _; rfl))))
  k_with "exec For Name Call cons nil" => ((k_here; k_dflt (refine' for_ruleL ?zwhF ?zwhs ?_; (case zwhF => k_asm); (case zwhs => intro _; rfl))))
  k_with "exec For Tuple Name cons nil" => ((k_here; k_dflt (refine' for_ruleL ?zwhF ?zwhs ?_; (case zwhF => k_asm); (case zwhs => intro _; rfl))))
  k_with "exec For Tuple" => ((k_here; k_dflt (refine' for_ruleL ?zwhF ?zwhs ?_; (case zwhF => k_asm); (case zwhs => intro _; rfl))))
  k_with "call builtin:len" => ((k_here; (with_reducible show wpAny _ _ (call (Value.builtin _) [Value.ref _]) _ _ _); k_dflt (refine' len_at ?zwk1 ?zwk2 ?zwk3 ?_; (case zwk1 => k_asm); (case zwk2 => (repeat (first | assumption | exact List.Mem.head _ | apply List.Mem.tail))); (case zwk3 => omega); walk_at "pm3")))
  k_with "subscriptTail Name Name ref int" => ((k_here; (with_reducible show wpAny _ _ (subscriptTail _ _ (Value.ref _) (Value.int _ _)) _ _ _); k_dflt (refine' sub_at ?zwk1 ?zwk2 ?zwk3 ?zwk4 ?zwk5 ?_ ?zwk7; (case zwk1 => k_asm); (case zwk2 => (repeat (first | assumption | exact List.Mem.head _ | apply List.Mem.tail))); (case zwk3 => omega); (case zwk4 => omega); (case zwk5 => assumption); (case zwk7 => with_unfolding_all rfl); k_whole)))
  k_with "FnAt" => ((k_dflt (exact FnAt.of (by k_asm) (by first | assumption | k_mem))))
  k_with "callWith ref" => ((k_here; k_dflt (refine' callWith_F ?zwk1 ?_; (case zwk1 => exact FnAt.of (by k_asm) (by first | assumption | k_mem)); k_whole)))
  k_with "And" => (((with_reducible show FnAt _ _ ∧ _); k_dflt (refine ⟨FnAt.of (by k_asm) (by first | assumption | k_mem), ?_⟩); (try dsimp only [List.nil_append, List.cons_append])))
  k_with "exec Assign cons ListComp" => ((k_here; refine stop_intro ?_))
  k_with "k_all" => (first | assumption | exact all_ne (by assumption) (by omega) | fail)
  (first | refine stop_elim ?_ | (rotate_left 1; refine stop_elim ?_) | (rotate_left 2; refine stop_elim ?_) | (rotate_left 3; refine stop_elim ?_) | (rotate_left 4; refine stop_elim ?_) | (rotate_left 5; refine stop_elim ?_) | (rotate_left 6; refine stop_elim ?_) | (rotate_left 7; refine stop_elim ?_) | (rotate_left 8; refine stop_elim ?_) | (rotate_left 9; refine stop_elim ?_) | (rotate_left 10; refine stop_elim ?_) | (rotate_left 11; refine stop_elim ?_) | (rotate_left 12; refine stop_elim ?_) | (rotate_left 13; refine stop_elim ?_) | (rotate_left 14; refine stop_elim ?_) | (rotate_left 15; refine stop_elim ?_) | (rotate_left 16; refine stop_elim ?_) | (rotate_left 17; refine stop_elim ?_) | (rotate_left 18; refine stop_elim ?_) | (rotate_left 19; refine stop_elim ?_) )
  (try k_fold)
  refine' CallH.use (leaves_call w _ sl svs ns hI hn63) ?k1_M2 ?k2_M2 ?k3_M2 ?k4_M2 ?k5_M2 ?kK_M2 ?kd_M2 ?ku_M2 ?hH_M2 ?_
  case hH_M2 => exact hsl
  case k1_M2 => k_asm
  case k2_M2 => k_asm
  case k3_M2 => k_asm
  case k4_M2 => k_asm
  case k5_M2 => k_asm
  case kK_M2 => exact rfl
  case kd_M2 => ktr_room
  case ku_M2 => ktr_units
  intro v9 n9 gA tkA zr0 FA NA
  (try dsimp only)
  (try k_fold)
  obtain ⟨lv, lvs, ls, cl, rfl, ltA, hil, hll, hlf, rfl⟩ := zr0
  simp only [AllLt, and_true] at ltA
  (try k_fold)
  k_steps
  rename_i hB oL FB NB dL
  (first | refine stop_elim ?_ | (rotate_left 1; refine stop_elim ?_) | (rotate_left 2; refine stop_elim ?_) | (rotate_left 3; refine stop_elim ?_) | (rotate_left 4; refine stop_elim ?_) | (rotate_left 5; refine stop_elim ?_) | (rotate_left 6; refine stop_elim ?_) | (rotate_left 7; refine stop_elim ?_) | (rotate_left 8; refine stop_elim ?_) | (rotate_left 9; refine stop_elim ?_) | (rotate_left 10; refine stop_elim ?_) | (rotate_left 11; refine stop_elim ?_) | (rotate_left 12; refine stop_elim ?_) | (rotate_left 13; refine stop_elim ?_) | (rotate_left 14; refine stop_elim ?_) | (rotate_left 15; refine stop_elim ?_) | (rotate_left 16; refine stop_elim ?_) | (rotate_left 17; refine stop_elim ?_) | (rotate_left 18; refine stop_elim ?_) | (rotate_left 19; refine stop_elim ?_) )
  (try k_fold)
  have NB' : News _ _ _ ((122, tabObj #[]) :: (lv, W.listOf (List.toArray lvs) cl) :: [(s1.heap.objs.size + 1 + 1, oA), (s1.heap.objs.size + 1, oL), (144, tabObj #[])]) := news_pick NB (by
    intro p hp
    simp only [List.mem_cons, List.not_mem_nil, or_false] at hp ⊢
    rcases hp with rfl | rfl | rfl | rfl | rfl
    · exact .inr (.inr (.inr (.inl rfl)))
    · exact .inl rfl
    · exact .inr (.inl rfl)
    · exact .inr (.inr (.inl rfl))
    · exact .inr (.inr (.inr (.inr rfl)))
    )
  have hnw : ∀ p ∈ (lv, W.listOf (List.toArray lvs) cl) :: [(s1.heap.objs.size + 1 + 1, oA), (s1.heap.objs.size + 1, oL), (144, tabObj #[])], p.1 ≠ 122 := by
    intro p hp
    simp only [List.mem_cons, List.not_mem_nil, or_false] at hp
    rcases hp with rfl | rfl | rfl | rfl
    · exact gtN (by omega)
    · exact gtN (by omega)
    · exact gtN (by omega)
    · exact gtN (by decide)
  refine' Call1.use (ties_call w _ lv lvs ls cl hil hll hnw) ?k1_M2 ?k2_M2 ?k3_M2 ?k4_M2 ?k5_M2 ?kK_M2 ?kd_M2 ?ku_M2 ?_
  case k1_M2 => k_asm
  case k2_M2 => k_asm
  case k3_M2 => k_asm
  case k4_M2 => exact NB'
  case k5_M2 => k_asm
  case kK_M2 => exact rfl
  case kd_M2 => ktr_room
  case ku_M2 => ktr_units
  intro v9 n9 gC tkC zr0 FC NC
  (try dsimp only)
  (try k_fold)
  obtain ⟨T, ts, ct, ps, X, rfl, rfl, hts, hsX, hoX, hT1⟩ := zr0
  (try k_fold)
  k_steps
  rename_i hE FE ND
  refine e1a3 ((⟨_, FE, by (repeat (first | assumption | exact if_pos rfl | refine' (if_neg (by decide)).trans ?_)), by (repeat (first | assumption | exact if_pos rfl | refine' (if_neg (by decide)).trans ?_))⟩ : ∃ m2 : Str → Option Value, Fr (ghostOf s1.heap [(124, 122), (146, 144)]) s1.heap.objs.size hE m2 ∧ m2 (S' "script") = some (.ref sl) ∧ m2 (S' "ties") = some (.ref T))) fun m2 FD hm1 hm2 => ?_
  clear FE
  refine e1a4 (news_sep (c := 144) (o := tabObj #[]) ND (.tail _ (.tail _ (hsX _ (by simp))))) fun Y NY hoY hXY hYX => ?_
  have hsep : ∀ p ∈ X, p.1 ≠ 144 → p ∈ Y := fun p hp => hXY p (.tail _ (.tail _ hp))
  have htsY : Are (IsTie Y) ts (tieF ls (prs ls.length)) := (hts.imp (IsTie.mono fun p hp => .tail _ (.tail _ hp))).imp (IsTie.sep ND (.tail _ (.tail _ (hsX _ (by simp)))) (tab_ne (ps := #[])) hXY)
  have hlvY : (lv, W.listOf lvs.toArray cl) ∈ Y := hsep _ (hsX _ (by simp)) (gtN (by omega))
  have hcLY : (s1.heap.objs.size + 1, oL) ∈ Y := hsep _ (hsX _ (by simp)) (gtN (by omega))
  have hcBY : (s1.heap.objs.size + 1 + 1, oA) ∈ Y := hsep _ (hsX _ (by simp)) (gtN (by omega))
  have hT144 : T ≠ 144 := (hoX _ (hsX (144, tabObj #[]) (by simp))).1.symm
  have h122Y : (122, tabObj ps) ∈ Y := hXY _ (.tail _ (.head _)) (show (122 : Nat) ≠ 144 by decide)
  have hTY : (T, W.listOf ts.toArray ct) ∈ Y := hXY _ (.head _) hT144
  clear hXY hYX hsep hsX hoX hts hnw ND
  k_with_none
  w_top off
  k_with "storeName" => ((k_here; k_dflt (refine' storeX_Lf ?zweg ?zwed ?zweo ?zwet ?zwF ?zwN ?_ ?zwa ?zwb; (case zweg => dsimp only); (case zwed => dsimp only); (case zweo => dsimp only); (case zwet => dsimp only); (case zwF => k_asm); (case zwN => k_asm); (case zwa => rfl); (case zwb => rfl); k_whole; walk_at "pm0"; (try k_sweep))))
  k_with "tb_start" => (k_dflt (first
  | (refine' code_def ?zwk1 ?zwk2 ?zwk3 ?zwk4 ?zwk5 ?zwkA ?zwkF ?zwkK ?zwk6 ?zwk7 ?zwk8 ?zwk9 ?zwkB ?_ ?zwc2 ?zwc3 ?zwc4 ?zwc5; (case zwkA => exact rfl); (case zwkF => exact rfl); (case zwkK => first | assumption | exact rfl); (case zwk1 => k_asm); (case zwk2 => k_asm); (case zwk3 => k_asm); (case zwk4 => k_asm); (case zwk5 => k_asm); (case zwk6 => k_is); (case zwk7 => k_is); (case zwk8 => ktr_room); (case zwk9 => first | exact BindsTo.of_eq rfl | (refine' kp_binds ?zwkx ?zwke; (case zwkx => k_in); (case zwke => exact fun _ => rfl))); (case zwc5 => decide); (case zwkB => exact locs rfl); (case zwc2 => exact rfl); (case zwc3 => exact rfl); (case zwc4 => exact rfl); k_whole; walk_at "pm1"; (try dsimp only); (try k_fold))
  | (refine' code_defC ?zwk1 ?zwk2 ?zwk3 ?zwk4 ?zwk5 ?zwkA ?zwkF ?zwkK ?zwk6 ?zwk7 ?zwk8 ?zwk9 ?zwkB ?zwkD ?_ ?zwc2 ?zwc3 ?zwc4; (case zwkA => exact rfl); (case zwkF => exact rfl); (case zwkK => first | assumption | exact rfl); (case zwk1 => k_asm); (case zwk2 => k_asm); (case zwk3 => k_asm); (case zwk4 => k_asm); (case zwk5 => k_asm); (case zwk6 => k_is); (case zwk7 => k_is); (case zwk8 => ktr_room); (case zwk9 => first | exact BindsTo.of_eq rfl | (refine' kp_binds ?zwkx ?zwke; (case zwkx => k_in); (case zwke => exact fun _ => rfl))); (case zwkB => exact rfl); (case zwkD => decide +kernel); (case zwc2 => exact rfl); (case zwc3 => exact rfl); (case zwc4 => exact rfl); k_whole; walk_at "pm2"; (try dsimp only); (try k_fold))))
  k_with "k_all" => (first | assumption | exact all_ne (by assumption) (by omega) | fail)
  k_with "call ref" => ((k_here; refine stop_intro ?_))
  k_with "k_all" => (first | assumption | (refine' List.forall_mem_cons.mpr ⟨?zwkza, ?zwkzb⟩; (case zwkza => (try dsimp only); first | assumption | exact ltN (by omega) | exact gtN (by omega) | fail); (case zwkzb => k_all)) | exact all_ne (by assumption) (by omega) | fail)
  k_with "loadName" => ((k_here; k_dflt (refine' ldn ?zwk1 ?zwk2 ?_; (case zwk1 => k_asm); (case zwk2 => (repeat (first | assumption | exact if_pos rfl | refine' (if_neg (by decide)).trans ?_))))))
  k_with "eval Name" => ((k_here; name_kind "local"; k_dflt (refine' ld ?zwk1 ?zwk2 ?_; (case zwk1 => k_asm); (case zwk2 => (repeat (first | assumption | exact if_pos rfl | refine' (if_neg (by decide)).trans ?_))); k_whole)))
  k_with "pyIter ref" => ((k_here; refine stop_intro ?_))
  k_with "exec For" => ((k_here; k_dflt (refine' for_ruleL ?zwhF ?zwhs ?_; (case zwhF => k_asm); (case zwhs => intro _; rfl))))
  k_with "exec For Name Name cons nil" => ((k_here; k_dflt (refine' for_ruleL ?zwhF ?zwhs ?_; (case zwhF => k_asm); (case zwhs => intro _; rfl))))
  k_with "exec For Name Subscript cons nil" => ((k_here; k_dflt (refine' for_ruleL ?zwhF ?zwhs ?_; (case zwhF => k_asm); (case zwhs => intro _; rfl))))
  k_with "exec For Name Call cons nil" => ((k_here; k_dflt (refine' for_ruleL ?zwhF ?zwhs ?_; (case zwhF => k_asm); (case zwhs => intro _; rfl))))
  k_with "exec For Tuple Name cons nil" => ((k_here; k_dflt (refine' for_ruleL ?zwhF ?zwhs ?_; (case zwhF => k_asm); (case zwhs => intro _; rfl))))
  k_with "exec For Tuple" => ((k_here; k_dflt (refine' for_ruleL ?zwhF ?zwhs ?_; (case zwhF => k_asm); (case zwhs => intro _; rfl))))
  k_with "call builtin:len" => ((k_here; (with_reducible show wpAny _ _ (call (Value.builtin _) [Value.ref _]) _ _ _); k_dflt (refine' len_at ?zwk1 ?zwk2 ?zwk3 ?_; (case zwk1 => k_asm); (case zwk2 => (repeat (first | assumption | exact List.Mem.head _ | apply List.Mem.tail))); (case zwk3 => omega); walk_at "pm3")))
  k_with "subscriptTail Name Name ref int" => ((k_here; (with_reducible show wpAny _ _ (subscriptTail _ _ (Value.ref _) (Value.int _ _)) _ _ _); k_dflt (refine' sub_at ?zwk1 ?zwk2 ?zwk3 ?zwk4 ?zwk5 ?_ ?zwk7; (case zwk1 => k_asm); (case zwk2 => (repeat (first | assumption | exact List.Mem.head _ | apply List.Mem.tail))); (case zwk3 => omega); (case zwk4 => omega); (case zwk5 => assumption); (case zwk7 => with_unfolding_all rfl); k_whole)))
  k_with "FnAt" => ((k_dflt (exact FnAt.of (by k_asm) (by first | assumption | k_mem))))
  k_with "callWith ref" => ((k_here; k_dflt (refine' callWith_F ?zwk1 ?_; (case zwk1 => exact FnAt.of (by k_asm) (by first | assumption | k_mem)); k_whole)))
  k_with "And" => (((with_reducible show FnAt _ _ ∧ _); k_dflt (refine ⟨FnAt.of (by k_asm) (by first | assumption | k_mem), ?_⟩); (try dsimp only [List.nil_append, List.cons_append])))
  k_with "exec Assign cons ListComp" => ((k_here; refine stop_intro ?_))
  k_with "eval Name" => ((k_here; name_kind "free"; k_dflt (refine' lcf_cell ?zwN ?zwc ?zwm ?zwd ?_ ?zwa ?zwb; (case zwa => rfl); (case zwb => rfl); (case zwN => k_asm); (case zwc => rfl); (case zwm => (repeat (first | assumption | apply List.Mem.tail))); (case zwd => assumption); k_whole)))
  k_with "eval Name" => ((k_here; name_kind "cell"; k_dflt (refine' nameX_C ?zwN ?zwc ?zwm ?zwd ?_ ?zwa ?zwb; (case zwa => rfl); (case zwb => rfl); (case zwN => k_asm); (case zwc => rfl); (case zwm => (repeat (first | assumption | exact List.Mem.head _ | apply List.Mem.tail))); (case zwd => assumption); k_whole)))
  k_with "call ref" => ((k_here; (with_reducible show wpAny _ _ (call (Value.ref 120) [Value.int _ _, Value.int _ _]) _ _ _); k_dflt (refine' Call1.useI (price_call _ _ _ _ _ _) ?zwk1 ?zwk2 ?zwk3 ?zwk4 ?zwk5 ?zwkK ?zwkd ?zwku ?_; (case zwk1 => k_asm); (case zwk2 => k_asm); (case zwk3 => k_asm); (case zwk4 => k_asm); (case zwk5 => k_asm); (case zwkK => first | exact rfl | assumption); (case zwkd => ktr_room); (case zwku => ktr_units); walk_at "pm4"; (try dsimp only); (try k_fold))))
  k_with "k_all" => (first | assumption | exact all_ne (by assumption) (by omega) | fail)
  have hvl := IntsAre.length (by assumption : IntsAre lvs ls)
  refine stop_elim ?_
  (try k_fold)
  (refine' comp2_a ?e1_M3 ?e2_M3 ?e3_M3 ?e4_M3 ?e5_M3 ?e6_M3 ?e7_M3 ?e8_M3 ?e9_M3 ?e10_M3 ?e11_M3 ?e12_M3 ?e13_M3 ?_; (case e1_M3 => exact rfl); (case e2_M3 => with_unfolding_all rfl); (case e3_M3 => with_unfolding_all rfl); (case e4_M3 => decide); (case e5_M3 => rfl); (case e6_M3 => decide); (case e7_M3 => intro _; rfl); (case e8_M3 => rfl); (case e9_M3 => rfl); (case e10_M3 => decide); (case e11_M3 => intro _ _; rfl); (case e12_M3 => rfl); (case e13_M3 => rfl))
  (try k_fold)
  k_steps
  (first | refine stop_elim ?_ | (rotate_left 1; refine stop_elim ?_) | (rotate_left 2; refine stop_elim ?_) | (rotate_left 3; refine stop_elim ?_) | (rotate_left 4; refine stop_elim ?_) | (rotate_left 5; refine stop_elim ?_) | (rotate_left 6; refine stop_elim ?_) | (rotate_left 7; refine stop_elim ?_) | (rotate_left 8; refine stop_elim ?_) | (rotate_left 9; refine stop_elim ?_) | (rotate_left 10; refine stop_elim ?_) | (rotate_left 11; refine stop_elim ?_) | (rotate_left 12; refine stop_elim ?_) | (rotate_left 13; refine stop_elim ?_) | (rotate_left 14; refine stop_elim ?_) | (rotate_left 15; refine stop_elim ?_) | (rotate_left 16; refine stop_elim ?_) | (rotate_left 17; refine stop_elim ?_) | (rotate_left 18; refine stop_elim ?_) | (rotate_left 19; refine stop_elim ?_) )
  (try k_fold)
  have hR := (by assumption : IsRange _ _ _ _ _ _ _ _)
  refine' src_range rfl ?F_M3 ?N_M3 hR (small_k (by omega)) (range_k _) ?_
  case F_M3 => k_asm
  case N_M3 => k_asm
  intro it9 s9 S9
  obtain ⟨g9, e9⟩ := srcAt_same S9
  subst e9
  refine Comp2.put (fun i => i) (CamJ ls Y) S9 rfl ?ja_M3 ?jb_M3 ?jc_M3 ?jd_M3 ?je_M3 ?jf_M3
  case ja_M3 => exact ⟨Y, rfl, .nil, fun p hp => hp, hoY, Nat.zero_le _⟩
  case jb_M3 =>
    intro i v ys Z I oI C oC D m3 h tk E' hi9 zr0 hJ hsub hoff hC hm F9 N9
    (try dsimp only)
    (try k_fold)
    refine e1a1 (zr0) fun t9 ze0 => ?_
    clear zr0
    subst ze0
    rw [Int.zero_add] at hm
    (try k_fold)
    k_steps
    · k_asm
    · k_asm
    · refine stop_elim ?_
      exact srcR_range (by assumption) rfl (small_k (by omega)) (range_k _) fun it s2 S => S
  case jc_M3 =>
    intro i v j tj ys Z I oI I0 oI0 C oC D m3 h tk E' hi9 zr0 hj9 zr1 hsub hoff hC hm hmj F9 N9
    (try dsimp only)
    (try k_fold)
    refine e1a1 (zr0) fun t9 ze0 => ?_
    clear zr0
    subst ze0
    refine e1a5 (zr1) fun Z ze0 ha hYZ hZo hl => ?_
    clear zr1
    subst ze0
    rw [Int.zero_add] at hm
    (try k_fold)
    k_with_none
    w_top off
    k_with "storeName" => ((k_here; k_dflt (refine' storeX_Lf ?zweg ?zwed ?zweo ?zwet ?zwF ?zwN ?_ ?zwa ?zwb; (case zweg => dsimp only); (case zwed => dsimp only); (case zweo => dsimp only); (case zwet => dsimp only); (case zwF => k_asm); (case zwN => k_asm); (case zwa => rfl); (case zwb => rfl); k_whole; walk_at "pm0"; (try k_sweep))))
    k_with "tb_start" => (k_dflt (first
    | (refine' code_def ?zwk1 ?zwk2 ?zwk3 ?zwk4 ?zwk5 ?zwkA ?zwkF ?zwkK ?zwk6 ?zwk7 ?zwk8 ?zwk9 ?zwkB ?_ ?zwc2 ?zwc3 ?zwc4 ?zwc5; (case zwkA => exact rfl); (case zwkF => exact rfl); (case zwkK => first | assumption | exact rfl); (case zwk1 => k_asm); (case zwk2 => k_asm); (case zwk3 => k_asm); (case zwk4 => k_asm); (case zwk5 => k_asm); (case zwk6 => k_is); (case zwk7 => k_is); (case zwk8 => ktr_room); (case zwk9 => first | exact BindsTo.of_eq rfl | (refine' kp_binds ?zwkx ?zwke; (case zwkx => k_in); (case zwke => exact fun _ => rfl))); (case zwc5 => decide); (case zwkB => exact locs rfl); (case zwc2 => exact rfl); (case zwc3 => exact rfl); (case zwc4 => exact rfl); k_whole; walk_at "pm1"; (try dsimp only); (try k_fold))
    | (refine' code_defC ?zwk1 ?zwk2 ?zwk3 ?zwk4 ?zwk5 ?zwkA ?zwkF ?zwkK ?zwk6 ?zwk7 ?zwk8 ?zwk9 ?zwkB ?zwkD ?_ ?zwc2 ?zwc3 ?zwc4; (case zwkA => exact rfl); (case zwkF => exact rfl); (case zwkK => first | assumption | exact rfl); (case zwk1 => k_asm); (case zwk2 => k_asm); (case zwk3 => k_asm); (case zwk4 => k_asm); (case zwk5 => k_asm); (case zwk6 => k_is); (case zwk7 => k_is); (case zwk8 => ktr_room); (case zwk9 => first | exact BindsTo.of_eq rfl | (refine' kp_binds ?zwkx ?zwke; (case zwkx => k_in); (case zwke => exact fun _ => rfl))); (case zwkB => exact rfl); (case zwkD => decide +kernel); (case zwc2 => exact rfl); (case zwc3 => exact rfl); (case zwc4 => exact rfl); k_whole; walk_at "pm2"; (try dsimp only); (try k_fold))))
    k_with "k_all" => (first | assumption | exact all_ne (by assumption) (by omega) | fail)
    k_with "call ref" => ((k_here; refine stop_intro ?_))
    k_with "k_all" => (first | assumption | (refine' List.forall_mem_cons.mpr ⟨?zwkza, ?zwkzb⟩; (case zwkza => (try dsimp only); first | assumption | exact ltN (by omega) | exact gtN (by omega) | fail); (case zwkzb => k_all)) | exact all_ne (by assumption) (by omega) | fail)
    k_with "loadName" => ((k_here; k_dflt (refine' ldn ?zwk1 ?zwk2 ?_; (case zwk1 => k_asm); (case zwk2 => (repeat (first | assumption | exact if_pos rfl | refine' (if_neg (by decide)).trans ?_))))))
    k_with "eval Name" => ((k_here; name_kind "local"; k_dflt (refine' ld ?zwk1 ?zwk2 ?_; (case zwk1 => k_asm); (case zwk2 => (repeat (first | assumption | exact if_pos rfl | refine' (if_neg (by decide)).trans ?_))); k_whole)))
    k_with "pyIter ref" => ((k_here; refine stop_intro ?_))
    k_with "exec For" => ((k_here; k_dflt (refine' for_ruleL ?zwhF ?zwhs ?_; (case zwhF => k_asm); (case zwhs => intro _; rfl))))
    k_with "exec For Name Name cons nil" => ((k_here; k_dflt (refine' for_ruleL ?zwhF ?zwhs ?_; (case zwhF => k_asm); (case zwhs => intro _; rfl))))
    k_with "exec For Name Subscript cons nil" => ((k_here; k_dflt (refine' for_ruleL ?zwhF ?zwhs ?_; (case zwhF => k_asm); (case zwhs => intro _; rfl))))
    k_with "exec For Name Call cons nil" => ((k_here; k_dflt (refine' for_ruleL ?zwhF ?zwhs ?_; (case zwhF => k_asm); (case zwhs => intro _; rfl))))
    k_with "exec For Tuple Name cons nil" => ((k_here; k_dflt (refine' for_ruleL ?zwhF ?zwhs ?_; (case zwhF => k_asm); (case zwhs => intro _; rfl))))
    k_with "exec For Tuple" => ((k_here; k_dflt (refine' for_ruleL ?zwhF ?zwhs ?_; (case zwhF => k_asm); (case zwhs => intro _; rfl))))
    k_with "call builtin:len" => ((k_here; (with_reducible show wpAny _ _ (call (Value.builtin _) [Value.ref _]) _ _ _); k_dflt (refine' len_at ?zwk1 ?zwk2 ?zwk3 ?_; (case zwk1 => k_asm); (case zwk2 => (repeat (first | assumption | exact List.Mem.head _ | apply List.Mem.tail))); (case zwk3 => omega); walk_at "pm3")))
    k_with "subscriptTail Name Name ref int" => ((k_here; (with_reducible show wpAny _ _ (subscriptTail _ _ (Value.ref _) (Value.int _ _)) _ _ _); k_dflt (refine' sub_at ?zwk1 ?zwk2 ?zwk3 ?zwk4 ?zwk5 ?_ ?zwk7; (case zwk1 => k_asm); (case zwk2 => (repeat (first | assumption | exact List.Mem.head _ | apply List.Mem.tail))); (case zwk3 => omega); (case zwk4 => omega); (case zwk5 => assumption); (case zwk7 => with_unfolding_all rfl); k_whole)))
    k_with "FnAt" => ((k_dflt (exact FnAt.of (by k_asm) (by first | assumption | k_mem))))
    k_with "callWith ref" => ((k_here; k_dflt (refine' callWith_F ?zwk1 ?_; (case zwk1 => exact FnAt.of (by k_asm) (by first | assumption | k_mem)); k_whole)))
    k_with "And" => (((with_reducible show FnAt _ _ ∧ _); k_dflt (refine ⟨FnAt.of (by k_asm) (by first | assumption | k_mem), ?_⟩); (try dsimp only [List.nil_append, List.cons_append])))
    k_with "exec Assign cons ListComp" => ((k_here; refine stop_intro ?_))
    k_with "eval Name" => ((k_here; name_kind "free"; k_dflt (refine' lcf_cell ?zwN ?zwc ?zwm ?zwd ?_ ?zwa ?zwb; (case zwa => rfl); (case zwb => rfl); (case zwN => k_asm); (case zwc => rfl); (case zwm => (repeat (first | assumption | apply List.Mem.tail))); (case zwd => assumption); k_whole)))
    k_with "eval Name" => ((k_here; name_kind "cell"; k_dflt (refine' nameX_C ?zwN ?zwc ?zwm ?zwd ?_ ?zwa ?zwb; (case zwa => rfl); (case zwb => rfl); (case zwN => k_asm); (case zwc => rfl); (case zwm => (repeat (first | assumption | exact List.Mem.head _ | apply List.Mem.tail))); (case zwd => assumption); k_whole)))
    k_with "call ref" => ((k_here; (with_reducible show wpAny _ _ (call (Value.ref 120) [Value.int _ _, Value.int _ _]) _ _ _); k_dflt (refine' Call1.useI (price_call _ _ _ _ _ _) ?zwk1 ?zwk2 ?zwk3 ?zwk4 ?zwk5 ?zwkK ?zwkd ?zwku ?_; (case zwk1 => k_asm); (case zwk2 => k_asm); (case zwk3 => k_asm); (case zwk4 => k_asm); (case zwk5 => k_asm); (case zwkK => first | exact rfl | assumption); (case zwkd => ktr_room); (case zwku => ktr_units); walk_at "pm4"; (try dsimp only); (try k_fold))))
    k_with "k_all" => (first | assumption | exact all_ne (by assumption) (by omega) | fail)
    (try dsimp only at hj9)
    have hjl : j < ls.length := by omega
    refine e1a2 ((Are.of_ints (by assumption : IntsAre lvs ls)).get' (List.getElem?_eq_getElem hjl)) fun vj hvj zt0 => ?_
    refine e1a1 (zt0) fun tj2 ze1 => ?_
    clear zt0
    subst ze1
    refine e1a2 ((Are.of_ints (by assumption : IntsAre lvs ls)).get' (List.getElem?_eq_getElem hi9)) fun vk hvk zt0 => ?_
    refine e1a1 (zt0) fun tk2 ze1 => ?_
    clear zt0
    subst ze1
    have hvj' : lvs[((j : Int)).toNat]? = some _ := hvj
    have hvk' : lvs[((i : Int)).toNat]? = some _ := hvk
    have hlvZ := hYZ _ hlvY
    have hcLZ := hYZ _ hcLY
    have hpr : price ls[j] ls[i] = price (ls.getD j 0) (ls.getD i 0) := by rw [List.getD_eq_getElem?_getD, List.getD_eq_getElem?_getD, List.getElem?_eq_getElem hjl, List.getElem?_eq_getElem hi9]; rfl
    k_steps
    rename_i t8 DD hN FN NN lN
    rw [hpr] at NN
    obtain ⟨u1, u2, u3, kq, NN⟩ := name_t3 NN
    have hZD : ∀ p ∈ Z, p.1 < DD := fun p hp => allLt_at lN.2.2.2.2.2 p hp
    refine TurnT.intro ((144, tabObj #[]) :: (DD, tupOf [.int (price (ls.getD j 0) (ls.getD i 0)) u1, .int (j : Int) u2, .int (i : Int) u3] kq) :: Z) FN NN ?ta_M4 ?tb_M4 ?tc_M4 ⟨_, rfl, ?td_M4, fun p hp => .tail _ (hYZ p hp), ?tf_M4, ?tg_M4⟩
    case ta_M4 =>
      intro p hp
      simp only [List.mem_cons] at hp ⊢
      rcases hp with rfl | rfl | rfl | rfl | rfl | rfl | hp
      · exact .inr (.inl rfl)
      · exact .inr (.inr (.inl rfl))
      · exact .inr (.inr (.inr (.inl rfl)))
      · exact .inr (.inr (.inr (.inr (.inl rfl))))
      · exact .inr (.inr (.inr (.inr (.inr (.inl rfl)))))
      · exact .inl rfl
      · exact .inr (.inr (.inr (.inr (.inr (.inr hp)))))
    case tb_M4 =>
      intro p hp
      rcases List.mem_cons.mp hp with rfl | hp
      · exact .head _
      · exact .tail _ (.tail _ hp)
    case tc_M4 =>
      intro p hp
      rcases List.mem_cons.mp hp with rfl | hp
      · exact hoff _ (.head _)
      rcases List.mem_cons.mp hp with rfl | hp
      · exact ⟨gtN lN.1, gtN lN.2.2.2.1, gtN lN.2.2.1, gtN lN.2.1⟩
      · exact hoff p (.tail _ hp)
    case td_M4 =>
      rw [List.range_succ, List.map_append, ← List.append_assoc]
      unfold cam at ha ⊢
      rw [List.map_append]
      exact (ha.imp (IsTie.mono fun p hp => .tail _ hp)).snoc ⟨DD, kq, u1, u2, u3, rfl, .head _⟩
    case tf_M4 =>
      intro p hp
      rcases List.mem_cons.mp hp with rfl | hp
      · exact gtN lN.2.2.2.2.1
      · exact hZo p hp
    case tg_M4 =>
      have e := ha.len
      unfold cam at e
      rw [List.length_map, List.length_append, List.length_map, List.length_range] at e
      have e2 := prs_len (show i ≤ 5 by omega)
      rw [List.length_append, List.length_singleton]
      omega
  case jd_M3 =>
    intro i ys Z zr0
    obtain ⟨Z, rfl, ha, hYZ, hZo, hl⟩ := zr0
    exact ⟨Z, rfl, by rw [prs_succ]; simpa using ha, hYZ, hZo, hl⟩
  case je_M3 =>
    intro i j ys Z zr0
    obtain ⟨Z, rfl, ha, hYZ, hZo, hl⟩ := zr0
    rw [sizeLine_eq]; omega
  case jf_M3 =>
    intro D ys Z zr0 hsub hoff hlt h9 tk9 F9 N9
    (try dsimp only)
    (try k_fold)
    obtain ⟨Z, rfl, ha, hYZ, hZo, hl⟩ := zr0
    (try k_fold)
    k_with_none
    w_top off
    k_with "storeName" => ((k_here; k_dflt (refine' storeX_Lf ?zweg ?zwed ?zweo ?zwet ?zwF ?zwN ?_ ?zwa ?zwb; (case zweg => dsimp only); (case zwed => dsimp only); (case zweo => dsimp only); (case zwet => dsimp only); (case zwF => k_asm); (case zwN => k_asm); (case zwa => rfl); (case zwb => rfl); k_whole; walk_at "pm0"; (try k_sweep))))
    k_with "tb_start" => (k_dflt (first
    | (refine' code_def ?zwk1 ?zwk2 ?zwk3 ?zwk4 ?zwk5 ?zwkA ?zwkF ?zwkK ?zwk6 ?zwk7 ?zwk8 ?zwk9 ?zwkB ?_ ?zwc2 ?zwc3 ?zwc4 ?zwc5; (case zwkA => exact rfl); (case zwkF => exact rfl); (case zwkK => first | assumption | exact rfl); (case zwk1 => k_asm); (case zwk2 => k_asm); (case zwk3 => k_asm); (case zwk4 => k_asm); (case zwk5 => k_asm); (case zwk6 => k_is); (case zwk7 => k_is); (case zwk8 => ktr_room); (case zwk9 => first | exact BindsTo.of_eq rfl | (refine' kp_binds ?zwkx ?zwke; (case zwkx => k_in); (case zwke => exact fun _ => rfl))); (case zwc5 => decide); (case zwkB => exact locs rfl); (case zwc2 => exact rfl); (case zwc3 => exact rfl); (case zwc4 => exact rfl); k_whole; walk_at "pm1"; (try dsimp only); (try k_fold))
    | (refine' code_defC ?zwk1 ?zwk2 ?zwk3 ?zwk4 ?zwk5 ?zwkA ?zwkF ?zwkK ?zwk6 ?zwk7 ?zwk8 ?zwk9 ?zwkB ?zwkD ?_ ?zwc2 ?zwc3 ?zwc4; (case zwkA => exact rfl); (case zwkF => exact rfl); (case zwkK => first | assumption | exact rfl); (case zwk1 => k_asm); (case zwk2 => k_asm); (case zwk3 => k_asm); (case zwk4 => k_asm); (case zwk5 => k_asm); (case zwk6 => k_is); (case zwk7 => k_is); (case zwk8 => ktr_room); (case zwk9 => first | exact BindsTo.of_eq rfl | (refine' kp_binds ?zwkx ?zwke; (case zwkx => k_in); (case zwke => exact fun _ => rfl))); (case zwkB => exact rfl); (case zwkD => decide +kernel); (case zwc2 => exact rfl); (case zwc3 => exact rfl); (case zwc4 => exact rfl); k_whole; walk_at "pm2"; (try dsimp only); (try k_fold))))
    k_with "k_all" => (first | assumption | exact all_ne (by assumption) (by omega) | fail)
    k_with "call ref" => ((k_here; refine stop_intro ?_))
    k_with "k_all" => (first | assumption | (refine' List.forall_mem_cons.mpr ⟨?zwkza, ?zwkzb⟩; (case zwkza => (try dsimp only); first | assumption | exact ltN (by omega) | exact gtN (by omega) | fail); (case zwkzb => k_all)) | exact all_ne (by assumption) (by omega) | fail)
    k_with "loadName" => ((k_here; k_dflt (refine' ldn ?zwk1 ?zwk2 ?_; (case zwk1 => k_asm); (case zwk2 => (repeat (first | assumption | exact if_pos rfl | refine' (if_neg (by decide)).trans ?_))))))
    k_with "eval Name" => ((k_here; name_kind "local"; k_dflt (refine' ld ?zwk1 ?zwk2 ?_; (case zwk1 => k_asm); (case zwk2 => (repeat (first | assumption | exact if_pos rfl | refine' (if_neg (by decide)).trans ?_))); k_whole)))
    k_with "pyIter ref" => ((k_here; refine stop_intro ?_))
    k_with "exec For" => ((k_here; k_dflt (refine' for_ruleL ?zwhF ?zwhs ?_; (case zwhF => k_asm); (case zwhs => intro _; rfl))))
    k_with "exec For Name Name cons nil" => ((k_here; k_dflt (refine' for_ruleL ?zwhF ?zwhs ?_; (case zwhF => k_asm); (case zwhs => intro _; rfl))))
    k_with "exec For Name Subscript cons nil" => ((k_here; k_dflt (refine' for_ruleL ?zwhF ?zwhs ?_; (case zwhF => k_asm); (case zwhs => intro _; rfl))))
    k_with "exec For Name Call cons nil" => ((k_here; k_dflt (refine' for_ruleL ?zwhF ?zwhs ?_; (case zwhF => k_asm); (case zwhs => intro _; rfl))))
    k_with "exec For Tuple Name cons nil" => ((k_here; k_dflt (refine' for_ruleL ?zwhF ?zwhs ?_; (case zwhF => k_asm); (case zwhs => intro _; rfl))))
    k_with "exec For Tuple" => ((k_here; k_dflt (refine' for_ruleL ?zwhF ?zwhs ?_; (case zwhF => k_asm); (case zwhs => intro _; rfl))))
    k_with "call builtin:len" => ((k_here; (with_reducible show wpAny _ _ (call (Value.builtin _) [Value.ref _]) _ _ _); k_dflt (refine' len_at ?zwk1 ?zwk2 ?zwk3 ?_; (case zwk1 => k_asm); (case zwk2 => (repeat (first | assumption | exact List.Mem.head _ | apply List.Mem.tail))); (case zwk3 => omega); walk_at "pm3")))
    k_with "subscriptTail Name Name ref int" => ((k_here; (with_reducible show wpAny _ _ (subscriptTail _ _ (Value.ref _) (Value.int _ _)) _ _ _); k_dflt (refine' sub_at ?zwk1 ?zwk2 ?zwk3 ?zwk4 ?zwk5 ?_ ?zwk7; (case zwk1 => k_asm); (case zwk2 => (repeat (first | assumption | exact List.Mem.head _ | apply List.Mem.tail))); (case zwk3 => omega); (case zwk4 => omega); (case zwk5 => assumption); (case zwk7 => with_unfolding_all rfl); k_whole)))
    k_with "FnAt" => ((k_dflt (exact FnAt.of (by k_asm) (by first | assumption | k_mem))))
    k_with "callWith ref" => ((k_here; k_dflt (refine' callWith_F ?zwk1 ?_; (case zwk1 => exact FnAt.of (by k_asm) (by first | assumption | k_mem)); k_whole)))
    k_with "And" => (((with_reducible show FnAt _ _ ∧ _); k_dflt (refine ⟨FnAt.of (by k_asm) (by first | assumption | k_mem), ?_⟩); (try dsimp only [List.nil_append, List.cons_append])))
    k_with "exec Assign cons ListComp" => ((k_here; refine stop_intro ?_))
    k_with "eval Name" => ((k_here; name_kind "free"; k_dflt (refine' lcf_cell ?zwN ?zwc ?zwm ?zwd ?_ ?zwa ?zwb; (case zwa => rfl); (case zwb => rfl); (case zwN => k_asm); (case zwc => rfl); (case zwm => (repeat (first | assumption | apply List.Mem.tail))); (case zwd => assumption); k_whole)))
    k_with "eval Name" => ((k_here; name_kind "cell"; k_dflt (refine' nameX_C ?zwN ?zwc ?zwm ?zwd ?_ ?zwa ?zwb; (case zwa => rfl); (case zwb => rfl); (case zwN => k_asm); (case zwc => rfl); (case zwm => (repeat (first | assumption | exact List.Mem.head _ | apply List.Mem.tail))); (case zwd => assumption); k_whole)))
    k_with "eval Lambda" => ((k_here; k_dflt (refine' kla_eval ?zwd0 ?_; (case zwd0 => exact rfl)); k_dflt (refine' lam_any ?zwF ?zwN ?zwT ?zwC ?zwcd ?zwU ?zwht ?zwhX ?zwcl ?_; (case zwF => k_asm); (case zwN => k_asm); (case zwT => k_asm); (case zwcd => exact rfl); (case zwC => assumption); (case zwht => exact .inl rfl); (case zwU => k_updF); (case zwhX => (intro p9 hp9; (repeat (first | exact hp9 | apply List.Mem.tail)))); (case zwcl => exact rfl); k_whole); walk_at "pm8"))
    k_with "compareOp NotEq ref ref" => ((k_here; refine stop_intro ?_))
    k_with "call builtin:sorted" => ((k_here; refine stop_intro ?_))
    k_with "k_all" => (first | assumption | exact all_ne (by assumption) (by omega) | fail)
    have hD144 : @Ne Nat D 144 := (hoff _ (.head _)).symm
    have hYD : ∀ p ∈ Y, p.1 < D := fun p hp => hlt p (.tail _ hp)
    have h144D : 144 < D := hlt _ (.head _)
    have haI : Are (IsTie Z) ys (cam ls (prs ls.length)) := by simpa using ha
    have hyl : ys.length = (prs ls.length).length := by rw [haI.len]; unfold cam; rw [List.length_map]
    have hpl := prs_len hll.2
    have hp2 : 2 ≤ (prs ls.length).length := prs_two hll.1
    clear ha
    k_steps
    all_goals (try first | exact Str.ofString "" | exact (0 : Nat) | exact Value.none)
    refine stop_elim ?_
    (try k_fold)
    rename_i f c' oc cvs ct' ctv gB tkB FB NB dd1 dd2 l3 l1 l2
    show wpAny _ _ (call (.builtin "sorted") [.ref D] [(Str.ofString "key", .ref f)]) _ _ _
    refine st_sorted (kz := (cam ls (prs ls.length)).map (·.1)) FB NB (.tail _ (.tail _ (.head _))) (by rw [List.length_map, haI.len]) (by omega) (by omega) ?ask_M5 ?done_M5
    case ask_M5 =>
      intro i v k hv hk h tk all hall F' N'
      (try dsimp only)
      (try k_fold)
      refine e1a2 (haI.get hv) fun x hx zt0 => ?_
      refine e5a2 (zt0) fun B kk u1 u2 u3 ze1 hB => ?_
      clear zt0
      subst ze1
      rw [List.getElem?_map, hx] at hk
      cases hk
      refine' Call1.use (key_call w all f c' B oc cvs ct' u1 _ _ ctv _ _ _ _ _ _ kk (hall _ (.head _)) (hall _ (.tail _ (.head _))) dd1 dd2 (hall _ (.tail _ (.tail _ (.tail _ (.tail _ hB)))))) ?k1_M5 ?k2_M5 ?k3_M5 N' ?k5_M5 ?kK_M5 ?kd_M5 ?ku_M5 ?_
      case k1_M5 => k_asm
      case k2_M5 => exact F'
      case k3_M5 => k_asm
      case k5_M5 => k_asm
      case kK_M5 => exact rfl
      case kd_M5 => ktr_room
      case ku_M5 => ktr_units
      intro v n' h' tk' zr0 F'' N''
      (try dsimp only)
      (try k_fold)
      obtain ⟨⟨t, rfl⟩, rfl⟩ := zr0
      exact KskEnd.intro F'' N'' fun p hp => hp
    case done_M5 =>
      intro D2 h9 tk9 out c9 F9 N9 lD2 ho
      have hso := st_ties haI ho
      (try k_fold)
      k_steps
      all_goals (try first | exact Str.ofString "" | exact (0 : Nat) | exact Value.none)
      refine stop_elim ?_
      (try k_fold)
      obtain ⟨outs, rfl⟩ : ∃ o : List Value, out = List.toArray o := ⟨out.toList, by simp⟩
      have hTZ : (T, W.listOf ts.toArray ct) ∈ Z := hYZ _ hTY
      have htsZ := htsY.imp (IsTie.mono hYZ)
      refine ne_lists (list_is N9 (.tail _ (.tail _ (.tail _ (.tail _ (.tail _ hTZ)))))) (list_is (k := c9) N9 (.head _)) (by ktr_units) (ties_eq N9 (by ktr_units) (htsZ.imp (IsTie.mono fun p hp => .tail _ (.tail _ (.tail _ (.tail _ (.tail _ hp)))))) (hso.imp (IsTie.mono fun p hp => .tail _ (.tail _ (.tail _ (.tail _ (.tail _ hp))))))) ?_
      refine e1a2 ((⟨_, ⟨by (repeat (first | assumption | exact if_pos rfl | refine' (if_neg (by decide)).trans ?_)), by (repeat (first | assumption | exact if_pos rfl | refine' (if_neg (by decide)).trans ?_))⟩, F9⟩ : ∃ m3 : Str → Option Value, (m3 (S' "script") = some (.ref sl) ∧ m3 (S' "ties") = some (.ref T)) ∧ Fr (ghostOf s1.heap [(124, 122), (146, 144)]) s1.heap.objs.size h9 m3)) fun m3 hm3 FG => ?_
      refine e1a3 ((⟨_, N9, fun p hp => .tail _ (.tail _ (.tail _ (.tail _ (.tail _ hp)))), _, .tail _ (.tail _ (.tail _ (.tail _ (.head _))))⟩ : ∃ Wl, News (ghostOf s1.heap [(124, 122), (146, 144)]) s1.heap.objs.size h9 Wl ∧ (∀ p ∈ Z, p ∈ Wl) ∧ ∃ ps4, (144, tabObj ps4) ∈ Wl)) fun Wl NW hZW zt0 => ?_
      refine e1a1 (zt0) fun ps4 h144W => ?_
      clear zt0
      have h122W := hZW _ (hYZ _ h122Y)
      have hTW := hZW _ hTZ
      have htsW := htsZ.imp (IsTie.mono hZW)
      have hlvW := hZW _ (hYZ _ hlvY)
      have hcLW := hZW _ (hYZ _ hcLY)
      have hcBW := hZW _ (hYZ _ hcBY)
      clear hZW hYZ hZo hYD htsY htsZ hso haI hTZ hlvY hcLY hcBY hTY h122Y hoY N9 F9 NB FB l1 l2 l3 dd1 dd2 lD2 ho hsub hoff hlt
      k_with_none
      w_top off
      k_with "storeName" => ((k_here; k_dflt (refine' storeX_Lf ?zweg ?zwed ?zweo ?zwet ?zwF ?zwN ?_ ?zwa ?zwb; (case zweg => dsimp only); (case zwed => dsimp only); (case zweo => dsimp only); (case zwet => dsimp only); (case zwF => k_asm); (case zwN => k_asm); (case zwa => rfl); (case zwb => rfl); k_whole; walk_at "pm0"; (try k_sweep))))
      k_with "tb_start" => (k_dflt (first
      | (refine' code_def ?zwk1 ?zwk2 ?zwk3 ?zwk4 ?zwk5 ?zwkA ?zwkF ?zwkK ?zwk6 ?zwk7 ?zwk8 ?zwk9 ?zwkB ?_ ?zwc2 ?zwc3 ?zwc4 ?zwc5; (case zwkA => exact rfl); (case zwkF => exact rfl); (case zwkK => first | assumption | exact rfl); (case zwk1 => k_asm); (case zwk2 => k_asm); (case zwk3 => k_asm); (case zwk4 => k_asm); (case zwk5 => k_asm); (case zwk6 => k_is); (case zwk7 => k_is); (case zwk8 => ktr_room); (case zwk9 => first | exact BindsTo.of_eq rfl | (refine' kp_binds ?zwkx ?zwke; (case zwkx => k_in); (case zwke => exact fun _ => rfl))); (case zwc5 => decide); (case zwkB => exact locs rfl); (case zwc2 => exact rfl); (case zwc3 => exact rfl); (case zwc4 => exact rfl); k_whole; walk_at "pm1"; (try dsimp only); (try k_fold))
      | (refine' code_defC ?zwk1 ?zwk2 ?zwk3 ?zwk4 ?zwk5 ?zwkA ?zwkF ?zwkK ?zwk6 ?zwk7 ?zwk8 ?zwk9 ?zwkB ?zwkD ?_ ?zwc2 ?zwc3 ?zwc4; (case zwkA => exact rfl); (case zwkF => exact rfl); (case zwkK => first | assumption | exact rfl); (case zwk1 => k_asm); (case zwk2 => k_asm); (case zwk3 => k_asm); (case zwk4 => k_asm); (case zwk5 => k_asm); (case zwk6 => k_is); (case zwk7 => k_is); (case zwk8 => ktr_room); (case zwk9 => first | exact BindsTo.of_eq rfl | (refine' kp_binds ?zwkx ?zwke; (case zwkx => k_in); (case zwke => exact fun _ => rfl))); (case zwkB => exact rfl); (case zwkD => decide +kernel); (case zwc2 => exact rfl); (case zwc3 => exact rfl); (case zwc4 => exact rfl); k_whole; walk_at "pm2"; (try dsimp only); (try k_fold))))
      k_with "k_all" => (first | assumption | exact all_ne (by assumption) (by omega) | fail)
      k_with "call ref" => ((k_here; refine stop_intro ?_))
      k_with "k_all" => (first | assumption | (refine' List.forall_mem_cons.mpr ⟨?zwkza, ?zwkzb⟩; (case zwkza => (try dsimp only); first | assumption | exact ltN (by omega) | exact gtN (by omega) | fail); (case zwkzb => k_all)) | exact all_ne (by assumption) (by omega) | fail)
      k_with "loadName" => ((k_here; k_dflt (refine' ldn ?zwk1 ?zwk2 ?_; (case zwk1 => k_asm); (case zwk2 => (repeat (first | assumption | exact if_pos rfl | refine' (if_neg (by decide)).trans ?_))))))
      k_with "eval Name" => ((k_here; name_kind "local"; k_dflt (refine' ld ?zwk1 ?zwk2 ?_; (case zwk1 => k_asm); (case zwk2 => (repeat (first | assumption | exact if_pos rfl | refine' (if_neg (by decide)).trans ?_))); k_whole)))
      k_with "pyIter ref" => ((k_here; refine stop_intro ?_))
      k_with "exec For" => ((k_here; k_dflt (refine' for_ruleL ?zwhF ?zwhs ?_; (case zwhF => k_asm); (case zwhs => intro _; rfl))))
      k_with "exec For Name Name cons nil" => ((k_here; k_dflt (refine' for_ruleL ?zwhF ?zwhs ?_; (case zwhF => k_asm); (case zwhs => intro _; rfl))))
      k_with "exec For Name Subscript cons nil" => ((k_here; k_dflt (refine' for_ruleL ?zwhF ?zwhs ?_; (case zwhF => k_asm); (case zwhs => intro _; rfl))))
      k_with "exec For Name Call cons nil" => ((k_here; k_dflt (refine' for_ruleL ?zwhF ?zwhs ?_; (case zwhF => k_asm); (case zwhs => intro _; rfl))))
      k_with "exec For Tuple Name cons nil" => ((k_here; k_dflt (refine' for_ruleL ?zwhF ?zwhs ?_; (case zwhF => k_asm); (case zwhs => intro _; rfl))))
      k_with "exec For Tuple" => ((k_here; k_dflt (refine' for_ruleL ?zwhF ?zwhs ?_; (case zwhF => k_asm); (case zwhs => intro _; rfl))))
      k_with "call builtin:len" => ((k_here; (with_reducible show wpAny _ _ (call (Value.builtin _) [Value.ref _]) _ _ _); k_dflt (refine' len_at ?zwk1 ?zwk2 ?zwk3 ?_; (case zwk1 => k_asm); (case zwk2 => (repeat (first | assumption | exact List.Mem.head _ | apply List.Mem.tail))); (case zwk3 => omega); walk_at "pm3")))
      k_with "subscriptTail Name Name ref int" => ((k_here; (with_reducible show wpAny _ _ (subscriptTail _ _ (Value.ref _) (Value.int _ _)) _ _ _); k_dflt (refine' sub_at ?zwk1 ?zwk2 ?zwk3 ?zwk4 ?zwk5 ?_ ?zwk7; (case zwk1 => k_asm); (case zwk2 => (repeat (first | assumption | exact List.Mem.head _ | apply List.Mem.tail))); (case zwk3 => omega); (case zwk4 => omega); (case zwk5 => assumption); (case zwk7 => with_unfolding_all rfl); k_whole)))
      k_with "FnAt" => ((k_dflt (exact FnAt.of (by k_asm) (by first | assumption | k_mem))))
      k_with "callWith ref" => ((k_here; k_dflt (refine' callWith_F ?zwk1 ?_; (case zwk1 => exact FnAt.of (by k_asm) (by first | assumption | k_mem)); k_whole)))
      k_with "And" => (((with_reducible show FnAt _ _ ∧ _); k_dflt (refine ⟨FnAt.of (by k_asm) (by first | assumption | k_mem), ?_⟩); (try dsimp only [List.nil_append, List.cons_append])))
      k_with "exec Assign cons ListComp" => ((k_here; refine stop_intro ?_))
      k_with "eval Name" => ((k_here; name_kind "free"; k_dflt (refine' lcf_cell ?zwN ?zwc ?zwm ?zwd ?_ ?zwa ?zwb; (case zwa => rfl); (case zwb => rfl); (case zwN => k_asm); (case zwc => rfl); (case zwm => (repeat (first | assumption | apply List.Mem.tail))); (case zwd => assumption); k_whole)))
      k_with "eval Name" => ((k_here; name_kind "cell"; k_dflt (refine' nameX_C ?zwN ?zwc ?zwm ?zwd ?_ ?zwa ?zwb; (case zwa => rfl); (case zwb => rfl); (case zwN => k_asm); (case zwc => rfl); (case zwm => (repeat (first | assumption | exact List.Mem.head _ | apply List.Mem.tail))); (case zwd => assumption); k_whole)))
      k_with "k_all" => (first | assumption | exact all_ne (by assumption) (by omega) | fail)
      refine a2 (hm3) fun hm3a hm3b => ?_
      clear hm3
      have hpl := prs_len hll.2
      (try k_fold)
      k_steps
      all_goals (try first | exact Str.ofString "" | exact (0 : Nat) | exact Value.none)
      refine stop_elim ?_
      (try k_fold)
      rename_i Du gD lD gD2 tkD To gT0 lT gT FT NT
      have hbl : ls.length = ls.length := rfl
      refine' Call1.use (tree_call w ((To, W.listOf (List.toArray ([] : List Value)) 0) :: (Du, W.listOf (List.toArray ([] : List Value)) 0) :: Wl) lv T lvs ts ls (tiesOf ls) cl ct (ns.sum.fmod 8) _ (by assumption) hll (.tail _ (.tail _ hlvW)) (htsW.imp (IsTie.mono fun p hp => .tail _ (.tail _ hp))) (by rw [tieF_length]; exact hpl) (tree_turn hll hlf _) (tree_end hll hlf _)) ?k1_M6 ?k2_M6 ?k3_M6 ?k4_M6 ?k5_M6 ?kK_M6 ?kd_M6 ?ku_M6 ?_
      case k1_M6 => k_asm
      case k2_M6 => k_asm
      case k3_M6 => k_asm
      case k4_M6 =>
        refine news_pick NT ?_
        intro p hp
        rcases List.mem_cons.mp hp with rfl | hp
        · exact .tail _ (.tail _ hTW)
        · exact hp
      case k5_M6 => k_asm
      case kK_M6 => exact rfl
      case kd_M6 => ktr_room
      case ku_M6 => ktr_units
      intro v9 n9 gE tkE zr0 FE NE
      (try dsimp only)
      (try k_fold)
      obtain ⟨R, cR9, XR, rv, rfl, rfl, hrv, hXR⟩ := zr0
      have hTo : (To, W.listOf (List.toArray ([] : List Value)) 0) ∈ (R, W.listOf rv.toArray cR9) :: XR := .tail _ (hXR _ (.tail _ (.head _)))
      have hDu : (Du, W.listOf (List.toArray ([] : List Value)) 0) ∈ (R, W.listOf rv.toArray cR9) :: XR := .tail _ (hXR _ (.tail _ (.tail _ (.head _))))
      obtain ⟨YE, NY, hYo, hYi⟩ := news_sep2 NE hTo hDu (gtN lT.1)
      have hrl := hrv.len
      have hR1 : R ≠ To ∧ R ≠ Du := by
        rw [List.length_append, List.length_singleton] at hrl
        constructor
        · intro e
          subst e
          have e := news_uniq NE (.head _) hTo
          have e1 := (listOf_inj e).1
          rw [e1] at hrl; simp at hrl
        · intro e
          subst e
          have e := news_uniq NE (.head _) hDu
          have e1 := (listOf_inj e).1
          rw [e1] at hrl; simp at hrl
      have hRY := hYi _ (.head _) hR1.1 hR1.2
      have hrvY := (hrv.imp (PairAt.mono fun p hp => .tail _ hp)).imp (PairAt.sep NE hTo list_ne hDu list_ne hYi)
      have hW9 : ∀ p ∈ Wl, p ∈ YE := fun p hp => hYi p (.tail _ (hXR p (.tail _ (.tail _ (.tail _ hp))))) (ltN (allLt_at lT.2 p hp)) (ltN (lD p hp))
      have hlvY := hW9 _ hlvW
      have hcLY := hW9 _ hcLW
      have hcBY := hW9 _ hcBW
      have h122E := hW9 _ h122W
      have h144E := hW9 _ h144W
      obtain ⟨m4, FM, hm4⟩ : ∃ m4 : Str → Option Value, Fr (ghostOf s1.heap [(124, 122), (146, 144)]) s1.heap.objs.size gE m4 ∧ m4 (S' "due") = some (.ref Du) ∧ m4 (S' "told") = some (.ref To) ∧ ∃ t, m4 (S' "look") = some (.int (ns.sum.fmod 8) t) := ⟨_, FE, by (repeat (first | assumption | exact if_pos rfl | refine' (if_neg (by decide)).trans ?_)), by (repeat (first | assumption | exact if_pos rfl | refine' (if_neg (by decide)).trans ?_)), _, by (repeat (first | assumption | exact if_pos rfl | refine' (if_neg (by decide)).trans ?_))⟩
      have hitems : (pre ((List.foldl tstep (ts0 ls (ns.sum.fmod 8)) (tiesOf ls)).ts.getD 0 (Tr.leaf 0 0)) ++ [(0, 8)]) = pre (rootOf ls (ns.sum.fmod 8)) ++ [(0, 8)] := rfl
      rw [hitems] at hrvY
      obtain ⟨look, hlook⟩ : ∃ look, look = ns.sum.fmod 8 := ⟨_, rfl⟩
      rw [← hlook] at hrvY hm4
      have hTD : Du < To := lT.1
      clear hitems hlook hW9 hYi hrv hXR NE FE hTo hDu hTW htsW hlvW hcLW hcBW h122W h144W hm3a hm3b NT FT lT lD
      k_with_none
      w_top off
      k_with "storeName" => ((k_here; k_dflt (refine' storeX_Lf ?zweg ?zwed ?zweo ?zwet ?zwF ?zwN ?_ ?zwa ?zwb; (case zweg => dsimp only); (case zwed => dsimp only); (case zweo => dsimp only); (case zwet => dsimp only); (case zwF => k_asm); (case zwN => k_asm); (case zwa => rfl); (case zwb => rfl); k_whole; walk_at "pm0"; (try k_sweep))))
      k_with "tb_start" => (k_dflt (first
      | (refine' code_def ?zwk1 ?zwk2 ?zwk3 ?zwk4 ?zwk5 ?zwkA ?zwkF ?zwkK ?zwk6 ?zwk7 ?zwk8 ?zwk9 ?zwkB ?_ ?zwc2 ?zwc3 ?zwc4 ?zwc5; (case zwkA => exact rfl); (case zwkF => exact rfl); (case zwkK => first | assumption | exact rfl); (case zwk1 => k_asm); (case zwk2 => k_asm); (case zwk3 => k_asm); (case zwk4 => k_asm); (case zwk5 => k_asm); (case zwk6 => k_is); (case zwk7 => k_is); (case zwk8 => ktr_room); (case zwk9 => first | exact BindsTo.of_eq rfl | (refine' kp_binds ?zwkx ?zwke; (case zwkx => k_in); (case zwke => exact fun _ => rfl))); (case zwc5 => decide); (case zwkB => exact locs rfl); (case zwc2 => exact rfl); (case zwc3 => exact rfl); (case zwc4 => exact rfl); k_whole; walk_at "pm1"; (try dsimp only); (try k_fold))
      | (refine' code_defC ?zwk1 ?zwk2 ?zwk3 ?zwk4 ?zwk5 ?zwkA ?zwkF ?zwkK ?zwk6 ?zwk7 ?zwk8 ?zwk9 ?zwkB ?zwkD ?_ ?zwc2 ?zwc3 ?zwc4; (case zwkA => exact rfl); (case zwkF => exact rfl); (case zwkK => first | assumption | exact rfl); (case zwk1 => k_asm); (case zwk2 => k_asm); (case zwk3 => k_asm); (case zwk4 => k_asm); (case zwk5 => k_asm); (case zwk6 => k_is); (case zwk7 => k_is); (case zwk8 => ktr_room); (case zwk9 => first | exact BindsTo.of_eq rfl | (refine' kp_binds ?zwkx ?zwke; (case zwkx => k_in); (case zwke => exact fun _ => rfl))); (case zwkB => exact rfl); (case zwkD => decide +kernel); (case zwc2 => exact rfl); (case zwc3 => exact rfl); (case zwc4 => exact rfl); k_whole; walk_at "pm2"; (try dsimp only); (try k_fold))))
      k_with "k_all" => (first | assumption | exact all_ne (by assumption) (by omega) | fail)
      k_with "call ref" => ((k_here; refine stop_intro ?_))
      k_with "k_all" => (first | assumption | (refine' List.forall_mem_cons.mpr ⟨?zwkza, ?zwkzb⟩; (case zwkza => (try dsimp only); first | assumption | exact ltN (by omega) | exact gtN (by omega) | fail); (case zwkzb => k_all)) | exact all_ne (by assumption) (by omega) | fail)
      k_with "loadName" => ((k_here; k_dflt (refine' ldn ?zwk1 ?zwk2 ?_; (case zwk1 => k_asm); (case zwk2 => (repeat (first | assumption | exact if_pos rfl | refine' (if_neg (by decide)).trans ?_))))))
      k_with "eval Name" => ((k_here; name_kind "local"; k_dflt (refine' ld ?zwk1 ?zwk2 ?_; (case zwk1 => k_asm); (case zwk2 => (repeat (first | assumption | exact if_pos rfl | refine' (if_neg (by decide)).trans ?_))); k_whole)))
      k_with "pyIter ref" => ((k_here; refine stop_intro ?_))
      k_with "exec For" => ((k_here; k_dflt (refine' for_ruleL ?zwhF ?zwhs ?_; (case zwhF => k_asm); (case zwhs => intro _; rfl))))
      k_with "exec For Name Name cons nil" => ((k_here; k_dflt (refine' for_ruleL ?zwhF ?zwhs ?_; (case zwhF => k_asm); (case zwhs => intro _; rfl))))
      k_with "exec For Name Subscript cons nil" => ((k_here; k_dflt (refine' for_ruleL ?zwhF ?zwhs ?_; (case zwhF => k_asm); (case zwhs => intro _; rfl))))
      k_with "exec For Name Call cons nil" => ((k_here; k_dflt (refine' for_ruleL ?zwhF ?zwhs ?_; (case zwhF => k_asm); (case zwhs => intro _; rfl))))
      k_with "exec For Tuple Name cons nil" => ((k_here; k_dflt (refine' for_ruleL ?zwhF ?zwhs ?_; (case zwhF => k_asm); (case zwhs => intro _; rfl))))
      k_with "exec For Tuple" => ((k_here; k_dflt (refine' for_ruleL ?zwhF ?zwhs ?_; (case zwhF => k_asm); (case zwhs => intro _; rfl))))
      k_with "call builtin:len" => ((k_here; (with_reducible show wpAny _ _ (call (Value.builtin _) [Value.ref _]) _ _ _); k_dflt (refine' len_at ?zwk1 ?zwk2 ?zwk3 ?_; (case zwk1 => k_asm); (case zwk2 => (repeat (first | assumption | exact List.Mem.head _ | apply List.Mem.tail))); (case zwk3 => omega); walk_at "pm3")))
      k_with "subscriptTail Name Name ref int" => ((k_here; (with_reducible show wpAny _ _ (subscriptTail _ _ (Value.ref _) (Value.int _ _)) _ _ _); k_dflt (refine' sub_at ?zwk1 ?zwk2 ?zwk3 ?zwk4 ?zwk5 ?_ ?zwk7; (case zwk1 => k_asm); (case zwk2 => (repeat (first | assumption | exact List.Mem.head _ | apply List.Mem.tail))); (case zwk3 => omega); (case zwk4 => omega); (case zwk5 => assumption); (case zwk7 => with_unfolding_all rfl); k_whole)))
      k_with "FnAt" => ((k_dflt (exact FnAt.of (by k_asm) (by first | assumption | k_mem))))
      k_with "callWith ref" => ((k_here; k_dflt (refine' callWith_F ?zwk1 ?_; (case zwk1 => exact FnAt.of (by k_asm) (by first | assumption | k_mem)); k_whole)))
      k_with "And" => (((with_reducible show FnAt _ _ ∧ _); k_dflt (refine ⟨FnAt.of (by k_asm) (by first | assumption | k_mem), ?_⟩); (try dsimp only [List.nil_append, List.cons_append])))
      k_with "exec Assign cons ListComp" => ((k_here; refine stop_intro ?_))
      k_with "eval Name" => ((k_here; name_kind "free"; k_dflt (refine' lcf_cell ?zwN ?zwc ?zwm ?zwd ?_ ?zwa ?zwb; (case zwa => rfl); (case zwb => rfl); (case zwN => k_asm); (case zwc => rfl); (case zwm => (repeat (first | assumption | apply List.Mem.tail))); (case zwd => assumption); k_whole)))
      k_with "eval Name" => ((k_here; name_kind "cell"; k_dflt (refine' nameX_C ?zwN ?zwc ?zwm ?zwd ?_ ?zwa ?zwb; (case zwa => rfl); (case zwb => rfl); (case zwN => k_asm); (case zwc => rfl); (case zwm => (repeat (first | assumption | exact List.Mem.head _ | apply List.Mem.tail))); (case zwd => assumption); k_whole)))
      k_with "k_all" => (first | assumption | exact all_ne (by assumption) (by omega) | fail)
      have hrok := root_ok hll hlf look
      have hrbd := root_bd hll hlf look
      have hrln := root_len hll hlf look
      obtain ⟨items, hit⟩ : ∃ items, items = pre (rootOf ls look) ++ [(0, 8)] := ⟨_, rfl⟩
      rw [← hit] at hrvY
      have hil2 : items.length ≤ 31 := by rw [hit, List.length_append, List.length_singleton]; omega
      have hib : ∀ x ∈ items, (0 ≤ x.1 ∧ x.1 ≤ 511) ∧ 1 ≤ x.2 ∧ x.2 ≤ 8 := by
        rw [hit]
        intro x hx
        rcases List.mem_append.mp hx with hx | hx
        · have := hrbd x hx; omega
        · rw [List.mem_singleton.mp hx]; decide
      have hrl := hrvY.len
      (try k_fold)
      k_steps
      all_goals (try first | exact Str.ofString "" | exact (0 : Nat) | exact Value.none)
      (first | refine stop_elim ?_ | (rotate_left 1; refine stop_elim ?_) | (rotate_left 2; refine stop_elim ?_) | (rotate_left 3; refine stop_elim ?_) | (rotate_left 4; refine stop_elim ?_) | (rotate_left 5; refine stop_elim ?_) | (rotate_left 6; refine stop_elim ?_) | (rotate_left 7; refine stop_elim ?_) | (rotate_left 8; refine stop_elim ?_) | (rotate_left 9; refine stop_elim ?_) | (rotate_left 10; refine stop_elim ?_) | (rotate_left 11; refine stop_elim ?_) | (rotate_left 12; refine stop_elim ?_) | (rotate_left 13; refine stop_elim ?_) | (rotate_left 14; refine stop_elim ?_) | (rotate_left 15; refine stop_elim ?_) | (rotate_left 16; refine stop_elim ?_) | (rotate_left 17; refine stop_elim ?_) | (rotate_left 18; refine stop_elim ?_) | (rotate_left 19; refine stop_elim ?_) )
      (try k_fold)
      refine' srcF_list rfl ?F_M7 ?N_M7 ?m_M7 ?_
      case F_M7 => k_asm
      case N_M7 => k_asm
      case m_M7 => exact (.tail _ (.tail _ hRY))
      intro it9 s9 S9
      refine e1a1 (SrcF.same S9) fun g9 e9 => ?_
      subst e9
      refine LoopOK.put (TolJ look Du To lv YE items) S9 ?ja_M7 ?jb_M7 ?jc_M7 ?jd_M7
      case ja_M7 =>
        obtain ⟨hm4a, hm4b, tl9, hm4c⟩ := hm4
        exact ⟨[], [], 0, 0, YE, tl9, rfl, .nil, .nil, fun p hp => hp, hYo, hm4a, hm4b, hm4c⟩
      case jb_M7 =>
        intro i m nw zr0
        obtain ⟨dv, tv, cd, ct9, X9, t9, rfl, _, _, hs9, _⟩ := zr0
        exact .tail _ (.tail _ (hs9 _ hRY))
      case jc_M7 =>
        intro i v m5 nw I oI h tk E' hi9 hv zr0 off hltI F9 N9
        (try (refine absL ?_; intro QL9))
        (try dsimp only)
        (try k_fold)
        refine e6a8 (zr0) fun dv tv cd ct9 X9 tl9 ze0 hdv htv hs9 ho9 hm5a hm5b hm5c => ?_
        clear zr0
        subst ze0
        k_with_none
        w_top off
        k_with "storeName" => ((k_here; k_dflt (refine' storeX_Lf ?zweg ?zwed ?zweo ?zwet ?zwF ?zwN ?_ ?zwa ?zwb; (case zweg => dsimp only); (case zwed => dsimp only); (case zweo => dsimp only); (case zwet => dsimp only); (case zwF => k_asm); (case zwN => k_asm); (case zwa => rfl); (case zwb => rfl); k_whole; walk_at "pm0"; (try k_sweep))))
        k_with "tb_start" => (k_dflt (first
        | (refine' code_def ?zwk1 ?zwk2 ?zwk3 ?zwk4 ?zwk5 ?zwkA ?zwkF ?zwkK ?zwk6 ?zwk7 ?zwk8 ?zwk9 ?zwkB ?_ ?zwc2 ?zwc3 ?zwc4 ?zwc5; (case zwkA => exact rfl); (case zwkF => exact rfl); (case zwkK => first | assumption | exact rfl); (case zwk1 => k_asm); (case zwk2 => k_asm); (case zwk3 => k_asm); (case zwk4 => k_asm); (case zwk5 => k_asm); (case zwk6 => k_is); (case zwk7 => k_is); (case zwk8 => ktr_room); (case zwk9 => first | exact BindsTo.of_eq rfl | (refine' kp_binds ?zwkx ?zwke; (case zwkx => k_in); (case zwke => exact fun _ => rfl))); (case zwc5 => decide); (case zwkB => exact locs rfl); (case zwc2 => exact rfl); (case zwc3 => exact rfl); (case zwc4 => exact rfl); k_whole; walk_at "pm1"; (try dsimp only); (try k_fold))
        | (refine' code_defC ?zwk1 ?zwk2 ?zwk3 ?zwk4 ?zwk5 ?zwkA ?zwkF ?zwkK ?zwk6 ?zwk7 ?zwk8 ?zwk9 ?zwkB ?zwkD ?_ ?zwc2 ?zwc3 ?zwc4; (case zwkA => exact rfl); (case zwkF => exact rfl); (case zwkK => first | assumption | exact rfl); (case zwk1 => k_asm); (case zwk2 => k_asm); (case zwk3 => k_asm); (case zwk4 => k_asm); (case zwk5 => k_asm); (case zwk6 => k_is); (case zwk7 => k_is); (case zwk8 => ktr_room); (case zwk9 => first | exact BindsTo.of_eq rfl | (refine' kp_binds ?zwkx ?zwke; (case zwkx => k_in); (case zwke => exact fun _ => rfl))); (case zwkB => exact rfl); (case zwkD => decide +kernel); (case zwc2 => exact rfl); (case zwc3 => exact rfl); (case zwc4 => exact rfl); k_whole; walk_at "pm2"; (try dsimp only); (try k_fold))))
        k_with "k_all" => (first | assumption | exact all_ne (by assumption) (by omega) | fail)
        k_with "call ref" => ((k_here; refine stop_intro ?_))
        k_with "k_all" => (first | assumption | (refine' List.forall_mem_cons.mpr ⟨?zwkza, ?zwkzb⟩; (case zwkza => (try dsimp only); first | assumption | exact ltN (by omega) | exact gtN (by omega) | fail); (case zwkzb => k_all)) | exact all_ne (by assumption) (by omega) | fail)
        k_with "loadName" => ((k_here; k_dflt (refine' ldn ?zwk1 ?zwk2 ?_; (case zwk1 => k_asm); (case zwk2 => (repeat (first | assumption | exact if_pos rfl | refine' (if_neg (by decide)).trans ?_))))))
        k_with "eval Name" => ((k_here; name_kind "local"; k_dflt (refine' ld ?zwk1 ?zwk2 ?_; (case zwk1 => k_asm); (case zwk2 => (repeat (first | assumption | exact if_pos rfl | refine' (if_neg (by decide)).trans ?_))); k_whole)))
        k_with "pyIter ref" => ((k_here; refine stop_intro ?_))
        k_with "exec For" => ((k_here; k_dflt (refine' for_ruleL ?zwhF ?zwhs ?_; (case zwhF => k_asm); (case zwhs => intro _; rfl))))
        k_with "exec For Name Name cons nil" => ((k_here; k_dflt (refine' for_ruleL ?zwhF ?zwhs ?_; (case zwhF => k_asm); (case zwhs => intro _; rfl))))
        k_with "exec For Name Subscript cons nil" => ((k_here; k_dflt (refine' for_ruleL ?zwhF ?zwhs ?_; (case zwhF => k_asm); (case zwhs => intro _; rfl))))
        k_with "exec For Name Call cons nil" => ((k_here; k_dflt (refine' for_ruleL ?zwhF ?zwhs ?_; (case zwhF => k_asm); (case zwhs => intro _; rfl))))
        k_with "exec For Tuple Name cons nil" => ((k_here; k_dflt (refine' for_ruleL ?zwhF ?zwhs ?_; (case zwhF => k_asm); (case zwhs => intro _; rfl))))
        k_with "exec For Tuple" => ((k_here; k_dflt (refine' for_ruleL ?zwhF ?zwhs ?_; (case zwhF => k_asm); (case zwhs => intro _; rfl))))
        k_with "call builtin:len" => ((k_here; (with_reducible show wpAny _ _ (call (Value.builtin _) [Value.ref _]) _ _ _); k_dflt (refine' len_at ?zwk1 ?zwk2 ?zwk3 ?_; (case zwk1 => k_asm); (case zwk2 => (repeat (first | assumption | exact List.Mem.head _ | apply List.Mem.tail))); (case zwk3 => omega); walk_at "pm3")))
        k_with "subscriptTail Name Name ref int" => ((k_here; (with_reducible show wpAny _ _ (subscriptTail _ _ (Value.ref _) (Value.int _ _)) _ _ _); k_dflt (refine' sub_at ?zwk1 ?zwk2 ?zwk3 ?zwk4 ?zwk5 ?_ ?zwk7; (case zwk1 => k_asm); (case zwk2 => (repeat (first | assumption | exact List.Mem.head _ | apply List.Mem.tail))); (case zwk3 => omega); (case zwk4 => omega); (case zwk5 => assumption); (case zwk7 => with_unfolding_all rfl); k_whole)))
        k_with "FnAt" => ((k_dflt (exact FnAt.of (by k_asm) (by first | assumption | k_mem))))
        k_with "callWith ref" => ((k_here; k_dflt (refine' callWith_F ?zwk1 ?_; (case zwk1 => exact FnAt.of (by k_asm) (by first | assumption | k_mem)); k_whole)))
        k_with "And" => (((with_reducible show FnAt _ _ ∧ _); k_dflt (refine ⟨FnAt.of (by k_asm) (by first | assumption | k_mem), ?_⟩); (try dsimp only [List.nil_append, List.cons_append])))
        k_with "exec Assign cons ListComp" => ((k_here; refine stop_intro ?_))
        k_with "eval Name" => ((k_here; name_kind "free"; k_dflt (refine' lcf_cell ?zwN ?zwc ?zwm ?zwd ?_ ?zwa ?zwb; (case zwa => rfl); (case zwb => rfl); (case zwN => k_asm); (case zwc => rfl); (case zwm => (repeat (first | assumption | apply List.Mem.tail))); (case zwd => assumption); k_whole)))
        k_with "eval Name" => ((k_here; name_kind "cell"; k_dflt (refine' nameX_C ?zwN ?zwc ?zwm ?zwd ?_ ?zwa ?zwb; (case zwa => rfl); (case zwb => rfl); (case zwN => k_asm); (case zwc => rfl); (case zwm => (repeat (first | assumption | exact List.Mem.head _ | apply List.Mem.tail))); (case zwd => assumption); k_whole)))
        k_with "execs cons" => ((k_here; first | (with_reducible refine gen_toks1 ?_; walk_at "pm11") | (with_reducible refine gen_toks2 ?zwhn ?_; (case zwhn => exact Nat.succ_ne_zero _); walk_at "pm11")))
        k_with "call ref" => ((k_here; (with_reducible show wpAny _ _ (call (Value.ref 64) [Value.float _ _, Value.float _ _, Value.float _ _]) _ _ _); k_dflt (refine' Call1.use (hsvQ_call _ _ _ _ _ _ _ _ _ _ _ ?zwz3 ?zwhh ?zwhs ?zwhv ?zwhn ?zwh1 ?zwh2) ?zwk1 ?zwk2 ?zwk3 ?zwk4 ?zwk5 ?zwkK ?zwkd ?zwku ?_; (case zwk1 => k_asm); (case zwk2 => k_asm); (case zwk3 => k_asm); (case zwk4 => k_asm); (case zwk5 => k_asm); (case zwkK => first | exact rfl | assumption); (case zwz3 => first | assumption | exact Nat.succ_ne_zero _); (case zwhh => assumption); (case zwhs => assumption); (case zwhv => assumption); (case zwhn => assumption); (case zwh1 => assumption); (case zwh2 => assumption); (case zwkd => ktr_room); (case zwku => ktr_units); walk_at "pm12"; (try dsimp only); (try k_fold))))
        k_with "call ref" => ((k_here; (with_reducible show wpAny _ _ (call (Value.ref 57) [Value.float _ _, Value.float _ _, Value.float _ _]) _ _ _); k_dflt (refine' Call1.use (rgbQ_call _ _ _ _ _ _ _ _ _ _ _ ?zwz1 ?zwz2 ?zwz3 ?zwhr ?zwhg ?zwhb ?zwhn ?zwh1 ?zwh2) ?zwk1 ?zwk2 ?zwk3 ?zwk4 ?zwk5 ?zwkK ?zwkd ?zwku ?_; (case zwk1 => k_asm); (case zwk2 => k_asm); (case zwk3 => k_asm); (case zwk4 => k_asm); (case zwk5 => k_asm); (case zwkK => first | exact rfl | assumption); (case zwz1 => first | assumption | exact Nat.succ_ne_zero _); (case zwz2 => first | assumption | exact Nat.succ_ne_zero _); (case zwz3 => first | assumption | exact Nat.succ_ne_zero _); (case zwhr => assumption); (case zwhg => assumption); (case zwhb => assumption); (case zwhn => assumption); (case zwh1 => assumption); (case zwh2 => assumption); (case zwkd => ktr_room); (case zwku => ktr_units); walk_at "pm12"; (try dsimp only); (try k_fold))))
        k_with "k_all" => (first | assumption | exact all_ne (by assumption) (by omega) | fail)
        refine e1a2 (hrvY.get (arr_at hv)) fun x hx zt0 => ?_
        refine e4a2 (zt0) fun B kk u1 u2 ze1 hB => ?_
        clear zt0
        subst ze1
        obtain ⟨sy, lv8⟩ := x
        have hxb := hib _ (List.mem_of_getElem? hx)
        dsimp only at hxb hB
        have hBX := hs9 _ hB
        have N9' : News (ghostOf s1.heap [(124, 122), (146, 144)]) s1.heap.objs.size h ((I, oI) :: (B, ({ cls := .type "tuple", data := .seq #[.int sy u1, .int lv8 u2] kk } : Obj)) :: (To, W.listOf (List.toArray tv) ct9) :: (Du, W.listOf (List.toArray dv) cd) :: X9) := news_pick N9 (by
          intro p hp
          simp only [List.mem_cons] at hp ⊢
          rcases hp with rfl | rfl | rfl | rfl | hp
          · exact .inl rfl
          · exact .inr (.inr (.inr hBX))
          · exact .inr (.inl rfl)
          · exact .inr (.inr (.inl rfl))
          · exact .inr (.inr (.inr hp)))
        clear N9
        have hshr : 1 + (sy + look).fmod 4 = shr look sy := by unfold shr; rw [Int.fmod_eq_emod_of_nonneg _ (by decide)]
        have hsb := shr_bd look sy
        rw [← hshr] at hsb
        have qh := fq_d512 (a := sy) (by omega)
        have qs := fq_d4s (a := 1 + (sy + look).fmod 4) (by omega)
        have qv := fq_d8 (a := lv8) (by omega)
        have hnb : 0 ≤ sy ∧ sy < 1024 := by omega
        have hvb : 1 ≤ lv8 ∧ lv8 ≤ 8 := hxb.2
        have offI : ∀ p ∈ X9, p.1 ≠ I := fun p hp => off p (.tail _ (.tail _ hp))
        have hdl := hdv.len
        have htl := htv.len
        rw [List.length_take] at hdl htl
        have hdl31 : dv.length ≤ 31 := by omega
        have htl31 : tv.length ≤ 31 := by omega
        have hTD9 : @LT.lt Nat instLTNat Du To := hTD
        have hlI := hltI
        k_lt hlI
        have offA : ∀ p ∈ X9, p.1 ≠ Du := fun p hp => (ho9 p hp).1
        have offB : ∀ p ∈ X9, p.1 ≠ To := fun p hp => (ho9 p hp).2
        have hBd : B ≠ Du := (ho9 _ hBX).1
        have hBt : B ≠ To := (ho9 _ hBX).2
        (try k_fold)
        k_steps
        all_goals (try first | exact Str.ofString "" | exact (0 : Nat) | exact Value.none)
        rw [hshr] at *
        have lI9 : To < I ∧ Du < I := ⟨hlI.1, hlI.2.1⟩
        refine tol_end (by k_asm) (by k_asm) hdv htv hx hs9 ho9 offI qh qs qv (by assumption) (by omega) (by assumption) (by assumption) (by first | assumption | exact Nat.succ_ne_zero _) (by first | assumption | exact Nat.succ_ne_zero _) (by first | assumption | exact Nat.succ_ne_zero _) (by first | assumption | exact Nat.succ_ne_zero _) (by first | assumption | exact Nat.succ_ne_zero _) (by first | assumption | exact Nat.succ_ne_zero _) lI9.1 lI9.2 (ltI9 (by omega)) (ltI9 (by omega)) (by (repeat (first | assumption | exact if_pos rfl | refine' (if_neg (by decide)).trans ?_))) (by (repeat (first | assumption | exact if_pos rfl | refine' (if_neg (by decide)).trans ?_))) (by (repeat (first | assumption | exact if_pos rfl | refine' (if_neg (by decide)).trans ?_)))
      case jd_M7 =>
        intro h tk m5 nw zr0 F9 N9
        (try dsimp only)
        (try k_fold)
        refine e6a8 (zr0) fun dv tv cd ct9 X9 tl9 ze0 hdv htv hs9 ho9 hm5a hm5b hm5c => ?_
        clear zr0
        subst ze0
        k_with_none
        w_top off
        k_with "storeName" => ((k_here; k_dflt (refine' storeX_Lf ?zweg ?zwed ?zweo ?zwet ?zwF ?zwN ?_ ?zwa ?zwb; (case zweg => dsimp only); (case zwed => dsimp only); (case zweo => dsimp only); (case zwet => dsimp only); (case zwF => k_asm); (case zwN => k_asm); (case zwa => rfl); (case zwb => rfl); k_whole; walk_at "pm0"; (try k_sweep))))
        k_with "tb_start" => (k_dflt (first
        | (refine' code_def ?zwk1 ?zwk2 ?zwk3 ?zwk4 ?zwk5 ?zwkA ?zwkF ?zwkK ?zwk6 ?zwk7 ?zwk8 ?zwk9 ?zwkB ?_ ?zwc2 ?zwc3 ?zwc4 ?zwc5; (case zwkA => exact rfl); (case zwkF => exact rfl); (case zwkK => first | assumption | exact rfl); (case zwk1 => k_asm); (case zwk2 => k_asm); (case zwk3 => k_asm); (case zwk4 => k_asm); (case zwk5 => k_asm); (case zwk6 => k_is); (case zwk7 => k_is); (case zwk8 => ktr_room); (case zwk9 => first | exact BindsTo.of_eq rfl | (refine' kp_binds ?zwkx ?zwke; (case zwkx => k_in); (case zwke => exact fun _ => rfl))); (case zwc5 => decide); (case zwkB => exact locs rfl); (case zwc2 => exact rfl); (case zwc3 => exact rfl); (case zwc4 => exact rfl); k_whole; walk_at "pm1"; (try dsimp only); (try k_fold))
        | (refine' code_defC ?zwk1 ?zwk2 ?zwk3 ?zwk4 ?zwk5 ?zwkA ?zwkF ?zwkK ?zwk6 ?zwk7 ?zwk8 ?zwk9 ?zwkB ?zwkD ?_ ?zwc2 ?zwc3 ?zwc4; (case zwkA => exact rfl); (case zwkF => exact rfl); (case zwkK => first | assumption | exact rfl); (case zwk1 => k_asm); (case zwk2 => k_asm); (case zwk3 => k_asm); (case zwk4 => k_asm); (case zwk5 => k_asm); (case zwk6 => k_is); (case zwk7 => k_is); (case zwk8 => ktr_room); (case zwk9 => first | exact BindsTo.of_eq rfl | (refine' kp_binds ?zwkx ?zwke; (case zwkx => k_in); (case zwke => exact fun _ => rfl))); (case zwkB => exact rfl); (case zwkD => decide +kernel); (case zwc2 => exact rfl); (case zwc3 => exact rfl); (case zwc4 => exact rfl); k_whole; walk_at "pm2"; (try dsimp only); (try k_fold))))
        k_with "k_all" => (first | assumption | exact all_ne (by assumption) (by omega) | fail)
        k_with "call ref" => ((k_here; refine stop_intro ?_))
        k_with "k_all" => (first | assumption | (refine' List.forall_mem_cons.mpr ⟨?zwkza, ?zwkzb⟩; (case zwkza => (try dsimp only); first | assumption | exact ltN (by omega) | exact gtN (by omega) | fail); (case zwkzb => k_all)) | exact all_ne (by assumption) (by omega) | fail)
        k_with "loadName" => ((k_here; k_dflt (refine' ldn ?zwk1 ?zwk2 ?_; (case zwk1 => k_asm); (case zwk2 => (repeat (first | assumption | exact if_pos rfl | refine' (if_neg (by decide)).trans ?_))))))
        k_with "eval Name" => ((k_here; name_kind "local"; k_dflt (refine' ld ?zwk1 ?zwk2 ?_; (case zwk1 => k_asm); (case zwk2 => (repeat (first | assumption | exact if_pos rfl | refine' (if_neg (by decide)).trans ?_))); k_whole)))
        k_with "pyIter ref" => ((k_here; refine stop_intro ?_))
        k_with "exec For" => ((k_here; k_dflt (refine' for_ruleL ?zwhF ?zwhs ?_; (case zwhF => k_asm); (case zwhs => intro _; rfl))))
        k_with "exec For Name Name cons nil" => ((k_here; k_dflt (refine' for_ruleL ?zwhF ?zwhs ?_; (case zwhF => k_asm); (case zwhs => intro _; rfl))))
        k_with "exec For Name Subscript cons nil" => ((k_here; k_dflt (refine' for_ruleL ?zwhF ?zwhs ?_; (case zwhF => k_asm); (case zwhs => intro _; rfl))))
        k_with "exec For Name Call cons nil" => ((k_here; k_dflt (refine' for_ruleL ?zwhF ?zwhs ?_; (case zwhF => k_asm); (case zwhs => intro _; rfl))))
        k_with "exec For Tuple Name cons nil" => ((k_here; k_dflt (refine' for_ruleL ?zwhF ?zwhs ?_; (case zwhF => k_asm); (case zwhs => intro _; rfl))))
        k_with "exec For Tuple" => ((k_here; k_dflt (refine' for_ruleL ?zwhF ?zwhs ?_; (case zwhF => k_asm); (case zwhs => intro _; rfl))))
        k_with "call builtin:len" => ((k_here; (with_reducible show wpAny _ _ (call (Value.builtin _) [Value.ref _]) _ _ _); k_dflt (refine' len_at ?zwk1 ?zwk2 ?zwk3 ?_; (case zwk1 => k_asm); (case zwk2 => (repeat (first | assumption | exact List.Mem.head _ | apply List.Mem.tail))); (case zwk3 => omega); walk_at "pm3")))
        k_with "subscriptTail Name Name ref int" => ((k_here; (with_reducible show wpAny _ _ (subscriptTail _ _ (Value.ref _) (Value.int _ _)) _ _ _); k_dflt (refine' sub_at ?zwk1 ?zwk2 ?zwk3 ?zwk4 ?zwk5 ?_ ?zwk7; (case zwk1 => k_asm); (case zwk2 => (repeat (first | assumption | exact List.Mem.head _ | apply List.Mem.tail))); (case zwk3 => omega); (case zwk4 => omega); (case zwk5 => assumption); (case zwk7 => with_unfolding_all rfl); k_whole)))
        k_with "FnAt" => ((k_dflt (exact FnAt.of (by k_asm) (by first | assumption | k_mem))))
        k_with "callWith ref" => ((k_here; k_dflt (refine' callWith_F ?zwk1 ?_; (case zwk1 => exact FnAt.of (by k_asm) (by first | assumption | k_mem)); k_whole)))
        k_with "And" => (((with_reducible show FnAt _ _ ∧ _); k_dflt (refine ⟨FnAt.of (by k_asm) (by first | assumption | k_mem), ?_⟩); (try dsimp only [List.nil_append, List.cons_append])))
        k_with "exec Assign cons ListComp" => ((k_here; refine stop_intro ?_))
        k_with "eval Name" => ((k_here; name_kind "free"; k_dflt (refine' lcf_cell ?zwN ?zwc ?zwm ?zwd ?_ ?zwa ?zwb; (case zwa => rfl); (case zwb => rfl); (case zwN => k_asm); (case zwc => rfl); (case zwm => (repeat (first | assumption | apply List.Mem.tail))); (case zwd => assumption); k_whole)))
        k_with "eval Name" => ((k_here; name_kind "cell"; k_dflt (refine' nameX_C ?zwN ?zwc ?zwm ?zwd ?_ ?zwa ?zwb; (case zwa => rfl); (case zwb => rfl); (case zwN => k_asm); (case zwc => rfl); (case zwm => (repeat (first | assumption | exact List.Mem.head _ | apply List.Mem.tail))); (case zwd => assumption); k_whole)))
        k_with "compareOp NotEq ref ref" => ((k_here; refine stop_intro ?_))
        k_with "k_all" => (first | assumption | exact all_ne (by assumption) (by omega) | fail)
        rw [List.size_toArray, hrl, List.take_length] at hdv htv
        have hdl := hdv.len
        have htl := htv.len
        (try k_fold)
        k_steps
        all_goals (try first | exact Str.ofString "" | exact (0 : Nat) | exact Value.none)
        refine stop_elim ?_
        (try k_fold)
        refine ne_lists (list_is (k := ct9) N9 (.head _)) (list_is (k := cd) N9 (.tail _ (.head _))) (by ktr_units) (cols_eq (look := look) ?nb_M9 N9 (by ktr_units) (htv.imp (ColX.mono fun p hp => .tail _ (.tail _ hp))) (hdv.imp (ColX.mono fun p hp => .tail _ (.tail _ hp)))) ?_
        case nb_M9 => exact NoneBooked.keeps (booked_of (by assumption) (Top.nolimit (by assumption)) (by k_is)) (Fr.keep (by k_asm))
        (try k_fold)
        k_steps
        all_goals (try first | exact Str.ofString "" | exact (0 : Nat) | exact Value.none)
        refine stop_elim ?_
        (try k_fold)
        have hcolT : Are (ColAt ((Du, W.listOf (List.toArray dv) cd) :: X9)) tv items := (htv.imp ColX.at_).imp (ColAt.mono fun p hp => .tail _ hp)
        refine' Call1.use (read_call w ((Du, W.listOf (List.toArray dv) cd) :: X9) To tv ct9 items (rootOf ls look) hcolT hit hrok (by omega)) ?k1_M9 ?k2_M9 ?k3_M9 ?k4_M9 ?k5_M9 ?kK_M9 ?kd_M9 ?ku_M9 ?_
        case k1_M9 => k_asm
        case k2_M9 => k_asm
        case k3_M9 => k_asm
        case k4_M9 => exact N9
        case k5_M9 => k_asm
        case kK_M9 => exact rfl
        case kd_M9 => ktr_room
        case ku_M9 => ktr_units
        intro v9 n9 gE tkE zr0 FE NE
        (try dsimp only)
        (try k_fold)
        obtain ⟨Ar, kr, tr, Fd, fv, cF, XR2, rfl, rfl, hfv, hXR2⟩ := zr0
        have NE' : News (ghostOf s1.heap [(124, 122), (146, 144)]) s1.heap.objs.size gE ((Ar, ({ cls := .type "tuple", data := .seq #[.ref Fd, .int 0 tr] kr } : Obj)) :: (Fd, W.listOf (List.toArray fv) cF) :: XR2) := NE
        clear NE
        have hYX2 : ∀ p ∈ YE, p ∈ XR2 := fun p hp => hXR2 _ (.tail _ (.tail _ (hs9 p hp)))
        have hlv2 := hYX2 _ hlvY
        have hcL2 := hYX2 _ hcLY
        have hcB2 := hYX2 _ hcBY
        have h122X := hYX2 _ h122E
        have h144X := hYX2 _ h144E
        (try k_fold)
        k_steps
        all_goals (try first | exact Str.ofString "" | exact (0 : Nat) | exact Value.none)
        refine stop_elim ?_
        (try k_fold)
        rename_i Kp gK lK gK2 FK NK
        refine e1a1 ((⟨_, rfl⟩ : ∃ YB, YB = (Ar, ({ cls := .type "tuple", data := .seq #[.ref Fd, .int 0 tr] kr } : Obj)) :: (Fd, W.listOf (List.toArray fv) cF) :: XR2)) fun YB hYB => ?_
        rw [← hYB] at NK
        have hFdB : (Fd, W.listOf (List.toArray fv) cF) ∈ YB := by rw [hYB]; exact .tail _ (.head _)
        have hXB : ∀ p ∈ XR2, p ∈ YB := fun p hp => by rw [hYB]; exact .tail _ (.tail _ hp)
        have hBK : ∀ p ∈ YB, p.1 < Kp := by
          rw [hYB]
          intro p hp
          rcases List.mem_cons.mp hp with rfl | hp
          · exact lK.1
          rcases List.mem_cons.mp hp with rfl | hp
          · exact lK.2.1
          · exact allLt_at lK.2.2 p hp
        have hlvB := hXB _ hlv2
        have hcLB := hXB _ hcL2
        have hcBB := hXB _ hcB2
        have h122B := hXB _ h122X
        have h144B := hXB _ h144X
        have hfvB := hfv.imp (FndAt.mono hXB)
        refine' srcF_list (ax := lv) (its := lvs.toArray) (k := cl) (news := (Kp, W.listOf (List.toArray ([] : List Value)) 0) :: YB) rfl FK NK (.tail _ hlvB) ?_
        intro it9 s9 S9
        obtain ⟨g9, e9⟩ := SrcF.same S9
        subst e9
        refine LoopOK.put (KepJ Kp Fd YB ls) S9 ?ja_M9 ?jb_M9 ?jc_M9 ?jd_M9
        case ja_M9 => exact ⟨[], 0, tr, rfl, .nil, by (repeat (first | assumption | exact if_pos rfl | refine' (if_neg (by decide)).trans ?_)), by (repeat (first | assumption | exact if_pos rfl | refine' (if_neg (by decide)).trans ?_)), by (repeat (first | assumption | exact if_pos rfl | refine' (if_neg (by decide)).trans ?_))⟩
        case jb_M9 =>
          intro i m nw zr0
          obtain ⟨kv, ck, t9, rfl, _⟩ := zr0
          exact .tail _ hlvB
        case jc_M9 =>
          intro i v m5 nw I oI h tk E' hi9 hv zr0 off hltI F9 N9
          (try (refine absL ?_; intro QL9))
          (try dsimp only)
          (try k_fold)
          refine e3a5 (zr0) fun kv ck t9 ze0 hik hk1 hk2 hk3 => ?_
          clear zr0
          subst ze0
          refine e1a2 ((Are.of_ints (by assumption : IntsAre lvs ls)).get (arr_at hv)) fun x hx zt0 => ?_
          refine e1a1 (zt0) fun tx ze1 => ?_
          clear zt0
          subst ze1
          have hks := kept_srt (ls.take i)
          have hkl := kept_len (ls.take i)
          rw [List.length_take] at hkl
          have hoB : ∀ p ∈ YB, p.1 ≠ Kp := fun p hp => ltN (hBK p hp)
          have hoI : Kp ≠ I := off _ (.head _)
          have hoI2 : ∀ o : Obj, ∀ p ∈ (Kp, o) :: YB, p.1 ≠ I := fun o p hp => by
            rcases List.mem_cons.mp hp with rfl | hp
            · exact hoI
            · exact off p (.tail _ hp)
          have hlI := hltI
          k_lt hlI
          (try k_fold)
          k_steps
          all_goals (try first | exact Str.ofString "" | exact (0 : Nat) | exact Value.none)
          refine stop_elim ?_
          (try k_fold)
          refine' Call1.use (insL_at w _ ((I, oI) :: (Kp, W.listOf (insV kv (cL (kept (ls.take i)) x) (.int x tx)).toArray (ck + 1)) :: YB) x tx Kp kv (kept (ls.take i)) ck (.tail (Ne.symm hoI) (.head hoB)) hik (by omega) hks) ?k1_M9 ?k2_M9 ?k3_M9 ?k4_M9 ?k5_M9 ?kK_M9 ?kd_M9 ?ku_M9 ?_
          case k1_M9 => k_asm
          case k2_M9 => k_asm
          case k3_M9 => k_asm
          case k4_M9 => k_asm
          case k5_M9 => k_asm
          case kK_M9 => exact rfl
          case kd_M9 => ktr_room
          case ku_M9 => ktr_units
          intro v9 n9 gE tkE zr0 FE NE
          (try dsimp only)
          (try k_fold)
          obtain ⟨rfl, rfl, hik2, _, _⟩ := zr0
          (try k_fold)
          k_steps
          exact kep_end (by k_asm) (by k_asm) hik2 hx (hoI2 _) (by (repeat (first | assumption | exact if_pos rfl | refine' (if_neg (by decide)).trans ?_))) (by (repeat (first | assumption | exact if_pos rfl | refine' (if_neg (by decide)).trans ?_))) (by (repeat (first | assumption | exact if_pos rfl | refine' (if_neg (by decide)).trans ?_)))
        case jd_M9 =>
          intro h tk m5 nw zr0 F9 N9
          (try dsimp only)
          (try k_fold)
          refine e3a5 (zr0) fun kv ck t9 ze0 hik hk1 hk2 hk3 => ?_
          clear zr0
          subst ze0
          k_with_none
          w_top off
          k_with "storeName" => ((k_here; k_dflt (refine' storeX_Lf ?zweg ?zwed ?zweo ?zwet ?zwF ?zwN ?_ ?zwa ?zwb; (case zweg => dsimp only); (case zwed => dsimp only); (case zweo => dsimp only); (case zwet => dsimp only); (case zwF => k_asm); (case zwN => k_asm); (case zwa => rfl); (case zwb => rfl); k_whole; walk_at "pm0"; (try k_sweep))))
          k_with "tb_start" => (k_dflt (first
          | (refine' code_def ?zwk1 ?zwk2 ?zwk3 ?zwk4 ?zwk5 ?zwkA ?zwkF ?zwkK ?zwk6 ?zwk7 ?zwk8 ?zwk9 ?zwkB ?_ ?zwc2 ?zwc3 ?zwc4 ?zwc5; (case zwkA => exact rfl); (case zwkF => exact rfl); (case zwkK => first | assumption | exact rfl); (case zwk1 => k_asm); (case zwk2 => k_asm); (case zwk3 => k_asm); (case zwk4 => k_asm); (case zwk5 => k_asm); (case zwk6 => k_is); (case zwk7 => k_is); (case zwk8 => ktr_room); (case zwk9 => first | exact BindsTo.of_eq rfl | (refine' kp_binds ?zwkx ?zwke; (case zwkx => k_in); (case zwke => exact fun _ => rfl))); (case zwc5 => decide); (case zwkB => exact locs rfl); (case zwc2 => exact rfl); (case zwc3 => exact rfl); (case zwc4 => exact rfl); k_whole; walk_at "pm1"; (try dsimp only); (try k_fold))
          | (refine' code_defC ?zwk1 ?zwk2 ?zwk3 ?zwk4 ?zwk5 ?zwkA ?zwkF ?zwkK ?zwk6 ?zwk7 ?zwk8 ?zwk9 ?zwkB ?zwkD ?_ ?zwc2 ?zwc3 ?zwc4; (case zwkA => exact rfl); (case zwkF => exact rfl); (case zwkK => first | assumption | exact rfl); (case zwk1 => k_asm); (case zwk2 => k_asm); (case zwk3 => k_asm); (case zwk4 => k_asm); (case zwk5 => k_asm); (case zwk6 => k_is); (case zwk7 => k_is); (case zwk8 => ktr_room); (case zwk9 => first | exact BindsTo.of_eq rfl | (refine' kp_binds ?zwkx ?zwke; (case zwkx => k_in); (case zwke => exact fun _ => rfl))); (case zwkB => exact rfl); (case zwkD => decide +kernel); (case zwc2 => exact rfl); (case zwc3 => exact rfl); (case zwc4 => exact rfl); k_whole; walk_at "pm2"; (try dsimp only); (try k_fold))))
          k_with "k_all" => (first | assumption | exact all_ne (by assumption) (by omega) | fail)
          k_with "call ref" => ((k_here; refine stop_intro ?_))
          k_with "k_all" => (first | assumption | (refine' List.forall_mem_cons.mpr ⟨?zwkza, ?zwkzb⟩; (case zwkza => (try dsimp only); first | assumption | exact ltN (by omega) | exact gtN (by omega) | fail); (case zwkzb => k_all)) | exact all_ne (by assumption) (by omega) | fail)
          k_with "loadName" => ((k_here; k_dflt (refine' ldn ?zwk1 ?zwk2 ?_; (case zwk1 => k_asm); (case zwk2 => (repeat (first | assumption | exact if_pos rfl | refine' (if_neg (by decide)).trans ?_))))))
          k_with "eval Name" => ((k_here; name_kind "local"; k_dflt (refine' ld ?zwk1 ?zwk2 ?_; (case zwk1 => k_asm); (case zwk2 => (repeat (first | assumption | exact if_pos rfl | refine' (if_neg (by decide)).trans ?_))); k_whole)))
          k_with "pyIter ref" => ((k_here; refine stop_intro ?_))
          k_with "exec For" => ((k_here; k_dflt (refine' for_ruleL ?zwhF ?zwhs ?_; (case zwhF => k_asm); (case zwhs => intro _; rfl))))
          k_with "exec For Name Name cons nil" => ((k_here; k_dflt (refine' for_ruleL ?zwhF ?zwhs ?_; (case zwhF => k_asm); (case zwhs => intro _; rfl))))
          k_with "exec For Name Subscript cons nil" => ((k_here; k_dflt (refine' for_ruleL ?zwhF ?zwhs ?_; (case zwhF => k_asm); (case zwhs => intro _; rfl))))
          k_with "exec For Name Call cons nil" => ((k_here; k_dflt (refine' for_ruleL ?zwhF ?zwhs ?_; (case zwhF => k_asm); (case zwhs => intro _; rfl))))
          k_with "exec For Tuple Name cons nil" => ((k_here; k_dflt (refine' for_ruleL ?zwhF ?zwhs ?_; (case zwhF => k_asm); (case zwhs => intro _; rfl))))
          k_with "exec For Tuple" => ((k_here; k_dflt (refine' for_ruleL ?zwhF ?zwhs ?_; (case zwhF => k_asm); (case zwhs => intro _; rfl))))
          k_with "call builtin:len" => ((k_here; (with_reducible show wpAny _ _ (call (Value.builtin _) [Value.ref _]) _ _ _); k_dflt (refine' len_at ?zwk1 ?zwk2 ?zwk3 ?_; (case zwk1 => k_asm); (case zwk2 => (repeat (first | assumption | exact List.Mem.head _ | apply List.Mem.tail))); (case zwk3 => omega); walk_at "pm3")))
          k_with "subscriptTail Name Name ref int" => ((k_here; (with_reducible show wpAny _ _ (subscriptTail _ _ (Value.ref _) (Value.int _ _)) _ _ _); k_dflt (refine' sub_at ?zwk1 ?zwk2 ?zwk3 ?zwk4 ?zwk5 ?_ ?zwk7; (case zwk1 => k_asm); (case zwk2 => (repeat (first | assumption | exact List.Mem.head _ | apply List.Mem.tail))); (case zwk3 => omega); (case zwk4 => omega); (case zwk5 => assumption); (case zwk7 => with_unfolding_all rfl); k_whole)))
          k_with "FnAt" => ((k_dflt (exact FnAt.of (by k_asm) (by first | assumption | k_mem))))
          k_with "callWith ref" => ((k_here; k_dflt (refine' callWith_F ?zwk1 ?_; (case zwk1 => exact FnAt.of (by k_asm) (by first | assumption | k_mem)); k_whole)))
          k_with "And" => (((with_reducible show FnAt _ _ ∧ _); k_dflt (refine ⟨FnAt.of (by k_asm) (by first | assumption | k_mem), ?_⟩); (try dsimp only [List.nil_append, List.cons_append])))
          k_with "exec Assign cons ListComp" => ((k_here; refine stop_intro ?_))
          k_with "eval Name" => ((k_here; name_kind "free"; k_dflt (refine' lcf_cell ?zwN ?zwc ?zwm ?zwd ?_ ?zwa ?zwb; (case zwa => rfl); (case zwb => rfl); (case zwN => k_asm); (case zwc => rfl); (case zwm => (repeat (first | assumption | apply List.Mem.tail))); (case zwd => assumption); k_whole)))
          k_with "eval Name" => ((k_here; name_kind "cell"; k_dflt (refine' nameX_C ?zwN ?zwc ?zwm ?zwd ?_ ?zwa ?zwb; (case zwa => rfl); (case zwb => rfl); (case zwN => k_asm); (case zwc => rfl); (case zwm => (repeat (first | assumption | exact List.Mem.head _ | apply List.Mem.tail))); (case zwd => assumption); k_whole)))
          k_with "eval ListComp" => ((k_here; refine stop_intro ?_))
          k_with "call builtin:sorted" => ((k_here; refine stop_intro ?_))
          k_with "compareOp NotEq ref ref" => ((k_here; refine stop_intro ?_))
          k_with "k_all" => (first | assumption | exact all_ne (by assumption) (by omega) | fail)
          rw [List.size_toArray, hvl, List.take_length] at hik
          have hfl := hfvB.len
          have hrlv := root_lvs hll hlf look
          have hfn : (fnd (rootOf ls look) []).length = ls.length := by have := hrlv.length_eq; rw [List.length_map] at this; exact this
          (try k_fold)
          k_steps
          all_goals (try first | exact Str.ofString "" | exact (0 : Nat) | exact Value.none)
          refine stop_elim ?_
          (try k_fold)
          (refine' compG_e ?e1_M10 ?e3_M10 ?e4_M10 ?e5_M10 ?e6_M10 ?e7_M10 ?_; (case e1_M10 => exact rfl); (case e3_M10 => with_unfolding_all rfl); (case e4_M10 => decide); (case e5_M10 => rfl); (case e6_M10 => decide); (case e7_M10 => intro _; rfl))
          k_steps
          all_goals (try first | exact Str.ofString "" | exact (0 : Nat) | exact Value.none)
          refine stop_elim ?_
          (try k_fold)
          refine' src_list (ax := Fd) (its := fv.toArray) (k := cF) (news := (Kp, W.listOf (List.toArray kv) ck) :: YB) rfl ?F_M10 ?N_M10 (.tail _ hFdB) ?_
          case F_M10 => k_asm
          case N_M10 => k_asm
          intro it9 s9 S9
          obtain ⟨g9, e9⟩ := srcAt_same S9
          subst e9
          refine' CompG.pairs (fun i ys Y => Y = (Kp, W.listOf (List.toArray kv) ck) :: YB ∧ IntsAre ys (((fnd (rootOf ls look) []).map (·.1)).take i)) (fun i x _ => ∃ z t, x = .int z t ∧ ((fnd (rootOf ls look) []).map (·.1))[i]? = some z) rfl rfl rfl (by decide) rfl S9 ?hsz_M10 ?j0_M10 ?hP_M10 ?turn_M10 ?hlen_M10 ?fin_M10
          case hsz_M10 => exact size5 (by rw [List.size_toArray]; omega)
          case j0_M10 => exact ⟨rfl, .nil⟩
          case hP_M10 =>
            rintro i v hv
            obtain ⟨x, hx, A9, k9, t9, w9, rfl, hA9, _⟩ := hfvB.get (arr_at hv)
            exact ⟨A9, _, _, k9, rfl, .tail _ hA9, x.1, t9, rfl, by rw [List.getElem?_map, hx]; rfl⟩
          case hlen_M10 =>
            intro i ys Y zr0
            obtain ⟨_, ha⟩ := zr0
            rw [ha.length, List.length_take]; omega
          case turn_M10 =>
            intro i x y ys Y I oI C oC D9 m9 h tk E' hi9 zr0 zr1 hsub hoff hC hm1 hm2 F9 N9
            (try dsimp only)
            (try k_fold)
            refine e2a2 (zr0) fun z t ze0 hz => ?_
            clear zr0
            subst ze0
            refine a2 (zr1) fun ze0 ha => ?_
            clear zr1
            subst ze0
            refine wpAny_tests_nil ?_
            try simp only [if_true]
            (try k_fold)
            k_steps
            exact TurnE.intro _ (by k_asm) (by k_asm) (fun p hp => hp) hsub hoff ⟨rfl, by rw [take_snoc hz]; exact PyProof.Rows.IntsAre.append ha (.cons _ _ .nil)⟩
          case fin_M10 =>
            intro Dq yq Y zr0 hsub hoff hlt h9 tk9 F9 N9
            (try dsimp only)
            (try k_fold)
            obtain ⟨rfl, hq⟩ := zr0
            have hq' : IntsAre yq ((fnd (rootOf ls look) []).map (·.1)) := by
              rw [List.size_toArray, hfl, ← List.length_map (f := fun x : Int × List SL => x.1), List.take_length] at hq
              exact hq
            have hql := hq'.length
            rw [List.length_map] at hql
            have hkk := kept_srt ls
            have hkp := kept_perm ls
            clear hq
            (try k_fold)
            k_steps
            all_goals (try first | exact Str.ofString "" | exact (0 : Nat) | exact Value.none)
            refine stop_elim ?_
            (try k_fold)
            k_with_none
            w_top off
            k_with "storeName" => ((k_here; k_dflt (refine' storeX_Lf ?zweg ?zwed ?zweo ?zwet ?zwF ?zwN ?_ ?zwa ?zwb; (case zweg => dsimp only); (case zwed => dsimp only); (case zweo => dsimp only); (case zwet => dsimp only); (case zwF => k_asm); (case zwN => k_asm); (case zwa => rfl); (case zwb => rfl); k_whole; walk_at "pm0"; (try k_sweep))))
            k_with "tb_start" => (k_dflt (first
            | (refine' code_def ?zwk1 ?zwk2 ?zwk3 ?zwk4 ?zwk5 ?zwkA ?zwkF ?zwkK ?zwk6 ?zwk7 ?zwk8 ?zwk9 ?zwkB ?_ ?zwc2 ?zwc3 ?zwc4 ?zwc5; (case zwkA => exact rfl); (case zwkF => exact rfl); (case zwkK => first | assumption | exact rfl); (case zwk1 => k_asm); (case zwk2 => k_asm); (case zwk3 => k_asm); (case zwk4 => k_asm); (case zwk5 => k_asm); (case zwk6 => k_is); (case zwk7 => k_is); (case zwk8 => ktr_room); (case zwk9 => first | exact BindsTo.of_eq rfl | (refine' kp_binds ?zwkx ?zwke; (case zwkx => k_in); (case zwke => exact fun _ => rfl))); (case zwc5 => decide); (case zwkB => exact locs rfl); (case zwc2 => exact rfl); (case zwc3 => exact rfl); (case zwc4 => exact rfl); k_whole; walk_at "pm1"; (try dsimp only); (try k_fold))
            | (refine' code_defC ?zwk1 ?zwk2 ?zwk3 ?zwk4 ?zwk5 ?zwkA ?zwkF ?zwkK ?zwk6 ?zwk7 ?zwk8 ?zwk9 ?zwkB ?zwkD ?_ ?zwc2 ?zwc3 ?zwc4; (case zwkA => exact rfl); (case zwkF => exact rfl); (case zwkK => first | assumption | exact rfl); (case zwk1 => k_asm); (case zwk2 => k_asm); (case zwk3 => k_asm); (case zwk4 => k_asm); (case zwk5 => k_asm); (case zwk6 => k_is); (case zwk7 => k_is); (case zwk8 => ktr_room); (case zwk9 => first | exact BindsTo.of_eq rfl | (refine' kp_binds ?zwkx ?zwke; (case zwkx => k_in); (case zwke => exact fun _ => rfl))); (case zwkB => exact rfl); (case zwkD => decide +kernel); (case zwc2 => exact rfl); (case zwc3 => exact rfl); (case zwc4 => exact rfl); k_whole; walk_at "pm2"; (try dsimp only); (try k_fold))))
            k_with "k_all" => (first | assumption | exact all_ne (by assumption) (by omega) | fail)
            k_with "call ref" => ((k_here; refine stop_intro ?_))
            k_with "k_all" => (first | assumption | (refine' List.forall_mem_cons.mpr ⟨?zwkza, ?zwkzb⟩; (case zwkza => (try dsimp only); first | assumption | exact ltN (by omega) | exact gtN (by omega) | fail); (case zwkzb => k_all)) | exact all_ne (by assumption) (by omega) | fail)
            k_with "loadName" => ((k_here; k_dflt (refine' ldn ?zwk1 ?zwk2 ?_; (case zwk1 => k_asm); (case zwk2 => (repeat (first | assumption | exact if_pos rfl | refine' (if_neg (by decide)).trans ?_))))))
            k_with "eval Name" => ((k_here; name_kind "local"; k_dflt (refine' ld ?zwk1 ?zwk2 ?_; (case zwk1 => k_asm); (case zwk2 => (repeat (first | assumption | exact if_pos rfl | refine' (if_neg (by decide)).trans ?_))); k_whole)))
            k_with "pyIter ref" => ((k_here; refine stop_intro ?_))
            k_with "exec For" => ((k_here; k_dflt (refine' for_ruleL ?zwhF ?zwhs ?_; (case zwhF => k_asm); (case zwhs => intro _; rfl))))
            k_with "exec For Name Name cons nil" => ((k_here; k_dflt (refine' for_ruleL ?zwhF ?zwhs ?_; (case zwhF => k_asm); (case zwhs => intro _; rfl))))
            k_with "exec For Name Subscript cons nil" => ((k_here; k_dflt (refine' for_ruleL ?zwhF ?zwhs ?_; (case zwhF => k_asm); (case zwhs => intro _; rfl))))
            k_with "exec For Name Call cons nil" => ((k_here; k_dflt (refine' for_ruleL ?zwhF ?zwhs ?_; (case zwhF => k_asm); (case zwhs => intro _; rfl))))
            k_with "exec For Tuple Name cons nil" => ((k_here; k_dflt (refine' for_ruleL ?zwhF ?zwhs ?_; (case zwhF => k_asm); (case zwhs => intro _; rfl))))
            k_with "exec For Tuple" => ((k_here; k_dflt (refine' for_ruleL ?zwhF ?zwhs ?_; (case zwhF => k_asm); (case zwhs => intro _; rfl))))
            k_with "call builtin:len" => ((k_here; (with_reducible show wpAny _ _ (call (Value.builtin _) [Value.ref _]) _ _ _); k_dflt (refine' len_at ?zwk1 ?zwk2 ?zwk3 ?_; (case zwk1 => k_asm); (case zwk2 => (repeat (first | assumption | exact List.Mem.head _ | apply List.Mem.tail))); (case zwk3 => omega); walk_at "pm3")))
            k_with "subscriptTail Name Name ref int" => ((k_here; (with_reducible show wpAny _ _ (subscriptTail _ _ (Value.ref _) (Value.int _ _)) _ _ _); k_dflt (refine' sub_at ?zwk1 ?zwk2 ?zwk3 ?zwk4 ?zwk5 ?_ ?zwk7; (case zwk1 => k_asm); (case zwk2 => (repeat (first | assumption | exact List.Mem.head _ | apply List.Mem.tail))); (case zwk3 => omega); (case zwk4 => omega); (case zwk5 => assumption); (case zwk7 => with_unfolding_all rfl); k_whole)))
            k_with "FnAt" => ((k_dflt (exact FnAt.of (by k_asm) (by first | assumption | k_mem))))
            k_with "callWith ref" => ((k_here; k_dflt (refine' callWith_F ?zwk1 ?_; (case zwk1 => exact FnAt.of (by k_asm) (by first | assumption | k_mem)); k_whole)))
            k_with "And" => (((with_reducible show FnAt _ _ ∧ _); k_dflt (refine ⟨FnAt.of (by k_asm) (by first | assumption | k_mem), ?_⟩); (try dsimp only [List.nil_append, List.cons_append])))
            k_with "exec Assign cons ListComp" => ((k_here; refine stop_intro ?_))
            k_with "eval Name" => ((k_here; name_kind "free"; k_dflt (refine' lcf_cell ?zwN ?zwc ?zwm ?zwd ?_ ?zwa ?zwb; (case zwa => rfl); (case zwb => rfl); (case zwN => k_asm); (case zwc => rfl); (case zwm => (repeat (first | assumption | apply List.Mem.tail))); (case zwd => assumption); k_whole)))
            k_with "eval Name" => ((k_here; name_kind "cell"; k_dflt (refine' nameX_C ?zwN ?zwc ?zwm ?zwd ?_ ?zwa ?zwb; (case zwa => rfl); (case zwb => rfl); (case zwN => k_asm); (case zwc => rfl); (case zwm => (repeat (first | assumption | exact List.Mem.head _ | apply List.Mem.tail))); (case zwd => assumption); k_whole)))
            k_with "eval ListComp" => ((k_here; refine stop_intro ?_))
            k_with "compareOp NotEq ref ref" => ((k_here; refine stop_intro ?_))
            k_with "k_all" => (first | assumption | exact all_ne (by assumption) (by omega) | fail)
            refine kso_sorted (by k_asm) N9 (list_is N9 (.head _)) hq' (by rw [List.length_map]; omega) ?_
            intro Ds vs9 ns9 cs9 hS FS NS ltS hiS hlS hpS hoS hmS
            obtain rfl : ns9 = kept ls := srt_uniq hoS hkk (hpS.trans (hrlv.trans hkp.symm))
            clear hmS
            (try k_fold)
            k_steps
            all_goals (try first | exact Str.ofString "" | exact (0 : Nat) | exact Value.none)
            refine stop_elim ?_
            (try k_fold)
            refine ke_ne_ints (list_is NS (.head _)) (list_is NS (.tail _ (.tail _ (.head _)))) hiS hik (by ktr_units) ?_
            rw [decide_eq_true rfl]
            (try k_fold)
            k_steps
            all_goals (try first | exact Str.ofString "" | exact (0 : Nat) | exact Value.none)
            refine stop_elim ?_
            (try k_fold)
            have hkln := kept_len ls
            refine' Call1.use (dearest_call w ((Ds, W.listOf (List.toArray vs9) cs9) :: (Dq, W.listOf (List.toArray yq) yq.length) :: (Kp, W.listOf (List.toArray kv) ck) :: YB) Kp kv (kept ls) ck hik (by omega)) ?k1_M11 ?k2_M11 ?k3_M11 ?k4_M11 ?k5_M11 ?kK_M11 ?kd_M11 ?ku_M11 ?_
            case k1_M11 => k_asm
            case k2_M11 => k_asm
            case k3_M11 => k_asm
            case k4_M11 =>
              refine news_pick NS ?_
              intro p hp
              rcases List.mem_cons.mp hp with rfl | hp
              · exact .tail _ (.tail _ (.head _))
              · exact hp
            case k5_M11 => k_asm
            case kK_M11 => exact rfl
            case kd_M11 => ktr_room
            case ku_M11 => ktr_units
            intro v9 n9 gE tkE zr0 FE NE
            (try dsimp only)
            (try k_fold)
            obtain ⟨Dd, as, cd9, RR, rfl, rfl, hRR⟩ := zr0
            have inE : ∀ p ∈ YB, p ∈ (Dd, W.listOf (List.toArray (as.map Value.ref)) cd9) :: (RR ++ (Kp, W.listOf (List.toArray kv) ck) :: (Ds, W.listOf (List.toArray vs9) cs9) :: (Dq, W.listOf (List.toArray yq) yq.length) :: (Kp, W.listOf (List.toArray kv) ck) :: YB) := fun p hp => .tail _ (List.mem_append_right _ (.tail _ (.tail _ (.tail _ (.tail _ hp)))))
            have hcE := inE _ hcBB
            obtain ⟨YC, NC, hoC, hiC, _⟩ := news_sep NE hcE
            have hlC : ∀ a us k, (a, W.listOf (List.toArray us) k) ∈ (Dd, W.listOf (List.toArray (as.map Value.ref)) cd9) :: (RR ++ (Kp, W.listOf (List.toArray kv) ck) :: (Ds, W.listOf (List.toArray vs9) cs9) :: (Dq, W.listOf (List.toArray yq) yq.length) :: (Kp, W.listOf (List.toArray kv) ck) :: YB) → (a, W.listOf (List.toArray us) k) ∈ YC := fun a us k h => hiC _ h fun e => by
              have e : a = _ := e
              subst e
              exact cell_ne_list dA _ _ (news_uniq NE hcE h)
            have h122C := hiC _ (inE _ h122B) (ltN (by omega))
            have h144C := hiC _ (inE _ h144B) (ltN (by omega))
            have hDdC := hlC _ _ _ (.head _)
            have hKpC := hlC Kp kv ck (.tail _ (List.mem_append_right _ (.head _)))
            have hFdC := hlC _ _ _ (inE _ hFdB)
            have hfvC : Are (FndAt YC) fv (fnd (rootOf ls look) []) := (hfvB.imp (FndAt.mono inE)).imp (FndAt.sep NE hcE (cell_ne dA) (cell_ne_list dA) hiC)
            have hrows : RowsIn YC as (fwB (kept ls).length ((kept ls).map fun a => (kept ls).map (price a)) (kept ls).length) := hRR.in_ fun p hp vs k e => by
              obtain ⟨a, o⟩ := p
              have e : o = _ := e
              subst e
              exact hlC _ _ _ (.tail _ (List.mem_append_left _ hp))
            obtain ⟨m6, F6, hm6a, hm6b⟩ : ∃ m6 : Str → Option Value, Fr (ghostOf s1.heap [(124, 122), (146, 144)]) s1.heap.objs.size gE m6 ∧ m6 (S' "kept") = some (.ref Kp) ∧ m6 (S' "found") = some (.ref Fd) := ⟨_, FE, by (repeat (first | assumption | exact if_pos rfl | refine' (if_neg (by decide)).trans ?_)), by (repeat (first | assumption | exact if_pos rfl | refine' (if_neg (by decide)).trans ?_))⟩
            clear NE FE hcE inE hlC hiC hRR NS FS ltS hiS hpS hoS N9 hfvB hFdB hcBB hcLB hlvB hXB hBK
            k_with_none
            w_top off
            k_with "storeName" => ((k_here; k_dflt (refine' storeX_Lf ?zweg ?zwed ?zweo ?zwet ?zwF ?zwN ?_ ?zwa ?zwb; (case zweg => dsimp only); (case zwed => dsimp only); (case zweo => dsimp only); (case zwet => dsimp only); (case zwF => k_asm); (case zwN => k_asm); (case zwa => rfl); (case zwb => rfl); k_whole; walk_at "pm0"; (try k_sweep))))
            k_with "tb_start" => (k_dflt (first
            | (refine' code_def ?zwk1 ?zwk2 ?zwk3 ?zwk4 ?zwk5 ?zwkA ?zwkF ?zwkK ?zwk6 ?zwk7 ?zwk8 ?zwk9 ?zwkB ?_ ?zwc2 ?zwc3 ?zwc4 ?zwc5; (case zwkA => exact rfl); (case zwkF => exact rfl); (case zwkK => first | assumption | exact rfl); (case zwk1 => k_asm); (case zwk2 => k_asm); (case zwk3 => k_asm); (case zwk4 => k_asm); (case zwk5 => k_asm); (case zwk6 => k_is); (case zwk7 => k_is); (case zwk8 => ktr_room); (case zwk9 => first | exact BindsTo.of_eq rfl | (refine' kp_binds ?zwkx ?zwke; (case zwkx => k_in); (case zwke => exact fun _ => rfl))); (case zwc5 => decide); (case zwkB => exact locs rfl); (case zwc2 => exact rfl); (case zwc3 => exact rfl); (case zwc4 => exact rfl); k_whole; walk_at "pm1"; (try dsimp only); (try k_fold))
            | (refine' code_defC ?zwk1 ?zwk2 ?zwk3 ?zwk4 ?zwk5 ?zwkA ?zwkF ?zwkK ?zwk6 ?zwk7 ?zwk8 ?zwk9 ?zwkB ?zwkD ?_ ?zwc2 ?zwc3 ?zwc4; (case zwkA => exact rfl); (case zwkF => exact rfl); (case zwkK => first | assumption | exact rfl); (case zwk1 => k_asm); (case zwk2 => k_asm); (case zwk3 => k_asm); (case zwk4 => k_asm); (case zwk5 => k_asm); (case zwk6 => k_is); (case zwk7 => k_is); (case zwk8 => ktr_room); (case zwk9 => first | exact BindsTo.of_eq rfl | (refine' kp_binds ?zwkx ?zwke; (case zwkx => k_in); (case zwke => exact fun _ => rfl))); (case zwkB => exact rfl); (case zwkD => decide +kernel); (case zwc2 => exact rfl); (case zwc3 => exact rfl); (case zwc4 => exact rfl); k_whole; walk_at "pm2"; (try dsimp only); (try k_fold))))
            k_with "k_all" => (first | assumption | exact all_ne (by assumption) (by omega) | fail)
            k_with "call ref" => ((k_here; refine stop_intro ?_))
            k_with "k_all" => (first | assumption | (refine' List.forall_mem_cons.mpr ⟨?zwkza, ?zwkzb⟩; (case zwkza => (try dsimp only); first | assumption | exact ltN (by omega) | exact gtN (by omega) | fail); (case zwkzb => k_all)) | exact all_ne (by assumption) (by omega) | fail)
            k_with "loadName" => ((k_here; k_dflt (refine' ldn ?zwk1 ?zwk2 ?_; (case zwk1 => k_asm); (case zwk2 => (repeat (first | assumption | exact if_pos rfl | refine' (if_neg (by decide)).trans ?_))))))
            k_with "eval Name" => ((k_here; name_kind "local"; k_dflt (refine' ld ?zwk1 ?zwk2 ?_; (case zwk1 => k_asm); (case zwk2 => (repeat (first | assumption | exact if_pos rfl | refine' (if_neg (by decide)).trans ?_))); k_whole)))
            k_with "pyIter ref" => ((k_here; refine stop_intro ?_))
            k_with "exec For" => ((k_here; k_dflt (refine' for_ruleL ?zwhF ?zwhs ?_; (case zwhF => k_asm); (case zwhs => intro _; rfl))))
            k_with "exec For Name Name cons nil" => ((k_here; k_dflt (refine' for_ruleL ?zwhF ?zwhs ?_; (case zwhF => k_asm); (case zwhs => intro _; rfl))))
            k_with "exec For Name Subscript cons nil" => ((k_here; k_dflt (refine' for_ruleL ?zwhF ?zwhs ?_; (case zwhF => k_asm); (case zwhs => intro _; rfl))))
            k_with "exec For Name Call cons nil" => ((k_here; k_dflt (refine' for_ruleL ?zwhF ?zwhs ?_; (case zwhF => k_asm); (case zwhs => intro _; rfl))))
            k_with "exec For Tuple Name cons nil" => ((k_here; k_dflt (refine' for_ruleL ?zwhF ?zwhs ?_; (case zwhF => k_asm); (case zwhs => intro _; rfl))))
            k_with "exec For Tuple" => ((k_here; k_dflt (refine' for_ruleL ?zwhF ?zwhs ?_; (case zwhF => k_asm); (case zwhs => intro _; rfl))))
            k_with "call builtin:len" => ((k_here; (with_reducible show wpAny _ _ (call (Value.builtin _) [Value.ref _]) _ _ _); k_dflt (refine' len_at ?zwk1 ?zwk2 ?zwk3 ?_; (case zwk1 => k_asm); (case zwk2 => (repeat (first | assumption | exact List.Mem.head _ | apply List.Mem.tail))); (case zwk3 => omega); walk_at "pm3")))
            k_with "subscriptTail Name Name ref int" => ((k_here; (with_reducible show wpAny _ _ (subscriptTail _ _ (Value.ref _) (Value.int _ _)) _ _ _); k_dflt (refine' sub_at ?zwk1 ?zwk2 ?zwk3 ?zwk4 ?zwk5 ?_ ?zwk7; (case zwk1 => k_asm); (case zwk2 => (repeat (first | assumption | exact List.Mem.head _ | apply List.Mem.tail))); (case zwk3 => omega); (case zwk4 => omega); (case zwk5 => assumption); (case zwk7 => with_unfolding_all rfl); k_whole)))
            k_with "FnAt" => ((k_dflt (exact FnAt.of (by k_asm) (by first | assumption | k_mem))))
            k_with "callWith ref" => ((k_here; k_dflt (refine' callWith_F ?zwk1 ?_; (case zwk1 => exact FnAt.of (by k_asm) (by first | assumption | k_mem)); k_whole)))
            k_with "And" => (((with_reducible show FnAt _ _ ∧ _); k_dflt (refine ⟨FnAt.of (by k_asm) (by first | assumption | k_mem), ?_⟩); (try dsimp only [List.nil_append, List.cons_append])))
            k_with "exec Assign cons ListComp" => ((k_here; refine stop_intro ?_))
            k_with "eval Name" => ((k_here; name_kind "free"; k_dflt (refine' lcf_cell ?zwN ?zwc ?zwm ?zwd ?_ ?zwa ?zwb; (case zwa => rfl); (case zwb => rfl); (case zwN => k_asm); (case zwc => rfl); (case zwm => (repeat (first | assumption | apply List.Mem.tail))); (case zwd => assumption); k_whole)))
            k_with "eval Name" => ((k_here; name_kind "cell"; k_dflt (refine' nameX_C ?zwN ?zwc ?zwm ?zwd ?_ ?zwa ?zwb; (case zwa => rfl); (case zwb => rfl); (case zwN => k_asm); (case zwc => rfl); (case zwm => (repeat (first | assumption | exact List.Mem.head _ | apply List.Mem.tail))); (case zwd => assumption); k_whole)))
            k_with "GrownAll" => ((refine stop_intro ?_))
            k_with "k_all" => (first | assumption | exact all_ne (by assumption) (by omega) | fail)
            have hfnl : fv.length = ls.length := hfvC.len.trans hfn
            have hYCB := hoC
            obtain ⟨cB, hcB⟩ : ∃ cB, cB = s1.heap.objs.size + 1 + 1 := ⟨_, rfl⟩
            (try k_fold)
            k_steps
            all_goals (try first | exact Str.ofString "" | exact (0 : Nat) | exact Value.none)
            refine stop_elim ?_
            (try k_fold)
            have hR := (by assumption : IsRange _ _ _ _ _ _ _ _)
            refine' srcF_range (n := ls.length) (news := (s1.heap.objs.size + 1 + 1, oA) :: YC) rfl ?F_M12 ?N_M12 (by rw [← hfnl]; exact hR) (small_k (by omega)) (range_k _) ?_
            case F_M12 => k_asm
            case N_M12 => k_asm
            intro it9 s9 S9
            obtain ⟨g9, e9⟩ := SrcF.same S9
            subst e9
            refine LoopOK.put (fun i m nw => ∃ oc v, nw = (s1.heap.objs.size + 1 + 1, oc) :: YC ∧ oc.data = Data.cell v ∧ m (S' "kept") = some (.ref Kp) ∧ m (S' "found") = some (.ref Fd) ∧ m (S' "least") = some (.ref Dd)) S9 ?ja_M12 ?jb_M12 ?jc_M12 ?jd_M12
            case ja_M12 => exact ⟨oA, _, rfl, dA, by (repeat (first | assumption | exact if_pos rfl | refine' (if_neg (by decide)).trans ?_)), by (repeat (first | assumption | exact if_pos rfl | refine' (if_neg (by decide)).trans ?_)), by (repeat (first | assumption | exact if_pos rfl | refine' (if_neg (by decide)).trans ?_))⟩
            case jb_M12 => exact fun _ _ _ _ => trivial
            case jc_M12 =>
              intro k v m7 nw I oI h tk E' hk9 zr0 zr1 off hltI F9 N9
              (try (refine absL ?_; intro QL9))
              (try dsimp only)
              (try k_fold)
              refine e1a1 (zr0) fun t9 ze0 => ?_
              clear zr0
              subst ze0
              refine e2a5 (zr1) fun oc vc ze0 doc hm7a hm7b hm7c => ?_
              clear zr1
              subst ze0
              rw [Int.zero_add]
              k_with_none
              w_top off
              k_with "storeName" => ((k_here; k_dflt (refine' storeX_Lf ?zweg ?zwed ?zweo ?zwet ?zwF ?zwN ?_ ?zwa ?zwb; (case zweg => dsimp only); (case zwed => dsimp only); (case zweo => dsimp only); (case zwet => dsimp only); (case zwF => k_asm); (case zwN => k_asm); (case zwa => rfl); (case zwb => rfl); k_whole; walk_at "pm0"; (try k_sweep))))
              k_with "tb_start" => (k_dflt (first
              | (refine' code_def ?zwk1 ?zwk2 ?zwk3 ?zwk4 ?zwk5 ?zwkA ?zwkF ?zwkK ?zwk6 ?zwk7 ?zwk8 ?zwk9 ?zwkB ?_ ?zwc2 ?zwc3 ?zwc4 ?zwc5; (case zwkA => exact rfl); (case zwkF => exact rfl); (case zwkK => first | assumption | exact rfl); (case zwk1 => k_asm); (case zwk2 => k_asm); (case zwk3 => k_asm); (case zwk4 => k_asm); (case zwk5 => k_asm); (case zwk6 => k_is); (case zwk7 => k_is); (case zwk8 => ktr_room); (case zwk9 => first | exact BindsTo.of_eq rfl | (refine' kp_binds ?zwkx ?zwke; (case zwkx => k_in); (case zwke => exact fun _ => rfl))); (case zwc5 => decide); (case zwkB => exact locs rfl); (case zwc2 => exact rfl); (case zwc3 => exact rfl); (case zwc4 => exact rfl); k_whole; walk_at "pm1"; (try dsimp only); (try k_fold))
              | (refine' code_defC ?zwk1 ?zwk2 ?zwk3 ?zwk4 ?zwk5 ?zwkA ?zwkF ?zwkK ?zwk6 ?zwk7 ?zwk8 ?zwk9 ?zwkB ?zwkD ?_ ?zwc2 ?zwc3 ?zwc4; (case zwkA => exact rfl); (case zwkF => exact rfl); (case zwkK => first | assumption | exact rfl); (case zwk1 => k_asm); (case zwk2 => k_asm); (case zwk3 => k_asm); (case zwk4 => k_asm); (case zwk5 => k_asm); (case zwk6 => k_is); (case zwk7 => k_is); (case zwk8 => ktr_room); (case zwk9 => first | exact BindsTo.of_eq rfl | (refine' kp_binds ?zwkx ?zwke; (case zwkx => k_in); (case zwke => exact fun _ => rfl))); (case zwkB => exact rfl); (case zwkD => decide +kernel); (case zwc2 => exact rfl); (case zwc3 => exact rfl); (case zwc4 => exact rfl); k_whole; walk_at "pm2"; (try dsimp only); (try k_fold))))
              k_with "k_all" => (first | assumption | exact all_ne (by assumption) (by omega) | fail)
              k_with "call ref" => ((k_here; refine stop_intro ?_))
              k_with "k_all" => (first | assumption | (refine' List.forall_mem_cons.mpr ⟨?zwkza, ?zwkzb⟩; (case zwkza => (try dsimp only); first | assumption | exact ltN (by omega) | exact gtN (by omega) | fail); (case zwkzb => k_all)) | exact all_ne (by assumption) (by omega) | fail)
              k_with "loadName" => ((k_here; k_dflt (refine' ldn ?zwk1 ?zwk2 ?_; (case zwk1 => k_asm); (case zwk2 => (repeat (first | assumption | exact if_pos rfl | refine' (if_neg (by decide)).trans ?_))))))
              k_with "eval Name" => ((k_here; name_kind "local"; k_dflt (refine' ld ?zwk1 ?zwk2 ?_; (case zwk1 => k_asm); (case zwk2 => (repeat (first | assumption | exact if_pos rfl | refine' (if_neg (by decide)).trans ?_))); k_whole)))
              k_with "pyIter ref" => ((k_here; refine stop_intro ?_))
              k_with "exec For" => ((k_here; k_dflt (refine' for_ruleL ?zwhF ?zwhs ?_; (case zwhF => k_asm); (case zwhs => intro _; rfl))))
              k_with "exec For Name Name cons nil" => ((k_here; k_dflt (refine' for_ruleL ?zwhF ?zwhs ?_; (case zwhF => k_asm); (case zwhs => intro _; rfl))))
              k_with "exec For Name Subscript cons nil" => ((k_here; k_dflt (refine' for_ruleL ?zwhF ?zwhs ?_; (case zwhF => k_asm); (case zwhs => intro _; rfl))))
              k_with "exec For Name Call cons nil" => ((k_here; k_dflt (refine' for_ruleL ?zwhF ?zwhs ?_; (case zwhF => k_asm); (case zwhs => intro _; rfl))))
              k_with "exec For Tuple Name cons nil" => ((k_here; k_dflt (refine' for_ruleL ?zwhF ?zwhs ?_; (case zwhF => k_asm); (case zwhs => intro _; rfl))))
              k_with "exec For Tuple" => ((k_here; k_dflt (refine' for_ruleL ?zwhF ?zwhs ?_; (case zwhF => k_asm); (case zwhs => intro _; rfl))))
              k_with "call builtin:len" => ((k_here; (with_reducible show wpAny _ _ (call (Value.builtin _) [Value.ref _]) _ _ _); k_dflt (refine' len_at ?zwk1 ?zwk2 ?zwk3 ?_; (case zwk1 => k_asm); (case zwk2 => (repeat (first | assumption | exact List.Mem.head _ | apply List.Mem.tail))); (case zwk3 => omega); walk_at "pm3")))
              k_with "subscriptTail Name Name ref int" => ((k_here; (with_reducible show wpAny _ _ (subscriptTail _ _ (Value.ref _) (Value.int _ _)) _ _ _); k_dflt (refine' sub_at ?zwk1 ?zwk2 ?zwk3 ?zwk4 ?zwk5 ?_ ?zwk7; (case zwk1 => k_asm); (case zwk2 => (repeat (first | assumption | exact List.Mem.head _ | apply List.Mem.tail))); (case zwk3 => omega); (case zwk4 => omega); (case zwk5 => assumption); (case zwk7 => with_unfolding_all rfl); k_whole)))
              k_with "FnAt" => ((k_dflt (exact FnAt.of (by k_asm) (by first | assumption | k_mem))))
              k_with "callWith ref" => ((k_here; k_dflt (refine' callWith_F ?zwk1 ?_; (case zwk1 => exact FnAt.of (by k_asm) (by first | assumption | k_mem)); k_whole)))
              k_with "And" => (((with_reducible show FnAt _ _ ∧ _); k_dflt (refine ⟨FnAt.of (by k_asm) (by first | assumption | k_mem), ?_⟩); (try dsimp only [List.nil_append, List.cons_append])))
              k_with "exec Assign cons ListComp" => ((k_here; refine stop_intro ?_))
              k_with "eval Name" => ((k_here; name_kind "free"; k_dflt (refine' lcf_cell ?zwN ?zwc ?zwm ?zwd ?_ ?zwa ?zwb; (case zwa => rfl); (case zwb => rfl); (case zwN => k_asm); (case zwc => rfl); (case zwm => (repeat (first | assumption | apply List.Mem.tail))); (case zwd => assumption); k_whole)))
              k_with "eval Name" => ((k_here; name_kind "cell"; k_dflt (refine' nameX_C ?zwN ?zwc ?zwm ?zwd ?_ ?zwa ?zwb; (case zwa => rfl); (case zwb => rfl); (case zwN => k_asm); (case zwc => rfl); (case zwm => (repeat (first | assumption | exact List.Mem.head _ | apply List.Mem.tail))); (case zwd => assumption); k_whole)))
              k_with "k_all" => (first | assumption | exact all_ne (by assumption) (by omega) | fail)
              have hkf : k < (fnd (rootOf ls look) []).length := by omega
              refine e1a1 ((⟨_, List.getElem?_eq_getElem hkf⟩ : ∃ x1, (fnd (rootOf ls look) [])[k]? = some x1)) fun x1 hx1 => ?_
              refine e1a2 (hfvC.get' hx1) fun v1 hv1 zt0 => ?_
              refine e4a3 (zt0) fun A1 k1 ta w1 ze1 hA1 zt2 => ?_
              clear zt0
              subst ze1
              refine e3a3 (zt2) fun Ab1 va1 ca1 ze3 hAb1 hpa1 => ?_
              clear zt2
              subst ze3
              have hv1' : fv[((k : Nat) : Int).toNat]? = some (.ref A1) := hv1
              have N9' : News (ghostOf s1.heap [(124, 122), (146, 144)]) s1.heap.objs.size h ((I, oI) :: (A1, ({ cls := .type "tuple", data := .seq #[.int x1.1 ta, .ref Ab1] k1 } : Obj)) :: (s1.heap.objs.size + 1 + 1, oc) :: YC) := news_pick N9 (by
                intro p hp
                simp only [List.mem_cons] at hp ⊢
                rcases hp with rfl | rfl | rfl | hp
                · exact .inl rfl
                · exact .inr (.inr hA1)
                · exact .inr (.inl rfl)
                · exact .inr (.inr hp))
              have offI : ∀ p ∈ YC, p.1 ≠ I := fun p hp => off p (.tail _ hp)
              have hcI : @LT.lt Nat instLTNat (s1.heap.objs.size + 1 + 1) I := hltI _ (.head _)
              have hIY : ∀ p ∈ YC, p.1 < I := fun p hp => hltI p (.tail _ hp)
              clear N9
              (try k_fold)
              k_steps
              all_goals (try first | exact Str.ofString "" | exact (0 : Nat) | exact Value.none)
              refine stop_elim ?_
              (try k_fold)
              refine e1a1 ((⟨_, rfl⟩ : ∃ XX, XX = (I, oI) :: YC)) fun XX hXX => ?_
              have hYX : ∀ p ∈ YC, p ∈ XX := fun p hp => by rw [hXX]; exact .tail _ hp
              have hXo : ∀ p ∈ XX, p.1 ≠ s1.heap.objs.size + 1 + 1 := by
                rw [hXX]
                intro p hp
                rcases List.mem_cons.mp hp with rfl | hp
                · exact gtN hcI
                · exact hoC p hp
              have hR := (by assumption : IsRange _ _ _ _ _ _ _ _)
              refine' srcF_range (n := k) (news := (s1.heap.objs.size + 1 + 1, oc) :: XX) rfl ?F_M13 ?N_M13 hR (small_k (by omega)) (range_k _) ?_
              case F_M13 => k_asm
              case N_M13 =>
                refine news_pick (by k_asm : News _ _ _ _) ?_
                rw [hXX]
                intro p hp
                simp only [List.mem_cons] at hp ⊢
                rcases hp with rfl | rfl | hp
                · exact .inr (.inr (.inl rfl))
                · exact .inl rfl
                · exact .inr (.inr (.inr hp))
              intro it9 s9 S9
              obtain ⟨g9, e9⟩ := SrcF.same S9
              subst e9
              refine LoopOK.put (fun i m nw => ∃ oc v, nw = (s1.heap.objs.size + 1 + 1, oc) :: XX ∧ oc.data = Data.cell v ∧ (m (S' "kept") = some (.ref Kp) ∧ m (S' "found") = some (.ref Fd) ∧ m (S' "least") = some (.ref Dd)) ∧ m (S' "one") = some (.int x1.1 ta) ∧ m (S' "above") = some (.ref Ab1)) S9 ?ja_M13 ?jb_M13 ?jc_M13 ?jd_M13
              case ja_M13 => exact ⟨oc, _, rfl, doc, ⟨by (repeat (first | assumption | exact if_pos rfl | refine' (if_neg (by decide)).trans ?_)), by (repeat (first | assumption | exact if_pos rfl | refine' (if_neg (by decide)).trans ?_)), by (repeat (first | assumption | exact if_pos rfl | refine' (if_neg (by decide)).trans ?_))⟩, by (repeat (first | assumption | exact if_pos rfl | refine' (if_neg (by decide)).trans ?_)), by (repeat (first | assumption | exact if_pos rfl | refine' (if_neg (by decide)).trans ?_))⟩
              case jb_M13 => exact fun _ _ _ _ => trivial
              case jc_M13 =>
                intro j v m8 nw I2 oI2 h2 tk2 E2 hj9 zr0 zr1 off2 hltI2 F8 N8
                (try (refine absL ?_; intro QL8))
                (try dsimp only)
                (try k_fold)
                refine e1a1 (zr0) fun t8 ze0 => ?_
                clear zr0
                subst ze0
                refine e2a5 (zr1) fun od vd ze0 dod zt1 hm8d hm8e => ?_
                clear zr1
                subst ze0
                refine a3 (zt1) fun hm8a hm8b hm8c => ?_
                clear zt1
                rw [Int.zero_add]
                k_with_none
                w_top off
                k_with "storeName" => ((k_here; k_dflt (refine' storeX_Lf ?zweg ?zwed ?zweo ?zwet ?zwF ?zwN ?_ ?zwa ?zwb; (case zweg => dsimp only); (case zwed => dsimp only); (case zweo => dsimp only); (case zwet => dsimp only); (case zwF => k_asm); (case zwN => k_asm); (case zwa => rfl); (case zwb => rfl); k_whole; walk_at "pm0"; (try k_sweep))))
                k_with "tb_start" => (k_dflt (first
                | (refine' code_def ?zwk1 ?zwk2 ?zwk3 ?zwk4 ?zwk5 ?zwkA ?zwkF ?zwkK ?zwk6 ?zwk7 ?zwk8 ?zwk9 ?zwkB ?_ ?zwc2 ?zwc3 ?zwc4 ?zwc5; (case zwkA => exact rfl); (case zwkF => exact rfl); (case zwkK => first | assumption | exact rfl); (case zwk1 => k_asm); (case zwk2 => k_asm); (case zwk3 => k_asm); (case zwk4 => k_asm); (case zwk5 => k_asm); (case zwk6 => k_is); (case zwk7 => k_is); (case zwk8 => ktr_room); (case zwk9 => first | exact BindsTo.of_eq rfl | (refine' kp_binds ?zwkx ?zwke; (case zwkx => k_in); (case zwke => exact fun _ => rfl))); (case zwc5 => decide); (case zwkB => exact locs rfl); (case zwc2 => exact rfl); (case zwc3 => exact rfl); (case zwc4 => exact rfl); k_whole; walk_at "pm1"; (try dsimp only); (try k_fold))
                | (refine' code_defC ?zwk1 ?zwk2 ?zwk3 ?zwk4 ?zwk5 ?zwkA ?zwkF ?zwkK ?zwk6 ?zwk7 ?zwk8 ?zwk9 ?zwkB ?zwkD ?_ ?zwc2 ?zwc3 ?zwc4; (case zwkA => exact rfl); (case zwkF => exact rfl); (case zwkK => first | assumption | exact rfl); (case zwk1 => k_asm); (case zwk2 => k_asm); (case zwk3 => k_asm); (case zwk4 => k_asm); (case zwk5 => k_asm); (case zwk6 => k_is); (case zwk7 => k_is); (case zwk8 => ktr_room); (case zwk9 => first | exact BindsTo.of_eq rfl | (refine' kp_binds ?zwkx ?zwke; (case zwkx => k_in); (case zwke => exact fun _ => rfl))); (case zwkB => exact rfl); (case zwkD => decide +kernel); (case zwc2 => exact rfl); (case zwc3 => exact rfl); (case zwc4 => exact rfl); k_whole; walk_at "pm2"; (try dsimp only); (try k_fold))))
                k_with "k_all" => (first | assumption | exact all_ne (by assumption) (by omega) | fail)
                k_with "call ref" => ((k_here; refine stop_intro ?_))
                k_with "k_all" => (first | assumption | (refine' List.forall_mem_cons.mpr ⟨?zwkza, ?zwkzb⟩; (case zwkza => (try dsimp only); first | assumption | exact ltN (by omega) | exact gtN (by omega) | fail); (case zwkzb => k_all)) | exact all_ne (by assumption) (by omega) | fail)
                k_with "loadName" => ((k_here; k_dflt (refine' ldn ?zwk1 ?zwk2 ?_; (case zwk1 => k_asm); (case zwk2 => (repeat (first | assumption | exact if_pos rfl | refine' (if_neg (by decide)).trans ?_))))))
                k_with "eval Name" => ((k_here; name_kind "local"; k_dflt (refine' ld ?zwk1 ?zwk2 ?_; (case zwk1 => k_asm); (case zwk2 => (repeat (first | assumption | exact if_pos rfl | refine' (if_neg (by decide)).trans ?_))); k_whole)))
                k_with "pyIter ref" => ((k_here; refine stop_intro ?_))
                k_with "exec For" => ((k_here; k_dflt (refine' for_ruleL ?zwhF ?zwhs ?_; (case zwhF => k_asm); (case zwhs => intro _; rfl))))
                k_with "exec For Name Name cons nil" => ((k_here; k_dflt (refine' for_ruleL ?zwhF ?zwhs ?_; (case zwhF => k_asm); (case zwhs => intro _; rfl))))
                k_with "exec For Name Subscript cons nil" => ((k_here; k_dflt (refine' for_ruleL ?zwhF ?zwhs ?_; (case zwhF => k_asm); (case zwhs => intro _; rfl))))
                k_with "exec For Name Call cons nil" => ((k_here; k_dflt (refine' for_ruleL ?zwhF ?zwhs ?_; (case zwhF => k_asm); (case zwhs => intro _; rfl))))
                k_with "exec For Tuple Name cons nil" => ((k_here; k_dflt (refine' for_ruleL ?zwhF ?zwhs ?_; (case zwhF => k_asm); (case zwhs => intro _; rfl))))
                k_with "exec For Tuple" => ((k_here; k_dflt (refine' for_ruleL ?zwhF ?zwhs ?_; (case zwhF => k_asm); (case zwhs => intro _; rfl))))
                k_with "call builtin:len" => ((k_here; (with_reducible show wpAny _ _ (call (Value.builtin _) [Value.ref _]) _ _ _); k_dflt (refine' len_at ?zwk1 ?zwk2 ?zwk3 ?_; (case zwk1 => k_asm); (case zwk2 => (repeat (first | assumption | exact List.Mem.head _ | apply List.Mem.tail))); (case zwk3 => omega); walk_at "pm3")))
                k_with "subscriptTail Name Name ref int" => ((k_here; (with_reducible show wpAny _ _ (subscriptTail _ _ (Value.ref _) (Value.int _ _)) _ _ _); k_dflt (refine' sub_at ?zwk1 ?zwk2 ?zwk3 ?zwk4 ?zwk5 ?_ ?zwk7; (case zwk1 => k_asm); (case zwk2 => (repeat (first | assumption | exact List.Mem.head _ | apply List.Mem.tail))); (case zwk3 => omega); (case zwk4 => omega); (case zwk5 => assumption); (case zwk7 => with_unfolding_all rfl); k_whole)))
                k_with "FnAt" => ((k_dflt (exact FnAt.of (by k_asm) (by first | assumption | k_mem))))
                k_with "callWith ref" => ((k_here; k_dflt (refine' callWith_F ?zwk1 ?_; (case zwk1 => exact FnAt.of (by k_asm) (by first | assumption | k_mem)); k_whole)))
                k_with "And" => (((with_reducible show FnAt _ _ ∧ _); k_dflt (refine ⟨FnAt.of (by k_asm) (by first | assumption | k_mem), ?_⟩); (try dsimp only [List.nil_append, List.cons_append])))
                k_with "exec Assign cons ListComp" => ((k_here; refine stop_intro ?_))
                k_with "eval Name" => ((k_here; name_kind "free"; k_dflt (refine' lcf_cell ?zwN ?zwc ?zwm ?zwd ?_ ?zwa ?zwb; (case zwa => rfl); (case zwb => rfl); (case zwN => k_asm); (case zwc => rfl); (case zwm => (repeat (first | assumption | apply List.Mem.tail))); (case zwd => assumption); k_whole)))
                k_with "eval Name" => ((k_here; name_kind "cell"; k_dflt (refine' nameX_C ?zwN ?zwc ?zwm ?zwd ?_ ?zwa ?zwb; (case zwa => rfl); (case zwb => rfl); (case zwN => k_asm); (case zwc => rfl); (case zwm => (repeat (first | assumption | exact List.Mem.head _ | apply List.Mem.tail))); (case zwd => assumption); k_whole)))
                k_with "call ref" => ((k_here; (with_reducible show wpAny _ _ (call (Value.ref 50) [Value.ref _, Value.int _ _]) _ _ _); k_dflt (refine' Call1.useI (bisL_call _ _ _ _ _ _ _ _ ?zwhl ?zwhi ?zwhn ?zwhs) ?zwk1 ?zwk2 ?zwk3 ?zwk4 ?zwk5 ?zwkK ?zwkd ?zwku ?_; (case zwk1 => k_asm); (case zwk2 => k_asm); (case zwk3 => k_asm); (case zwk4 => k_asm); (case zwk5 => k_asm); (case zwkK => first | exact rfl | assumption); (case zwhl => (repeat (first | assumption | exact List.Mem.head _ | apply List.Mem.tail))); (case zwhi => assumption); (case zwhn => omega); (case zwhs => assumption); (case zwkd => ktr_room); (case zwku => ktr_units); walk_at "pm4"; (try dsimp only); (try k_fold))))
                k_with "subscriptTail" => ((k_here; (with_reducible show wpAny _ _ (subscriptTail _ _ (Value.ref _) (Value.int _ _)) _ _ _); k_dflt (refine' sub_at ?zwk1 ?zwk2 ?zwk3 ?zwk4 ?zwk5 ?_ ?zwk7; (case zwk1 => k_asm); (case zwk2 => (repeat (first | assumption | exact List.Mem.head _ | apply List.Mem.tail))); (case zwk3 => omega); (case zwk4 => omega); (case zwk5 => assumption); (case zwk7 => with_unfolding_all rfl); k_whole)))
                k_with "subscriptTail Name Call ref int" => ((k_here; (with_reducible show wpAny _ _ (subscriptTail _ _ (Value.ref _) (Value.int _ _)) _ _ _); k_dflt (refine' sub_at ?zwk1 ?zwk2 ?zwk3 ?zwk4 ?zwk5 ?_ ?zwk7; (case zwk1 => k_asm); (case zwk2 => (repeat (first | assumption | exact List.Mem.head _ | apply List.Mem.tail))); (case zwk3 => omega); (case zwk4 => omega); (case zwk5 => assumption); (case zwk7 => with_unfolding_all rfl); k_whole)))
                k_with "subscriptTail Subscript Call ref int" => ((k_here; (with_reducible show wpAny _ _ (subscriptTail _ _ (Value.ref _) (Value.int _ _)) _ _ _); k_dflt (refine' sub_at ?zwk1 ?zwk2 ?zwk3 ?zwk4 ?zwk5 ?_ ?zwk7; (case zwk1 => k_asm); (case zwk2 => (repeat (first | assumption | exact List.Mem.head _ | apply List.Mem.tail))); (case zwk3 => omega); (case zwk4 => omega); (case zwk5 => assumption); (case zwk7 => with_unfolding_all rfl); k_whole)))
                k_with "subscriptTail Subscript Call" => ((k_here; (with_reducible show wpAny _ _ (subscriptTail _ _ (Value.ref _) (Value.int _ _)) _ _ _); k_dflt (refine' sub_at ?zwk1 ?zwk2 ?zwk3 ?zwk4 ?zwk5 ?_ ?zwk7; (case zwk1 => k_asm); (case zwk2 => (repeat (first | assumption | exact List.Mem.head _ | apply List.Mem.tail))); (case zwk3 => omega); (case zwk4 => omega); (case zwk5 => assumption); (case zwk7 => with_unfolding_all rfl); k_whole)))
                k_with "subscriptTail Name Slice ref ref" => ((k_here; (with_reducible show wpAny _ _ (subscriptTail _ (PySem.Expr.Slice _ _ none _) (Value.ref _) (Value.ref _)) _ _ _); k_dflt (refine' kmk_slice_ints ?zwF ?zwN ?zwl ?zwp ?zwq ?zwi ?zwm ?zwc ?_ ?zws ?zwt ?zwz; (case zwF => k_asm); (case zwN => k_asm); (case zwl => exact News.isList (by k_asm) (by (repeat (first | assumption | exact List.Mem.head _ | apply List.Mem.tail)))); (case zwp => kmk_part); (case zwq => kmk_part); (case zwi => assumption); (case zwm => exact kmk_from_neg (by assumption) (by decide)); (case zwc => exact List.length_drop ..); (case zws => with_unfolding_all rfl); (case zwt => kmk_pure); (case zwz => (rw [PySem.sizeLine_eq]; simp only [List.size_toArray]; omega))); walk_at "pm10"))
                k_with "compareOp In ref ref" => ((k_here; refine stop_intro ?_))
                k_with "k_all" => (first | assumption | exact all_ne (by assumption) (by omega) | fail)
                have hjf : j < (fnd (rootOf ls look) []).length := by omega
                refine e1a1 ((⟨_, List.getElem?_eq_getElem hjf⟩ : ∃ x2, (fnd (rootOf ls look) [])[j]? = some x2)) fun x2 hx2 => ?_
                refine e1a2 (hfvC.get' hx2) fun v2 hv2 zt0 => ?_
                refine e4a3 (zt0) fun A2 k2 tb w2 ze1 hA2 zt2 => ?_
                clear zt0
                subst ze1
                refine e3a3 (zt2) fun Ab2 va2 ca2 ze3 hAb2 hpa2 => ?_
                clear zt2
                subst ze3
                have hv2' : fv[((j : Nat) : Int).toNat]? = some (.ref A2) := hv2
                have hA2X := hYX _ hA2
                have hAb2X := hYX _ hAb2
                have hAb1X := hYX _ hAb1
                have hFdX := hYX _ hFdC
                have hKpX := hYX _ hKpC
                have hDdX := hYX _ hDdC
                have off3 : ∀ p ∈ XX, p.1 ≠ I2 := fun p hp => off2 p (.tail _ hp)
                have hcI2 : @LT.lt Nat instLTNat (s1.heap.objs.size + 1 + 1) I2 := hltI2 _ (.head _)
                have N8' : News (ghostOf s1.heap [(124, 122), (146, 144)]) s1.heap.objs.size h2 ((I2, oI2) :: (A2, ({ cls := .type "tuple", data := .seq #[.int x2.1 tb, .ref Ab2] k2 } : Obj)) :: (s1.heap.objs.size + 1 + 1, od) :: XX) := news_pick N8 (by
                  intro p hp
                  simp only [List.mem_cons] at hp ⊢
                  rcases hp with rfl | rfl | rfl | hp
                  · exact .inl rfl
                  · exact .inr (.inr hA2X)
                  · exact .inr (.inl rfl)
                  · exact .inr (.inr hp))
                clear N8
                have hA2c : A2 ≠ s1.heap.objs.size + 1 + 1 := hXo _ hA2X
                (try k_fold)
                k_steps
                all_goals (try first | exact Str.ofString "" | exact (0 : Nat) | exact Value.none)
                refine stop_elim ?_
                (try k_fold)
                rename_i gO oO FO NO dO
                have NO' : News (ghostOf s1.heap [(124, 122), (146, 144)]) s1.heap.objs.size gO ((s1.heap.objs.size + 1 + 1, oO) :: (I2, oI2) :: XX) := news_pick NO (by
                  intro p hp
                  simp only [List.mem_cons] at hp ⊢
                  rcases hp with rfl | rfl | hp
                  · exact .inr (.inr (.inl rfl))
                  · exact .inl rfl
                  · exact .inr (.inr (.inr hp)))
                refine e1a1 ((⟨_, rfl⟩ : ∃ XZ, XZ = (I2, oI2) :: XX)) fun XZ hXZ => ?_
                rw [← hXZ] at NO'
                have hXZm : ∀ p ∈ XX, p ∈ XZ := fun p hp => by rw [hXZ]; exact .tail _ hp
                have hYZ : ∀ p ∈ YC, p ∈ XZ := fun p hp => hXZm p (hYX p hp)
                have hZo : ∀ p ∈ XZ, p.1 ≠ s1.heap.objs.size + 1 + 1 := by
                  rw [hXZ]
                  intro p hp
                  rcases List.mem_cons.mp hp with rfl | hp
                  · exact gtN hcI2
                  · exact hXo p hp
                have hAb1Z := hYZ _ hAb1
                have hAb2Z := hYZ _ hAb2
                have hKpZ := hYZ _ hKpC
                have hDdZ := hYZ _ hDdC
                clear NO
                (refine' compG_a ?e1_M14 ?e2_M14 ?e3_M14 ?e4_M14 ?e5_M14 ?e6_M14 ?e7_M14 ?e8_M14 ?e9_M14 ?_; (case e1_M14 => exact rfl); (case e2_M14 => with_unfolding_all rfl); (case e3_M14 => with_unfolding_all rfl); (case e4_M14 => decide); (case e5_M14 => rfl); (case e6_M14 => decide); (case e7_M14 => intro _; rfl); (case e8_M14 => rfl); (case e9_M14 => rfl))
                k_steps
                all_goals (try first | exact Str.ofString "" | exact (0 : Nat) | exact Value.none)
                refine stop_elim ?_
                (try k_fold)
                refine' src_list (ax := Ab1) (its := va1.toArray) (k := ca1) (news := (s1.heap.objs.size + 1 + 1, oO) :: XZ) rfl ?F_M14 ?N_M14 (.tail _ hAb1Z) ?_
                case F_M14 => k_asm
                case N_M14 => k_asm
                intro it9 s9 S9
                obtain ⟨g9, e9⟩ := srcAt_same S9
                subst e9
                have hpl1 := hpa1.len
                refine' CompG.pairs (fun i ys Y => Y = (s1.heap.objs.size + 1 + 1, oO) :: XZ ∧ IntsAre ys (lvl (x1.2.take i) x2.2)) (fun i x y => ∃ s l u1 u2, x = .int s u1 ∧ y = .int l u2 ∧ x1.2[i]? = some (s, l)) rfl rfl rfl (by decide) rfl S9 ?hsz_M14 ?j0_M14 ?hP_M14 ?turn_M14 ?hlen_M14 ?fin_M14
                case hsz_M14 => (have hab := root_abv hll hlf look x1 (List.mem_of_getElem? hx1)); rw [List.size_toArray, sizeLine_eq]; omega
                case j0_M14 => exact ⟨rfl, .nil⟩
                case hP_M14 =>
                  rintro i v hv
                  obtain ⟨⟨s, l⟩, hx, A9, k9, u1, u2, rfl, hA9⟩ := hpa1.get (arr_at hv)
                  exact ⟨A9, _, _, k9, rfl, .tail _ (hYZ _ hA9), s, l, u1, u2, rfl, rfl, hx⟩
                case hlen_M14 =>
                  intro i ys Y zr0
                  obtain ⟨_, ha⟩ := zr0
                  rw [ha.length]
                  unfold lvl
                  rw [List.length_map]
                  exact Nat.le_trans (List.length_filter_le _ _) (by rw [List.length_take]; omega)
                case turn_M14 =>
                  intro i x y ys Y I9 oI9 C9 oC9 D9 m9 h9 tk9 E9 hi9 zr0 zr1 hsub hoff hC9 hm9a hm9b F9 N9
                  (try dsimp only)
                  (try k_fold)
                  refine e4a3 (zr0) fun s l u1 u2 ze0 ze1 hsl9 => ?_
                  clear zr0
                  subst ze0
                  subst ze1
                  refine a2 (zr1) fun ze0 ha => ?_
                  clear zr1
                  subst ze0
                  k_with_none
                  w_top off
                  k_with "storeName" => ((k_here; k_dflt (refine' storeX_Lf ?zweg ?zwed ?zweo ?zwet ?zwF ?zwN ?_ ?zwa ?zwb; (case zweg => dsimp only); (case zwed => dsimp only); (case zweo => dsimp only); (case zwet => dsimp only); (case zwF => k_asm); (case zwN => k_asm); (case zwa => rfl); (case zwb => rfl); k_whole; walk_at "pm0"; (try k_sweep))))
                  k_with "tb_start" => (k_dflt (first
                  | (refine' code_def ?zwk1 ?zwk2 ?zwk3 ?zwk4 ?zwk5 ?zwkA ?zwkF ?zwkK ?zwk6 ?zwk7 ?zwk8 ?zwk9 ?zwkB ?_ ?zwc2 ?zwc3 ?zwc4 ?zwc5; (case zwkA => exact rfl); (case zwkF => exact rfl); (case zwkK => first | assumption | exact rfl); (case zwk1 => k_asm); (case zwk2 => k_asm); (case zwk3 => k_asm); (case zwk4 => k_asm); (case zwk5 => k_asm); (case zwk6 => k_is); (case zwk7 => k_is); (case zwk8 => ktr_room); (case zwk9 => first | exact BindsTo.of_eq rfl | (refine' kp_binds ?zwkx ?zwke; (case zwkx => k_in); (case zwke => exact fun _ => rfl))); (case zwc5 => decide); (case zwkB => exact locs rfl); (case zwc2 => exact rfl); (case zwc3 => exact rfl); (case zwc4 => exact rfl); k_whole; walk_at "pm1"; (try dsimp only); (try k_fold))
                  | (refine' code_defC ?zwk1 ?zwk2 ?zwk3 ?zwk4 ?zwk5 ?zwkA ?zwkF ?zwkK ?zwk6 ?zwk7 ?zwk8 ?zwk9 ?zwkB ?zwkD ?_ ?zwc2 ?zwc3 ?zwc4; (case zwkA => exact rfl); (case zwkF => exact rfl); (case zwkK => first | assumption | exact rfl); (case zwk1 => k_asm); (case zwk2 => k_asm); (case zwk3 => k_asm); (case zwk4 => k_asm); (case zwk5 => k_asm); (case zwk6 => k_is); (case zwk7 => k_is); (case zwk8 => ktr_room); (case zwk9 => first | exact BindsTo.of_eq rfl | (refine' kp_binds ?zwkx ?zwke; (case zwkx => k_in); (case zwke => exact fun _ => rfl))); (case zwkB => exact rfl); (case zwkD => decide +kernel); (case zwc2 => exact rfl); (case zwc3 => exact rfl); (case zwc4 => exact rfl); k_whole; walk_at "pm2"; (try dsimp only); (try k_fold))))
                  k_with "k_all" => (first | assumption | exact all_ne (by assumption) (by omega) | fail)
                  k_with "call ref" => ((k_here; refine stop_intro ?_))
                  k_with "k_all" => (first | assumption | (refine' List.forall_mem_cons.mpr ⟨?zwkza, ?zwkzb⟩; (case zwkza => (try dsimp only); first | assumption | exact ltN (by omega) | exact gtN (by omega) | fail); (case zwkzb => k_all)) | exact all_ne (by assumption) (by omega) | fail)
                  k_with "loadName" => ((k_here; k_dflt (refine' ldn ?zwk1 ?zwk2 ?_; (case zwk1 => k_asm); (case zwk2 => (repeat (first | assumption | exact if_pos rfl | refine' (if_neg (by decide)).trans ?_))))))
                  k_with "eval Name" => ((k_here; name_kind "local"; k_dflt (refine' ld ?zwk1 ?zwk2 ?_; (case zwk1 => k_asm); (case zwk2 => (repeat (first | assumption | exact if_pos rfl | refine' (if_neg (by decide)).trans ?_))); k_whole)))
                  k_with "pyIter ref" => ((k_here; refine stop_intro ?_))
                  k_with "exec For" => ((k_here; k_dflt (refine' for_ruleL ?zwhF ?zwhs ?_; (case zwhF => k_asm); (case zwhs => intro _; rfl))))
                  k_with "exec For Name Name cons nil" => ((k_here; k_dflt (refine' for_ruleL ?zwhF ?zwhs ?_; (case zwhF => k_asm); (case zwhs => intro _; rfl))))
                  k_with "exec For Name Subscript cons nil" => ((k_here; k_dflt (refine' for_ruleL ?zwhF ?zwhs ?_; (case zwhF => k_asm); (case zwhs => intro _; rfl))))
                  k_with "exec For Name Call cons nil" => ((k_here; k_dflt (refine' for_ruleL ?zwhF ?zwhs ?_; (case zwhF => k_asm); (case zwhs => intro _; rfl))))
                  k_with "exec For Tuple Name cons nil" => ((k_here; k_dflt (refine' for_ruleL ?zwhF ?zwhs ?_; (case zwhF => k_asm); (case zwhs => intro _; rfl))))
                  k_with "exec For Tuple" => ((k_here; k_dflt (refine' for_ruleL ?zwhF ?zwhs ?_; (case zwhF => k_asm); (case zwhs => intro _; rfl))))
                  k_with "call builtin:len" => ((k_here; (with_reducible show wpAny _ _ (call (Value.builtin _) [Value.ref _]) _ _ _); k_dflt (refine' len_at ?zwk1 ?zwk2 ?zwk3 ?_; (case zwk1 => k_asm); (case zwk2 => (repeat (first | assumption | exact List.Mem.head _ | apply List.Mem.tail))); (case zwk3 => omega); walk_at "pm3")))
                  k_with "subscriptTail Name Name ref int" => ((k_here; (with_reducible show wpAny _ _ (subscriptTail _ _ (Value.ref _) (Value.int _ _)) _ _ _); k_dflt (refine' sub_at ?zwk1 ?zwk2 ?zwk3 ?zwk4 ?zwk5 ?_ ?zwk7; (case zwk1 => k_asm); (case zwk2 => (repeat (first | assumption | exact List.Mem.head _ | apply List.Mem.tail))); (case zwk3 => omega); (case zwk4 => omega); (case zwk5 => assumption); (case zwk7 => with_unfolding_all rfl); k_whole)))
                  k_with "FnAt" => ((k_dflt (exact FnAt.of (by k_asm) (by first | assumption | k_mem))))
                  k_with "callWith ref" => ((k_here; k_dflt (refine' callWith_F ?zwk1 ?_; (case zwk1 => exact FnAt.of (by k_asm) (by first | assumption | k_mem)); k_whole)))
                  k_with "And" => (((with_reducible show FnAt _ _ ∧ _); k_dflt (refine ⟨FnAt.of (by k_asm) (by first | assumption | k_mem), ?_⟩); (try dsimp only [List.nil_append, List.cons_append])))
                  k_with "exec Assign cons ListComp" => ((k_here; refine stop_intro ?_))
                  k_with "eval Name" => ((k_here; name_kind "free"; k_dflt (refine' lcf_cell ?zwN ?zwc ?zwm ?zwd ?_ ?zwa ?zwb; (case zwa => rfl); (case zwb => rfl); (case zwN => k_asm); (case zwc => rfl); (case zwm => (repeat (first | assumption | apply List.Mem.tail))); (case zwd => assumption); k_whole)))
                  k_with "eval Name" => ((k_here; name_kind "cell"; k_dflt (refine' nameX_C ?zwN ?zwc ?zwm ?zwd ?_ ?zwa ?zwb; (case zwa => rfl); (case zwb => rfl); (case zwN => k_asm); (case zwc => rfl); (case zwm => (repeat (first | assumption | exact List.Mem.head _ | apply List.Mem.tail))); (case zwd => assumption); k_whole)))
                  k_with "compareOp In ref ref" => ((k_here; refine stop_intro ?_))
                  k_with "k_all" => (first | assumption | exact all_ne (by assumption) (by omega) | fail)
                  have hL1 : lvl (x1.2.take (i + 1)) x2.2 = lvl (x1.2.take i) x2.2 ++ (if (s, l) ∈ x2.2 then [l] else []) := by
                    unfold lvl
                    rw [take_snoc hsl9, List.filter_append, List.map_append]
                    by_cases hm : (s, l) ∈ x2.2
                    · rw [if_pos hm]; simp [hm]
                    · rw [if_neg hm]; simp [hm]
                  refine wpAny_tests_one ?_
                  (try k_fold)
                  k_steps
                  all_goals (try first | exact Str.ofString "" | exact (0 : Nat) | exact Value.none)
                  refine stop_elim ?_
                  (try k_fold)
                  rename_i DT gT FT NT lT
                  refine' in_pairs (x := (s, l)) (ys := x2.2) ?pN_M15 ?pu_M15 ?pl_M15 ?pa_M15 ?pD_M15 ?_
                  case pN_M15 => exact NT
                  case pu_M15 => ktr_units
                  case pl_M15 => exact .tail _ (.tail _ (.tail _ (.tail _ (.tail _ hAb2Z))))
                  case pa_M15 => exact hpa2.imp (PairAt.mono fun p hp => .tail _ (.tail _ (.tail _ (.tail _ (.tail _ (hYZ p hp))))))
                  case pD_M15 => exact ⟨DT, 0, u1, u2, rfl, .head _⟩
                  by_cases hmem : (s, l) ∈ x2.2
                  · rw [if_pos hmem] at hL1
                    rw [decide_eq_true hmem]
                    (try k_fold)
                    k_steps
                    all_goals (try first | exact Str.ofString "" | exact (0 : Nat) | exact Value.none)
                    all_goals (exact TurnE.intro _ (by k_asm) (by k_asm) (fun p hp => .tail _ hp) hsub hoff ⟨rfl, by rw [hL1]; exact PyProof.Rows.IntsAre.append ha (.cons _ _ .nil)⟩)
                  · rw [if_neg hmem, List.append_nil] at hL1
                    rw [decide_eq_false hmem]
                    (try k_fold)
                    k_steps
                    all_goals (try first | exact Str.ofString "" | exact (0 : Nat) | exact Value.none)
                    all_goals (exact TurnS.intro _ (by k_asm) (by k_asm) (fun p hp => .tail _ hp) hsub hoff ⟨rfl, by rw [hL1]; exact ha⟩)
                case fin_M14 =>
                  intro Dl yl Y zr0 hsub hoff hlt h9 tk9 F9 N9
                  (try dsimp only)
                  (try k_fold)
                  obtain ⟨rfl, hyl⟩ := zr0
                  rw [List.size_toArray, hpl1, List.take_length] at hyl
                  k_with_none
                  w_top off
                  k_with "storeName" => ((k_here; k_dflt (refine' storeX_Lf ?zweg ?zwed ?zweo ?zwet ?zwF ?zwN ?_ ?zwa ?zwb; (case zweg => dsimp only); (case zwed => dsimp only); (case zweo => dsimp only); (case zwet => dsimp only); (case zwF => k_asm); (case zwN => k_asm); (case zwa => rfl); (case zwb => rfl); k_whole; walk_at "pm0"; (try k_sweep))))
                  k_with "tb_start" => (k_dflt (first
                  | (refine' code_def ?zwk1 ?zwk2 ?zwk3 ?zwk4 ?zwk5 ?zwkA ?zwkF ?zwkK ?zwk6 ?zwk7 ?zwk8 ?zwk9 ?zwkB ?_ ?zwc2 ?zwc3 ?zwc4 ?zwc5; (case zwkA => exact rfl); (case zwkF => exact rfl); (case zwkK => first | assumption | exact rfl); (case zwk1 => k_asm); (case zwk2 => k_asm); (case zwk3 => k_asm); (case zwk4 => k_asm); (case zwk5 => k_asm); (case zwk6 => k_is); (case zwk7 => k_is); (case zwk8 => ktr_room); (case zwk9 => first | exact BindsTo.of_eq rfl | (refine' kp_binds ?zwkx ?zwke; (case zwkx => k_in); (case zwke => exact fun _ => rfl))); (case zwc5 => decide); (case zwkB => exact locs rfl); (case zwc2 => exact rfl); (case zwc3 => exact rfl); (case zwc4 => exact rfl); k_whole; walk_at "pm1"; (try dsimp only); (try k_fold))
                  | (refine' code_defC ?zwk1 ?zwk2 ?zwk3 ?zwk4 ?zwk5 ?zwkA ?zwkF ?zwkK ?zwk6 ?zwk7 ?zwk8 ?zwk9 ?zwkB ?zwkD ?_ ?zwc2 ?zwc3 ?zwc4; (case zwkA => exact rfl); (case zwkF => exact rfl); (case zwkK => first | assumption | exact rfl); (case zwk1 => k_asm); (case zwk2 => k_asm); (case zwk3 => k_asm); (case zwk4 => k_asm); (case zwk5 => k_asm); (case zwk6 => k_is); (case zwk7 => k_is); (case zwk8 => ktr_room); (case zwk9 => first | exact BindsTo.of_eq rfl | (refine' kp_binds ?zwkx ?zwke; (case zwkx => k_in); (case zwke => exact fun _ => rfl))); (case zwkB => exact rfl); (case zwkD => decide +kernel); (case zwc2 => exact rfl); (case zwc3 => exact rfl); (case zwc4 => exact rfl); k_whole; walk_at "pm2"; (try dsimp only); (try k_fold))))
                  k_with "k_all" => (first | assumption | exact all_ne (by assumption) (by omega) | fail)
                  k_with "call ref" => ((k_here; refine stop_intro ?_))
                  k_with "k_all" => (first | assumption | (refine' List.forall_mem_cons.mpr ⟨?zwkza, ?zwkzb⟩; (case zwkza => (try dsimp only); first | assumption | exact ltN (by omega) | exact gtN (by omega) | fail); (case zwkzb => k_all)) | exact all_ne (by assumption) (by omega) | fail)
                  k_with "loadName" => ((k_here; k_dflt (refine' ldn ?zwk1 ?zwk2 ?_; (case zwk1 => k_asm); (case zwk2 => (repeat (first | assumption | exact if_pos rfl | refine' (if_neg (by decide)).trans ?_))))))
                  k_with "eval Name" => ((k_here; name_kind "local"; k_dflt (refine' ld ?zwk1 ?zwk2 ?_; (case zwk1 => k_asm); (case zwk2 => (repeat (first | assumption | exact if_pos rfl | refine' (if_neg (by decide)).trans ?_))); k_whole)))
                  k_with "pyIter ref" => ((k_here; refine stop_intro ?_))
                  k_with "exec For" => ((k_here; k_dflt (refine' for_ruleL ?zwhF ?zwhs ?_; (case zwhF => k_asm); (case zwhs => intro _; rfl))))
                  k_with "exec For Name Name cons nil" => ((k_here; k_dflt (refine' for_ruleL ?zwhF ?zwhs ?_; (case zwhF => k_asm); (case zwhs => intro _; rfl))))
                  k_with "exec For Name Subscript cons nil" => ((k_here; k_dflt (refine' for_ruleL ?zwhF ?zwhs ?_; (case zwhF => k_asm); (case zwhs => intro _; rfl))))
                  k_with "exec For Name Call cons nil" => ((k_here; k_dflt (refine' for_ruleL ?zwhF ?zwhs ?_; (case zwhF => k_asm); (case zwhs => intro _; rfl))))
                  k_with "exec For Tuple Name cons nil" => ((k_here; k_dflt (refine' for_ruleL ?zwhF ?zwhs ?_; (case zwhF => k_asm); (case zwhs => intro _; rfl))))
                  k_with "exec For Tuple" => ((k_here; k_dflt (refine' for_ruleL ?zwhF ?zwhs ?_; (case zwhF => k_asm); (case zwhs => intro _; rfl))))
                  k_with "call builtin:len" => ((k_here; (with_reducible show wpAny _ _ (call (Value.builtin _) [Value.ref _]) _ _ _); k_dflt (refine' len_at ?zwk1 ?zwk2 ?zwk3 ?_; (case zwk1 => k_asm); (case zwk2 => (repeat (first | assumption | exact List.Mem.head _ | apply List.Mem.tail))); (case zwk3 => omega); walk_at "pm3")))
                  k_with "subscriptTail Name Name ref int" => ((k_here; (with_reducible show wpAny _ _ (subscriptTail _ _ (Value.ref _) (Value.int _ _)) _ _ _); k_dflt (refine' sub_at ?zwk1 ?zwk2 ?zwk3 ?zwk4 ?zwk5 ?_ ?zwk7; (case zwk1 => k_asm); (case zwk2 => (repeat (first | assumption | exact List.Mem.head _ | apply List.Mem.tail))); (case zwk3 => omega); (case zwk4 => omega); (case zwk5 => assumption); (case zwk7 => with_unfolding_all rfl); k_whole)))
                  k_with "FnAt" => ((k_dflt (exact FnAt.of (by k_asm) (by first | assumption | k_mem))))
                  k_with "callWith ref" => ((k_here; k_dflt (refine' callWith_F ?zwk1 ?_; (case zwk1 => exact FnAt.of (by k_asm) (by first | assumption | k_mem)); k_whole)))
                  k_with "And" => (((with_reducible show FnAt _ _ ∧ _); k_dflt (refine ⟨FnAt.of (by k_asm) (by first | assumption | k_mem), ?_⟩); (try dsimp only [List.nil_append, List.cons_append])))
                  k_with "exec Assign cons ListComp" => ((k_here; refine stop_intro ?_))
                  k_with "eval Name" => ((k_here; name_kind "free"; k_dflt (refine' lcf_cell ?zwN ?zwc ?zwm ?zwd ?_ ?zwa ?zwb; (case zwa => rfl); (case zwb => rfl); (case zwN => k_asm); (case zwc => rfl); (case zwm => (repeat (first | assumption | apply List.Mem.tail))); (case zwd => assumption); k_whole)))
                  k_with "eval Name" => ((k_here; name_kind "cell"; k_dflt (refine' nameX_C ?zwN ?zwc ?zwm ?zwd ?_ ?zwa ?zwb; (case zwa => rfl); (case zwb => rfl); (case zwN => k_asm); (case zwc => rfl); (case zwm => (repeat (first | assumption | exact List.Mem.head _ | apply List.Mem.tail))); (case zwd => assumption); k_whole)))
                  k_with "call ref" => ((k_here; (with_reducible show wpAny _ _ (call (Value.ref 50) [Value.ref _, Value.int _ _]) _ _ _); k_dflt (refine' Call1.useI (bisL_call _ _ _ _ _ _ _ _ ?zwhl ?zwhi ?zwhn ?zwhs) ?zwk1 ?zwk2 ?zwk3 ?zwk4 ?zwk5 ?zwkK ?zwkd ?zwku ?_; (case zwk1 => k_asm); (case zwk2 => k_asm); (case zwk3 => k_asm); (case zwk4 => k_asm); (case zwk5 => k_asm); (case zwkK => first | exact rfl | assumption); (case zwhl => (repeat (first | assumption | exact List.Mem.head _ | apply List.Mem.tail))); (case zwhi => assumption); (case zwhn => omega); (case zwhs => assumption); (case zwkd => ktr_room); (case zwku => ktr_units); walk_at "pm4"; (try dsimp only); (try k_fold))))
                  k_with "subscriptTail" => ((k_here; (with_reducible show wpAny _ _ (subscriptTail _ _ (Value.ref _) (Value.int _ _)) _ _ _); k_dflt (refine' sub_at ?zwk1 ?zwk2 ?zwk3 ?zwk4 ?zwk5 ?_ ?zwk7; (case zwk1 => k_asm); (case zwk2 => (repeat (first | assumption | exact List.Mem.head _ | apply List.Mem.tail))); (case zwk3 => omega); (case zwk4 => omega); (case zwk5 => assumption); (case zwk7 => with_unfolding_all rfl); k_whole)))
                  k_with "subscriptTail Name Call ref int" => ((k_here; (with_reducible show wpAny _ _ (subscriptTail _ _ (Value.ref _) (Value.int _ _)) _ _ _); k_dflt (refine' sub_at ?zwk1 ?zwk2 ?zwk3 ?zwk4 ?zwk5 ?_ ?zwk7; (case zwk1 => k_asm); (case zwk2 => (repeat (first | assumption | exact List.Mem.head _ | apply List.Mem.tail))); (case zwk3 => omega); (case zwk4 => omega); (case zwk5 => assumption); (case zwk7 => with_unfolding_all rfl); k_whole)))
                  k_with "subscriptTail Subscript Call ref int" => ((k_here; (with_reducible show wpAny _ _ (subscriptTail _ _ (Value.ref _) (Value.int _ _)) _ _ _); k_dflt (refine' sub_at ?zwk1 ?zwk2 ?zwk3 ?zwk4 ?zwk5 ?_ ?zwk7; (case zwk1 => k_asm); (case zwk2 => (repeat (first | assumption | exact List.Mem.head _ | apply List.Mem.tail))); (case zwk3 => omega); (case zwk4 => omega); (case zwk5 => assumption); (case zwk7 => with_unfolding_all rfl); k_whole)))
                  k_with "subscriptTail Subscript Call" => ((k_here; (with_reducible show wpAny _ _ (subscriptTail _ _ (Value.ref _) (Value.int _ _)) _ _ _); k_dflt (refine' sub_at ?zwk1 ?zwk2 ?zwk3 ?zwk4 ?zwk5 ?_ ?zwk7; (case zwk1 => k_asm); (case zwk2 => (repeat (first | assumption | exact List.Mem.head _ | apply List.Mem.tail))); (case zwk3 => omega); (case zwk4 => omega); (case zwk5 => assumption); (case zwk7 => with_unfolding_all rfl); k_whole)))
                  k_with "subscriptTail Name Slice ref ref" => ((k_here; (with_reducible show wpAny _ _ (subscriptTail _ (PySem.Expr.Slice _ _ none _) (Value.ref _) (Value.ref _)) _ _ _); k_dflt (refine' kmk_slice_ints ?zwF ?zwN ?zwl ?zwp ?zwq ?zwi ?zwm ?zwc ?_ ?zws ?zwt ?zwz; (case zwF => k_asm); (case zwN => k_asm); (case zwl => exact News.isList (by k_asm) (by (repeat (first | assumption | exact List.Mem.head _ | apply List.Mem.tail)))); (case zwp => kmk_part); (case zwq => kmk_part); (case zwi => assumption); (case zwm => exact kmk_from_neg (by assumption) (by decide)); (case zwc => exact List.length_drop ..); (case zws => with_unfolding_all rfl); (case zwt => kmk_pure); (case zwz => (rw [PySem.sizeLine_eq]; simp only [List.size_toArray]; omega))); walk_at "pm10"))
                  k_with "compareOp NotEq ref ref" => ((k_here; refine stop_intro ?_))
                  k_with "k_all" => (first | assumption | exact all_ne (by assumption) (by omega) | fail)
                  have hm1 : x1.1 ∈ ls := hrlv.mem_iff.mp (List.mem_map_of_mem (List.mem_of_getElem? hx1))
                  have hm2 : x2.1 ∈ ls := hrlv.mem_iff.mp (List.mem_map_of_mem (List.mem_of_getElem? hx2))
                  have hj1 : cL (kept ls) x1.1 < ls.length := by have := cL_lt ((kept_perm ls).mem_iff.mpr hm1); omega
                  have hj2 : cL (kept ls) x2.1 < ls.length := by have := cL_lt ((kept_perm ls).mem_iff.mpr hm2); omega
                  have hsq : Sq ls.length (fwB ls.length ((kept ls).map fun a => (kept ls).map (price a)) ls.length) := sq_fwB (by have := sq_prices (ls := kept ls); rw [kept_len] at this; exact this) _
                  rw [hkln] at hrows
                  obtain ⟨ar, vr, cr, hr1, hr2, hr3⟩ := hrows.at_ hsq hj1
                  obtain ⟨tr9, hr4⟩ := hr3 _ hj2
                  have hrt := root_lvl hll hlf look hj9 hx1 hx2
                  have hlv9 := IntsAre.length hyl
                  have hab := root_abv hll hlf look x1 (List.mem_of_getElem? hx1)
                  have hll9 : (lvl x1.2 x2.2).length ≤ 30 := by unfold lvl; rw [List.length_map]; exact Nat.le_trans (List.length_filter_le _ _) hab
                  have hrZ := hYZ _ hr2
                  have hkk9 := kept_srt ls
                  have hkn9 : (kept ls).length < 1000 := by omega
                  clear hr3 hrows hsq
                  (try k_fold)
                  k_steps
                  all_goals (try first | exact Str.ofString "" | exact (0 : Nat) | exact Value.none)
                  refine stop_elim ?_
                  (try k_fold)
                  rename_i Ds ws gs Fs Ns hIs hCs hLs ls1 h9a tk9a t9a qka eka h9b tk9b t9b Dn gn Fn Nn ln
                  have hIs' : IntsAre ws [gm (fwB ls.length ((kept ls).map fun a => (kept ls).map (price a)) ls.length) (cL (kept ls) x1.1) (cL (kept ls) x2.1)] := by rw [← hrt]; exact hIs
                  have hNs : IntsAre [Value.int (gm (fwB ls.length ((kept ls).map fun a => (kept ls).map (price a)) ls.length) (cL (kept ls) x1.1) (cL (kept ls) x2.1)) tr9] [gm (fwB ls.length ((kept ls).map fun a => (kept ls).map (price a)) ls.length) (cL (kept ls) x1.1) (cL (kept ls) x2.1)] := .cons _ _ .nil
                  refine' ke_ne_ints ?pl_M16 ?pm_M16 hIs' hNs ?pu_M16 ?_
                  case pl_M16 => exact list_is Nn (.tail _ (.head _))
                  case pm_M16 => exact list_is (k := 0) Nn (.head _)
                  case pu_M16 => ktr_units
                  rw [decide_eq_true rfl]
                  (try k_fold)
                  k_steps
                  all_goals (try first | exact Str.ofString "" | exact (0 : Nat) | exact Value.none)
                  refine ForEnd.intro ((s1.heap.objs.size + 1 + 1, oO) :: XX) (by k_asm) Nn ?za_M16 ?zb_M16 ⟨oO, _, rfl, dO, ⟨by (repeat (first | assumption | exact if_pos rfl | refine' (if_neg (by decide)).trans ?_)), by (repeat (first | assumption | exact if_pos rfl | refine' (if_neg (by decide)).trans ?_)), by (repeat (first | assumption | exact if_pos rfl | refine' (if_neg (by decide)).trans ?_))⟩, by (repeat (first | assumption | exact if_pos rfl | refine' (if_neg (by decide)).trans ?_)), by (repeat (first | assumption | exact if_pos rfl | refine' (if_neg (by decide)).trans ?_))⟩
                  case za_M16 =>
                    rw [hXZ]
                    intro p hp
                    simp only [List.mem_cons] at hp ⊢
                    rcases hp with rfl | rfl | hp
                    · exact .inr (.inr (.inr (.inr (.inl rfl))))
                    · exact .inr (.inr (.inr (.inl rfl)))
                    · exact .inr (.inr (.inr (.inr (.inr hp))))
                  case zb_M16 =>
                    intro p hp
                    rcases List.mem_cons.mp hp with rfl | hp
                    · exact ltN hcI2
                    · exact off3 p hp
              case jd_M13 =>
                intro h2 tk2 m8 nw zr0 F8 N8
                (try dsimp only)
                (try k_fold)
                refine e2a5 (zr0) fun od vd ze0 dod zt1 hm8d hm8e => ?_
                clear zr0
                subst ze0
                refine a3 (zt1) fun hm8a hm8b hm8c => ?_
                clear zt1
                k_with_none
                w_top off
                k_with "storeName" => ((k_here; k_dflt (refine' storeX_Lf ?zweg ?zwed ?zweo ?zwet ?zwF ?zwN ?_ ?zwa ?zwb; (case zweg => dsimp only); (case zwed => dsimp only); (case zweo => dsimp only); (case zwet => dsimp only); (case zwF => k_asm); (case zwN => k_asm); (case zwa => rfl); (case zwb => rfl); k_whole; walk_at "pm0"; (try k_sweep))))
                k_with "tb_start" => (k_dflt (first
              | (refine' code_def ?zwk1 ?zwk2 ?zwk3 ?zwk4 ?zwk5 ?zwkA ?zwkF ?zwkK ?zwk6 ?zwk7 ?zwk8 ?zwk9 ?zwkB ?_ ?zwc2 ?zwc3 ?zwc4 ?zwc5; (case zwkA => exact rfl); (case zwkF => exact rfl); (case zwkK => first | assumption | exact rfl); (case zwk1 => k_asm); (case zwk2 => k_asm); (case zwk3 => k_asm); (case zwk4 => k_asm); (case zwk5 => k_asm); (case zwk6 => k_is); (case zwk7 => k_is); (case zwk8 => ktr_room); (case zwk9 => first | exact BindsTo.of_eq rfl | (refine' kp_binds ?zwkx ?zwke; (case zwkx => k_in); (case zwke => exact fun _ => rfl))); (case zwc5 => decide); (case zwkB => exact locs rfl); (case zwc2 => exact rfl); (case zwc3 => exact rfl); (case zwc4 => exact rfl); k_whole; walk_at "pm1"; (try dsimp only); (try k_fold))
              | (refine' code_defC ?zwk1 ?zwk2 ?zwk3 ?zwk4 ?zwk5 ?zwkA ?zwkF ?zwkK ?zwk6 ?zwk7 ?zwk8 ?zwk9 ?zwkB ?zwkD ?_ ?zwc2 ?zwc3 ?zwc4; (case zwkA => exact rfl); (case zwkF => exact rfl); (case zwkK => first | assumption | exact rfl); (case zwk1 => k_asm); (case zwk2 => k_asm); (case zwk3 => k_asm); (case zwk4 => k_asm); (case zwk5 => k_asm); (case zwk6 => k_is); (case zwk7 => k_is); (case zwk8 => ktr_room); (case zwk9 => first | exact BindsTo.of_eq rfl | (refine' kp_binds ?zwkx ?zwke; (case zwkx => k_in); (case zwke => exact fun _ => rfl))); (case zwkB => exact rfl); (case zwkD => decide +kernel); (case zwc2 => exact rfl); (case zwc3 => exact rfl); (case zwc4 => exact rfl); k_whole; walk_at "pm2"; (try dsimp only); (try k_fold))))
                k_with "k_all" => (first | assumption | exact all_ne (by assumption) (by omega) | fail)
                k_with "call ref" => ((k_here; refine stop_intro ?_))
                k_with "k_all" => (first | assumption | (refine' List.forall_mem_cons.mpr ⟨?zwkza, ?zwkzb⟩; (case zwkza => (try dsimp only); first | assumption | exact ltN (by omega) | exact gtN (by omega) | fail); (case zwkzb => k_all)) | exact all_ne (by assumption) (by omega) | fail)
                k_with "loadName" => ((k_here; k_dflt (refine' ldn ?zwk1 ?zwk2 ?_; (case zwk1 => k_asm); (case zwk2 => (repeat (first | assumption | exact if_pos rfl | refine' (if_neg (by decide)).trans ?_))))))
                k_with "eval Name" => ((k_here; name_kind "local"; k_dflt (refine' ld ?zwk1 ?zwk2 ?_; (case zwk1 => k_asm); (case zwk2 => (repeat (first | assumption | exact if_pos rfl | refine' (if_neg (by decide)).trans ?_))); k_whole)))
                k_with "pyIter ref" => ((k_here; refine stop_intro ?_))
                k_with "exec For" => ((k_here; k_dflt (refine' for_ruleL ?zwhF ?zwhs ?_; (case zwhF => k_asm); (case zwhs => intro _; rfl))))
                k_with "exec For Name Name cons nil" => ((k_here; k_dflt (refine' for_ruleL ?zwhF ?zwhs ?_; (case zwhF => k_asm); (case zwhs => intro _; rfl))))
                k_with "exec For Name Subscript cons nil" => ((k_here; k_dflt (refine' for_ruleL ?zwhF ?zwhs ?_; (case zwhF => k_asm); (case zwhs => intro _; rfl))))
                k_with "exec For Name Call cons nil" => ((k_here; k_dflt (refine' for_ruleL ?zwhF ?zwhs ?_; (case zwhF => k_asm); (case zwhs => intro _; rfl))))
                k_with "exec For Tuple Name cons nil" => ((k_here; k_dflt (refine' for_ruleL ?zwhF ?zwhs ?_; (case zwhF => k_asm); (case zwhs => intro _; rfl))))
                k_with "exec For Tuple" => ((k_here; k_dflt (refine' for_ruleL ?zwhF ?zwhs ?_; (case zwhF => k_asm); (case zwhs => intro _; rfl))))
                k_with "call builtin:len" => ((k_here; (with_reducible show wpAny _ _ (call (Value.builtin _) [Value.ref _]) _ _ _); k_dflt (refine' len_at ?zwk1 ?zwk2 ?zwk3 ?_; (case zwk1 => k_asm); (case zwk2 => (repeat (first | assumption | exact List.Mem.head _ | apply List.Mem.tail))); (case zwk3 => omega); walk_at "pm3")))
                k_with "subscriptTail Name Name ref int" => ((k_here; (with_reducible show wpAny _ _ (subscriptTail _ _ (Value.ref _) (Value.int _ _)) _ _ _); k_dflt (refine' sub_at ?zwk1 ?zwk2 ?zwk3 ?zwk4 ?zwk5 ?_ ?zwk7; (case zwk1 => k_asm); (case zwk2 => (repeat (first | assumption | exact List.Mem.head _ | apply List.Mem.tail))); (case zwk3 => omega); (case zwk4 => omega); (case zwk5 => assumption); (case zwk7 => with_unfolding_all rfl); k_whole)))
                k_with "FnAt" => ((k_dflt (exact FnAt.of (by k_asm) (by first | assumption | k_mem))))
                k_with "callWith ref" => ((k_here; k_dflt (refine' callWith_F ?zwk1 ?_; (case zwk1 => exact FnAt.of (by k_asm) (by first | assumption | k_mem)); k_whole)))
                k_with "And" => (((with_reducible show FnAt _ _ ∧ _); k_dflt (refine ⟨FnAt.of (by k_asm) (by first | assumption | k_mem), ?_⟩); (try dsimp only [List.nil_append, List.cons_append])))
                k_with "exec Assign cons ListComp" => ((k_here; refine stop_intro ?_))
                k_with "eval Name" => ((k_here; name_kind "free"; k_dflt (refine' lcf_cell ?zwN ?zwc ?zwm ?zwd ?_ ?zwa ?zwb; (case zwa => rfl); (case zwb => rfl); (case zwN => k_asm); (case zwc => rfl); (case zwm => (repeat (first | assumption | apply List.Mem.tail))); (case zwd => assumption); k_whole)))
                k_with "eval Name" => ((k_here; name_kind "cell"; k_dflt (refine' nameX_C ?zwN ?zwc ?zwm ?zwd ?_ ?zwa ?zwb; (case zwa => rfl); (case zwb => rfl); (case zwN => k_asm); (case zwc => rfl); (case zwm => (repeat (first | assumption | exact List.Mem.head _ | apply List.Mem.tail))); (case zwd => assumption); k_whole)))
                k_with "k_all" => (first | assumption | exact all_ne (by assumption) (by omega) | fail)
                (try k_fold)
                k_steps
                all_goals (try first | exact Str.ofString "" | exact (0 : Nat) | exact Value.none)
                refine ForEnd.intro ((s1.heap.objs.size + 1 + 1, od) :: YC) F8 N8 ?za_M13 ?zb_M13 ⟨od, _, rfl, dod, hm8a, hm8b, hm8c⟩
                case za_M13 =>
                  rw [hXX]
                  intro p hp
                  simp only [List.mem_cons] at hp ⊢
                  rcases hp with rfl | rfl | hp
                  · exact .inr (.inl rfl)
                  · exact .inl rfl
                  · exact .inr (.inr hp)
                case zb_M13 =>
                  intro p hp
                  rcases List.mem_cons.mp hp with rfl | hp
                  · exact ltN hcI
                  · exact offI p hp
            case jd_M12 =>
              intro h tk m7 nw zr0 F9 N9
              (try dsimp only)
              (try k_fold)
              refine e2a5 (zr0) fun oc vc ze0 doc hm7a hm7b hm7c => ?_
              clear zr0
              subst ze0
              k_with_none
              w_top off
              k_with "storeName" => ((k_here; k_dflt (refine' storeX_Lf ?zweg ?zwed ?zweo ?zwet ?zwF ?zwN ?_ ?zwa ?zwb; (case zweg => dsimp only); (case zwed => dsimp only); (case zweo => dsimp only); (case zwet => dsimp only); (case zwF => k_asm); (case zwN => k_asm); (case zwa => rfl); (case zwb => rfl); k_whole; walk_at "pm0"; (try k_sweep))))
              k_with "tb_start" => (k_dflt (first
              | (refine' code_def ?zwk1 ?zwk2 ?zwk3 ?zwk4 ?zwk5 ?zwkA ?zwkF ?zwkK ?zwk6 ?zwk7 ?zwk8 ?zwk9 ?zwkB ?_ ?zwc2 ?zwc3 ?zwc4 ?zwc5; (case zwkA => exact rfl); (case zwkF => exact rfl); (case zwkK => first | assumption | exact rfl); (case zwk1 => k_asm); (case zwk2 => k_asm); (case zwk3 => k_asm); (case zwk4 => k_asm); (case zwk5 => k_asm); (case zwk6 => k_is); (case zwk7 => k_is); (case zwk8 => ktr_room); (case zwk9 => first | exact BindsTo.of_eq rfl | (refine' kp_binds ?zwkx ?zwke; (case zwkx => k_in); (case zwke => exact fun _ => rfl))); (case zwc5 => decide); (case zwkB => exact locs rfl); (case zwc2 => exact rfl); (case zwc3 => exact rfl); (case zwc4 => exact rfl); k_whole; walk_at "pm1"; (try dsimp only); (try k_fold))
              | (refine' code_defC ?zwk1 ?zwk2 ?zwk3 ?zwk4 ?zwk5 ?zwkA ?zwkF ?zwkK ?zwk6 ?zwk7 ?zwk8 ?zwk9 ?zwkB ?zwkD ?_ ?zwc2 ?zwc3 ?zwc4; (case zwkA => exact rfl); (case zwkF => exact rfl); (case zwkK => first | assumption | exact rfl); (case zwk1 => k_asm); (case zwk2 => k_asm); (case zwk3 => k_asm); (case zwk4 => k_asm); (case zwk5 => k_asm); (case zwk6 => k_is); (case zwk7 => k_is); (case zwk8 => ktr_room); (case zwk9 => first | exact BindsTo.of_eq rfl | (refine' kp_binds ?zwkx ?zwke; (case zwkx => k_in); (case zwke => exact fun _ => rfl))); (case zwkB => exact rfl); (case zwkD => decide +kernel); (case zwc2 => exact rfl); (case zwc3 => exact rfl); (case zwc4 => exact rfl); k_whole; walk_at "pm2"; (try dsimp only); (try k_fold))))
              k_with "k_all" => (first | assumption | exact all_ne (by assumption) (by omega) | fail)
              k_with "call ref" => ((k_here; refine stop_intro ?_))
              k_with "k_all" => (first | assumption | (refine' List.forall_mem_cons.mpr ⟨?zwkza, ?zwkzb⟩; (case zwkza => (try dsimp only); first | assumption | exact ltN (by omega) | exact gtN (by omega) | fail); (case zwkzb => k_all)) | exact all_ne (by assumption) (by omega) | fail)
              k_with "loadName" => ((k_here; k_dflt (refine' ldn ?zwk1 ?zwk2 ?_; (case zwk1 => k_asm); (case zwk2 => (repeat (first | assumption | exact if_pos rfl | refine' (if_neg (by decide)).trans ?_))))))
              k_with "eval Name" => ((k_here; name_kind "local"; k_dflt (refine' ld ?zwk1 ?zwk2 ?_; (case zwk1 => k_asm); (case zwk2 => (repeat (first | assumption | exact if_pos rfl | refine' (if_neg (by decide)).trans ?_))); k_whole)))
              k_with "pyIter ref" => ((k_here; refine stop_intro ?_))
              k_with "exec For" => ((k_here; k_dflt (refine' for_ruleL ?zwhF ?zwhs ?_; (case zwhF => k_asm); (case zwhs => intro _; rfl))))
              k_with "exec For Name Name cons nil" => ((k_here; k_dflt (refine' for_ruleL ?zwhF ?zwhs ?_; (case zwhF => k_asm); (case zwhs => intro _; rfl))))
              k_with "exec For Name Subscript cons nil" => ((k_here; k_dflt (refine' for_ruleL ?zwhF ?zwhs ?_; (case zwhF => k_asm); (case zwhs => intro _; rfl))))
              k_with "exec For Name Call cons nil" => ((k_here; k_dflt (refine' for_ruleL ?zwhF ?zwhs ?_; (case zwhF => k_asm); (case zwhs => intro _; rfl))))
              k_with "exec For Tuple Name cons nil" => ((k_here; k_dflt (refine' for_ruleL ?zwhF ?zwhs ?_; (case zwhF => k_asm); (case zwhs => intro _; rfl))))
              k_with "exec For Tuple" => ((k_here; k_dflt (refine' for_ruleL ?zwhF ?zwhs ?_; (case zwhF => k_asm); (case zwhs => intro _; rfl))))
              k_with "call builtin:len" => ((k_here; (with_reducible show wpAny _ _ (call (Value.builtin _) [Value.ref _]) _ _ _); k_dflt (refine' len_at ?zwk1 ?zwk2 ?zwk3 ?_; (case zwk1 => k_asm); (case zwk2 => (repeat (first | assumption | exact List.Mem.head _ | apply List.Mem.tail))); (case zwk3 => omega); walk_at "pm3")))
              k_with "subscriptTail Name Name ref int" => ((k_here; (with_reducible show wpAny _ _ (subscriptTail _ _ (Value.ref _) (Value.int _ _)) _ _ _); k_dflt (refine' sub_at ?zwk1 ?zwk2 ?zwk3 ?zwk4 ?zwk5 ?_ ?zwk7; (case zwk1 => k_asm); (case zwk2 => (repeat (first | assumption | exact List.Mem.head _ | apply List.Mem.tail))); (case zwk3 => omega); (case zwk4 => omega); (case zwk5 => assumption); (case zwk7 => with_unfolding_all rfl); k_whole)))
              k_with "FnAt" => ((k_dflt (exact FnAt.of (by k_asm) (by first | assumption | k_mem))))
              k_with "callWith ref" => ((k_here; k_dflt (refine' callWith_F ?zwk1 ?_; (case zwk1 => exact FnAt.of (by k_asm) (by first | assumption | k_mem)); k_whole)))
              k_with "And" => (((with_reducible show FnAt _ _ ∧ _); k_dflt (refine ⟨FnAt.of (by k_asm) (by first | assumption | k_mem), ?_⟩); (try dsimp only [List.nil_append, List.cons_append])))
              k_with "exec Assign cons ListComp" => ((k_here; refine stop_intro ?_))
              k_with "eval Name" => ((k_here; name_kind "free"; k_dflt (refine' lcf_cell ?zwN ?zwc ?zwm ?zwd ?_ ?zwa ?zwb; (case zwa => rfl); (case zwb => rfl); (case zwN => k_asm); (case zwc => rfl); (case zwm => (repeat (first | assumption | apply List.Mem.tail))); (case zwd => assumption); k_whole)))
              k_with "eval Name" => ((k_here; name_kind "cell"; k_dflt (refine' nameX_C ?zwN ?zwc ?zwm ?zwd ?_ ?zwa ?zwb; (case zwa => rfl); (case zwb => rfl); (case zwN => k_asm); (case zwc => rfl); (case zwm => (repeat (first | assumption | exact List.Mem.head _ | apply List.Mem.tail))); (case zwd => assumption); k_whole)))
              k_with "GrownAll" => ((refine stop_intro ?_))
              k_with "k_all" => (first | assumption | exact all_ne (by assumption) (by omega) | fail)
              (try k_fold)
              k_steps
              rw [← hQB]
              k_steps
              all_goals (try first | exact Str.ofString "" | exact (0 : Nat) | exact Value.none)
              refine stop_elim ?_
              (try k_fold)
              exact ⟨GrownAt.of N9 (.tail _ h122C), GrownAt.of N9 (.tail _ h144C), trivial⟩
end
theorem PySem.Challenge.cw_ty0036_02_holds : PySem.Challenge.rw_ty0036_02.Holds := by
  exact Mine.law_all trivial
