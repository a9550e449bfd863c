import PyProof.Rows.All
import Wide.All
import OpenK.AllK
import Wide.FinOn
import PySem.Challenge.RW_ba5009_01
open PySem PySem.W PySem.Flt PyProof.Rows
set_option Elab.async false
set_option maxRecDepth 100000
set_option exponentiation.threshold 2200
namespace Mine
section
open PySem.Float64

/-- the float of k halves -/
def hf (k : Int) : UInt64 := ofFrac (decide (k < 0)) k.natAbs 2

theorem rep (k j : Nat) (hk : k < 2 ^ 53) (hj : j ≤ 1074) (hj2 : 52 ≤ j) : ∃ t, t < infMag ∧ V t = k * 2 ^ j := by
  by_cases h0 : k = 0
  · exact ⟨0, by decide, by subst h0; rw [V_zero, Nat.zero_mul]⟩
  · have h1 : 2 ^ k.log2 ≤ k := Nat.log2_self_le h0
    have h2 : k < 2 ^ (k.log2 + 1) := Nat.lt_log2_self
    have hL : k.log2 ≤ 52 := by
      have := (Nat.log2_lt h0).mpr hk
      omega
    generalize k.log2 = L at *
    have e1 : (2 : Nat) ^ 52 = 2 ^ L * 2 ^ (52 - L) := by rw [← Nat.pow_add]; congr 1; omega
    have e2 : (2 : Nat) ^ 53 = 2 ^ (L + 1) * 2 ^ (52 - L) := by rw [← Nat.pow_add]; congr 1; omega
    have q1 : 2 ^ 52 ≤ k * 2 ^ (52 - L) := by rw [e1]; exact Nat.mul_le_mul_right _ h1
    have q2 : k * 2 ^ (52 - L) < 2 ^ 53 := by rw [e2]; exact Nat.mul_lt_mul_of_pos_right h2 (Nat.two_pow_pos _)
    refine ⟨(j - 52 + L) * 2 ^ 52 + k * 2 ^ (52 - L), ?_, ?_⟩
    · have hi : infMag = 2047 * 2 ^ 52 := rfl
      rw [hi]
      omega
    · rw [V_at (Nat.le_of_lt q2) (.inl q1), Nat.mul_assoc, ← Nat.pow_add]
      congr 2; omega

theorem V_inj {t t' : Nat} (h : V t = V t') : t = t' := by
  rcases Nat.lt_trichotomy t t' with q | q | q
  · exact absurd h (Nat.ne_of_lt (V_lt q))
  · exact q
  · exact absurd h.symm (Nat.ne_of_lt (V_lt q))

theorem V_top {t : Nat} (h : t < infMag) : V t ≤ (2 ^ 53 - 1) * 2 ^ 2045 := by
  have e : V (2045 * 2 ^ 52 + (2 ^ 53 - 1)) = (2 ^ 53 - 1) * 2 ^ 2045 := V_at (by decide) (.inl (by decide))
  rw [← e]
  refine V_mono ?_
  have hi : infMag = 2047 * 2 ^ 52 := rfl
  omega

/-- what a right rounding of a value below the top gives: a place below infinity -/
theorem right_below {r : UInt64} {neg : Bool} {W D t : Nat} (h : Right r neg W D) (hD : 0 < D) (ht : t < infMag) (hW : W ≤ D * V t) :
    ∃ u, r = pack neg u ∧ u < infMag ∧ ∀ t', dist W (D * V u) ≤ dist W (D * V t') := by
  obtain ⟨u, hr, hle, hinf, hn⟩ := h
  have hu : u < infMag := by
    refine Nat.lt_of_le_of_ne hle fun e => ?_
    have h1 := hinf.mp e
    have h2 := V_top ht
    have h3 : D * V t ≤ D * ((2 ^ 53 - 1) * 2 ^ 2045) := Nat.mul_le_mul_left _ h2
    have hK : 0 < (2 : Nat) ^ 2045 := Nat.two_pow_pos _
    generalize (2 : Nat) ^ 2045 = K at *
    have h4 : D * ((2 ^ 54 - 1) * K) ≤ 2 * (D * ((2 ^ 53 - 1) * K)) := by omega
    have h5 : 0 < D * K := Nat.mul_pos hD hK
    have e1 : D * ((2 ^ 54 - 1) * K) = (2 ^ 54 - 1) * (D * K) := by ac_rfl
    have e2 : D * ((2 ^ 53 - 1) * K) = (2 ^ 53 - 1) * (D * K) := by ac_rfl
    rw [e1, e2] at h4
    omega
  exact ⟨u, hr, hu, fun t' => (hn hu t').1⟩

theorem right_exact {r : UInt64} {neg : Bool} {W D t : Nat} (h : Right r neg W D) (hD : 0 < D) (ht : t < infMag) (hW : W = D * V t) : r = pack neg t := by
  obtain ⟨u, hr, hu, hn⟩ := right_below h hD ht (Nat.le_of_eq hW)
  have h1 := hn t
  have h2 : W = D * V u := by
    unfold dist at h1
    omega
  have h3 : V u = V t := Nat.eq_of_mul_eq_mul_left hD (h2.symm.trans hW)
  rw [hr, V_inj h3]

theorem hf_right (k : Int) : Right (hf k) (decide (k < 0)) (k.natAbs * 2 ^ 1073) 1 := by
  refine ofFrac_right (by decide) ?_ (by decide)
  have e : (2 : Nat) ^ 1074 = 2 ^ 1073 * 2 := Nat.pow_succ ..
  rw [e]
  generalize (2 : Nat) ^ 1073 = K
  rw [Nat.mul_one, Nat.mul_assoc]

theorem hf_pack {k : Int} (hk : k.natAbs < 2 ^ 53) : ∃ t, t < infMag ∧ hf k = pack (decide (k < 0)) t ∧ V t = k.natAbs * 2 ^ 1073 := by
  obtain ⟨t, ht, hV⟩ := rep k.natAbs 1073 hk (by decide) (by decide)
  exact ⟨t, ht, right_exact (hf_right k) (by decide) ht (by rw [hV, Nat.one_mul]), hV⟩

theorem right_hf {r : UInt64} {neg : Bool} {W D : Nat} {k : Int} (h : Right r neg W D) (hD : 0 < D) (hneg : neg = decide (k < 0)) (hW : W = D * (k.natAbs * 2 ^ 1073)) (hk : k.natAbs < 2 ^ 53) : r = hf k := by
  obtain ⟨t, ht, e, hV⟩ := hf_pack hk
  subst hneg
  rw [e]
  exact right_exact h hD ht (by rw [hV]; exact hW)

theorem hf_dec {k : Int} (hk : k.natAbs < 2 ^ 53) : ∃ m e, decode (hf k) = .fin (decide (k < 0)) m e := by
  obtain ⟨t, ht, e, _⟩ := hf_pack hk
  obtain ⟨m, x, hd, _⟩ := decode_pack (decide (k < 0)) ht
  exact ⟨m, x, by rw [e]; exact hd⟩

theorem hf_val {k : Int} (hk : k.natAbs < 2 ^ 53) : val (hf k) = k * 2 ^ 1073 := by
  obtain ⟨t, ht, e, hV⟩ := hf_pack hk
  rw [e, val_pack _ ht, hV]
  have h : ((2 ^ 1073 : Nat) : Int) = (2 : Int) ^ 1073 := by simp
  unfold sgn
  rw [← h]
  generalize (2 : Nat) ^ 1073 = K
  by_cases hn : k < 0
  · rw [if_pos (by simpa using hn), Int.natCast_mul]
    have : ((k.natAbs : Nat) : Int) = -k := by omega
    rw [this, Int.neg_mul, Int.neg_neg]
  · rw [if_neg (by simpa using hn), Int.natCast_mul]
    have : ((k.natAbs : Nat) : Int) = k := by omega
    rw [this]

theorem pow_pos' (n : Nat) : (0 : Int) < (2 : Int) ^ n := by
  have h : ((2 ^ n : Nat) : Int) = (2 : Int) ^ n := by simp
  rw [← h]; exact Int.ofNat_lt.mpr (Nat.two_pow_pos _)

theorem ofInt_hf {n : Int} (hn : (2 * n).natAbs < 2 ^ 53) : ofInt n = hf (2 * n) := by
  refine right_hf (ofInt_right n) (by decide) (decide_eq_decide.mpr (by omega)) ?_ hn
  have e : (2 : Nat) ^ 1074 = 2 ^ 1073 * 2 := Nat.pow_succ ..
  rw [e]
  generalize (2 : Nat) ^ 1073 = K
  have : (2 * n).natAbs = 2 * n.natAbs := by omega
  rw [this, Nat.one_mul]
  ac_rfl

theorem zero_hf : zero false = hf 0 := by decide +kernel

theorem natAbs_pow (k : Int) : (k * 2 ^ 1073).natAbs = k.natAbs * 2 ^ 1073 := by
  rw [Int.natAbs_mul, Int.natAbs_pow]
  rfl

theorem pos_iff (k : Int) : (k * 2 ^ 1073 < 0) ↔ k < 0 := by
  have h := pow_pos' 1073
  generalize (2 : Int) ^ 1073 = K at *
  constructor
  · intro h1
    by_cases h2 : k < 0
    · exact h2
    · have := Int.mul_nonneg (show 0 ≤ k by omega) (Int.le_of_lt h)
      omega
  · intro h1
    exact Int.mul_neg_of_neg_of_pos h1 h
theorem zero_iff (k : Int) : k * 2 ^ 1073 = 0 ↔ k = 0 := by
  have h := pow_pos' 1073
  generalize (2 : Int) ^ 1073 = K at *
  constructor
  · intro h1
    rcases Int.mul_eq_zero.mp h1 with q | q
    · exact q
    · omega
  · intro h1; rw [h1, Int.zero_mul]

theorem add_hf {a b : Int} (ha : a.natAbs < 2 ^ 53) (hb : b.natAbs < 2 ^ 53) (hab : (a + b).natAbs < 2 ^ 53) : add (hf a) (hf b) = hf (a + b) := by
  obtain ⟨m, e, hx⟩ := hf_dec ha
  obtain ⟨n, f, hy⟩ := hf_dec hb
  have h := add_right hx hy
  rw [hf_val ha, hf_val hb, ← Int.add_mul, natAbs_pow] at h
  by_cases h0 : a + b = 0
  · rw [h.1 ((zero_iff _).mpr h0), h0, ← zero_hf]
    congr 1
    by_cases h1 : a < 0
    · have : ¬ b < 0 := by omega
      simp [this]
    · simp [h1]
  · refine right_hf (h.2 fun q => h0 ((zero_iff _).mp q)) (by decide) (decide_eq_decide.mpr (pos_iff _)) (by rw [Nat.one_mul]) hab

theorem sub_hf {a b : Int} (ha : a.natAbs < 2 ^ 53) (hb : b.natAbs < 2 ^ 53) (hab : (a - b).natAbs < 2 ^ 53) : sub (hf a) (hf b) = hf (a - b) := by
  obtain ⟨m, e, hx⟩ := hf_dec ha
  obtain ⟨n, f, hy⟩ := hf_dec hb
  have h := sub_right hx hy
  rw [hf_val ha, hf_val hb, ← Int.sub_mul, natAbs_pow] at h
  by_cases h0 : a - b = 0
  · rw [h.1 ((zero_iff _).mpr h0), h0, ← zero_hf]
    congr 1
    have : a = b := by omega
    subst this
    simp
  · refine right_hf (h.2 fun q => h0 ((zero_iff _).mp q)) (by decide) (decide_eq_decide.mpr (pos_iff _)) (by rw [Nat.one_mul]) hab

theorem mul_hf {a n : Int} (h0 : 0 ≤ a) (hn0 : 0 ≤ n) (ha : a.natAbs < 2 ^ 53) (hn : (2 * n).natAbs < 2 ^ 53) (hab : (a * n).natAbs < 2 ^ 53) : mul (hf a) (ofInt n) = hf (a * n) := by
  rw [ofInt_hf hn]
  obtain ⟨m, e, hx⟩ := hf_dec ha
  obtain ⟨k, f, hy⟩ := hf_dec hn
  have h := mul_right hx hy
  rw [hf_val ha, hf_val hn, natAbs_pow, natAbs_pow] at h
  have hp : 0 ≤ a * n := Int.mul_nonneg h0 hn0
  refine right_hf h (Nat.two_pow_pos _) ?_ ?_ hab
  · have h1 : ¬ a < 0 := by omega
    have h2 : ¬ 2 * n < 0 := by omega
    have h3 : ¬ a * n < 0 := by omega
    simp [h1, h2, h3]
  · have e : (2 : Nat) ^ 1074 = 2 ^ 1073 * 2 := Nat.pow_succ ..
    have e2 : (2 * n).natAbs = 2 * n.natAbs := by omega
    rw [e, e2, Int.natAbs_mul]
    generalize (2 : Nat) ^ 1073 = K
    ac_rfl

/-- x is finite and its floor is n -/
def Fl (x : UInt64) (n : Int) : Prop := ∃ s m e, decode x = .fin s m e ∧ floorOf s m e = n
/-- x is finite and its whole part is n -/
def Tr (x : UInt64) (n : Int) : Prop := ∃ s m e, decode x = .fin s m e ∧ truncOf s m e = n

theorem floor_val {x : UInt64} {s : Bool} {m : Nat} {e : Int} (h : decode x = .fin s m e) : floorOf s m e = val x / 2 ^ 1074 := by
  have he := decode_ge h
  have hv : val x = sgn s m * ((2 ^ (e + 1074).toNat : Nat) : Int) := by rw [val_eq h, sgn_mul]
  have hpow : ∀ n : Nat, ((2 ^ n : Nat) : Int) = (2 : Int) ^ n := fun n => by simp
  rw [hv, hpow]
  unfold floorOf
  split
  · rename_i h1
    have e1 : (e + 1074).toNat = e.toNat + 1074 := by omega
    rw [e1, Int.pow_add, ← Int.mul_assoc, Int.mul_ediv_cancel _ (Int.ne_of_gt (pow_pos' _))]
  · rename_i h1
    have e1 : 1074 = (-e).toNat + (e + 1074).toNat := by omega
    rw [Int.fdiv_eq_ediv_of_nonneg _ (Int.le_of_lt (pow_pos' _))]
    conv => rhs; rw [e1, Int.pow_add]
    rw [Int.mul_ediv_mul_of_pos_left _ _ (pow_pos' _)]

theorem trunc_of_false {m : Nat} {e : Int} : truncOf false m e = floorOf false m e := rfl

theorem fl_hf {a : Int} (ha : a.natAbs < 2 ^ 53) : Fl (hf a) (a / 2) := by
  obtain ⟨m, e, hx⟩ := hf_dec ha
  refine ⟨_, m, e, hx, ?_⟩
  have e2 : (2 : Int) ^ 1074 = 2 ^ 1073 * 2 := Int.pow_succ ..
  rw [floor_val hx, hf_val ha, e2, Int.mul_comm a, Int.mul_ediv_mul_of_pos _ _ (pow_pos' _)]
theorem tr_hf {a : Int} (h0 : 0 ≤ a) (ha : a.natAbs < 2 ^ 53) : Tr (hf a) (a / 2) := by
  obtain ⟨m, e, hx⟩ := hf_dec ha
  obtain ⟨s, m', e', hx', hf'⟩ := fl_hf ha
  have hs : decide (a < 0) = false := by simp; omega
  rw [hs] at hx
  rw [hx] at hx'
  cases hx'
  exact ⟨_, _, _, hx, hf'⟩

/-- the floor of a rounded quotient n / d is the quotient's own floor, while there is room below the next whole number -/
theorem floor_right {r : UInt64} {W D n d j : Nat} (h : Right r false W D) (hD : 0 < D) (hd : 0 < d) (hW : n * 2 ^ 1074 * D = W * d) (hj : j ≤ 52) (hdj : d ≤ 2 ^ j) (hroom : (n / d + 1) * 2 ^ j < 2 ^ 53) :
    ∃ m e, decode r = .fin false m e ∧ floorOf false m e = ((n / d : Nat) : Int) := by
  generalize hq : n / d = q at *
  have hq1 : q * d ≤ n := by rw [← hq]; exact Nat.div_mul_le_self n d
  have hq2 : n < (q + 1) * d := by rw [← hq]; have := Nat.lt_div_mul_add hd (a := n); rw [Nat.add_mul, Nat.one_mul]; exact this
  have hj1 : 1 ≤ 2 ^ j := Nat.one_le_two_pow
  have hqr : q < 2 ^ 53 := by
    have : q + 1 ≤ (q + 1) * 2 ^ j := Nat.le_mul_of_pos_right _ hj1
    omega
  obtain ⟨t1, ht1, hV1⟩ := rep q 1074 hqr (by decide) (by decide)
  obtain ⟨t2, ht2, hV2⟩ := rep ((q + 1) * 2 ^ j - 1) (1074 - j) (by omega) (by omega) (by omega)
  have e74 : (2 : Nat) ^ 1074 = 2 ^ j * 2 ^ (1074 - j) := by rw [← Nat.pow_add]; congr 1; omega
  have hKp : 0 < (2 : Nat) ^ (1074 - j) := Nat.two_pow_pos _
  have hlow : D * V t1 ≤ W := by
    refine Nat.le_of_mul_le_mul_right (c := d) ?_ hd
    rw [← hW, hV1]
    calc D * (q * 2 ^ 1074) * d = (q * d) * 2 ^ 1074 * D := by generalize (2 : Nat) ^ 1074 = K; ac_rfl
      _ ≤ n * 2 ^ 1074 * D := Nat.mul_le_mul_right _ (Nat.mul_le_mul_right _ hq1)
  have hV2' : V t2 * d ≥ n * 2 ^ 1074 := by
    rw [hV2, e74]
    have h1 : n * 2 ^ j ≤ ((q + 1) * 2 ^ j - 1) * d := by
      have h3 : (n + 1) * 2 ^ j ≤ (q + 1) * d * 2 ^ j := Nat.mul_le_mul_right _ hq2
      rw [Nat.add_mul, Nat.one_mul] at h3
      rw [Nat.sub_mul, Nat.one_mul]
      have h4 : (q + 1) * 2 ^ j * d = (q + 1) * d * 2 ^ j := by ac_rfl
      omega
    calc n * (2 ^ j * 2 ^ (1074 - j)) = n * 2 ^ j * 2 ^ (1074 - j) := by rw [Nat.mul_assoc]
      _ ≤ ((q + 1) * 2 ^ j - 1) * d * 2 ^ (1074 - j) := Nat.mul_le_mul_right _ h1
      _ = ((q + 1) * 2 ^ j - 1) * 2 ^ (1074 - j) * d := by ac_rfl
  have hhigh : W ≤ D * V t2 := by
    refine Nat.le_of_mul_le_mul_right (c := d) ?_ hd
    rw [← hW]
    calc n * 2 ^ 1074 * D ≤ V t2 * d * D := Nat.mul_le_mul_right _ hV2'
      _ = D * V t2 * d := by ac_rfl
  obtain ⟨u, hr, hu, hn⟩ := right_below h hD ht2 hhigh
  have b1 : V t1 ≤ V u := by
    have h1 := hn t1
    unfold dist at h1
    refine (Nat.mul_le_mul_left_iff hD).mp ?_
    omega
  have b2 : V u ≤ V t2 := by
    have h1 := hn t2
    unfold dist at h1
    refine (Nat.mul_le_mul_left_iff hD).mp ?_
    omega
  obtain ⟨m, e, hx, _⟩ := decode_pack false hu
  refine ⟨m, e, by rw [hr]; exact hx, ?_⟩
  rw [floor_val hx, val_pack _ hu]
  have hv : V u / 2 ^ 1074 = q := by
    rw [Nat.div_eq_iff (Nat.two_pow_pos _)]
    constructor
    · rw [← hV1]; exact b1
    · have h1 : V t2 < (q + 1) * 2 ^ 1074 := by
        rw [hV2, e74, ← Nat.mul_assoc]
        refine Nat.mul_lt_mul_of_pos_right ?_ hKp
        have : 1 ≤ (q + 1) * 2 ^ j := Nat.mul_pos (Nat.succ_pos _) hj1
        omega
      have h2 : (q + 1) * 2 ^ 1074 = q * 2 ^ 1074 + 2 ^ 1074 := by rw [Nat.add_mul, Nat.one_mul]
      generalize (2 : Nat) ^ 1074 = K at *
      omega
  show ((V u : Nat) : Int) / 2 ^ 1074 = (q : Int)
  rw [← hv]
  have h : ((2 ^ 1074 : Nat) : Int) = (2 : Int) ^ 1074 := by simp
  rw [← h, ← Int.natCast_ediv]


theorem fl_ofFrac {n d : Nat} (j : Nat) (hd : 0 < d) (hj : j ≤ 52) (hdj : d ≤ 2 ^ j) (hroom : (n / d + 1) * 2 ^ j < 2 ^ 53) :
    ∃ m e, decode (ofFrac false n d) = .fin false m e ∧ floorOf false m e = ((n / d : Nat) : Int) :=
  floor_right (W := n * 2 ^ 1074) (D := d) (ofFrac_right hd rfl hd) hd hd rfl hj hdj hroom

/-- the rounded quotient of two whole numbers, as the model writes it -/
abbrev qf (a b : Int) : UInt64 := ofFrac (decide (a < 0) != decide (b < 0)) a.natAbs b.natAbs
theorem qf_fin {a b : Int} (j : Nat) (ha : 0 ≤ a) (hb : 0 < b) (hj : j ≤ 52) (hbj : b ≤ 2 ^ j) (hroom : (a / b + 1) * 2 ^ j < 2 ^ 53) :
    ∃ m e, decode (qf a b) = .fin false m e ∧ floorOf false m e = a / b := by
  obtain ⟨n, rfl⟩ := Int.eq_ofNat_of_zero_le ha
  obtain ⟨d, rfl⟩ := Int.eq_ofNat_of_zero_le (Int.le_of_lt hb)
  have h1 : (decide (((n : Nat) : Int) < 0) != decide (((d : Nat) : Int) < 0)) = false := by
    have q1 : ¬ ((n : Nat) : Int) < 0 := by omega
    have q2 : ¬ ((d : Nat) : Int) < 0 := by omega
    simp [q1, q2]
  have hp : ((2 ^ j : Nat) : Int) = (2 : Int) ^ j := by simp
  unfold qf
  rw [h1]
  simp only [Int.natAbs_natCast]
  rw [← hp] at hbj hroom
  have hc : (((n / d + 1) * 2 ^ j : Nat) : Int) = ((n : Int) / (d : Int) + 1) * ((2 ^ j : Nat) : Int) := by
    rw [Int.natCast_mul, Int.natCast_add, Int.natCast_ediv]; rfl
  obtain ⟨m, e, q1, q2⟩ := fl_ofFrac (n := n) (d := d) j (by omega) hj (Int.ofNat_le.mp hbj) (Int.ofNat_lt.mp (by rw [hc]; exact hroom))
  exact ⟨m, e, q1, by rw [q2, Int.natCast_ediv]⟩
theorem fl_qf {a b : Int} (j : Nat) (ha : 0 ≤ a) (hb : 0 < b) (hj : j ≤ 52) (hbj : b ≤ 2 ^ j) (hroom : (a / b + 1) * 2 ^ j < 2 ^ 53) : Fl (qf a b) (a / b) := by
  obtain ⟨m, e, h1, h2⟩ := qf_fin j ha hb hj hbj hroom
  exact ⟨_, _, _, h1, h2⟩
theorem tr_qf {a b : Int} (j : Nat) (ha : 0 ≤ a) (hb : 0 < b) (hj : j ≤ 52) (hbj : b ≤ 2 ^ j) (hroom : (a / b + 1) * 2 ^ j < 2 ^ 53) : Tr (qf a b) (a / b) := by
  obtain ⟨m, e, h1, h2⟩ := qf_fin j ha hb hj hbj hroom
  exact ⟨_, _, _, h1, h2⟩

theorem fl_div {a n : Int} (j : Nat) (ha : 0 ≤ a) (hn : 0 < n) (ha2 : a.natAbs < 2 ^ 53) (hn2 : (2 * n).natAbs < 2 ^ 53) (hj : j ≤ 52) (hbj : 2 * n ≤ 2 ^ j) (hroom : (a / (2 * n) + 1) * 2 ^ j < 2 ^ 53) : Fl (div (hf a) (ofInt n)) (a / (2 * n)) := by
  rw [ofInt_hf hn2]
  obtain ⟨m, e, hx⟩ := hf_dec ha2
  obtain ⟨k, f, hy⟩ := hf_dec hn2
  have hk : k ≠ 0 := by
    intro h0
    have hv := val_eq hy
    rw [hf_val hn2, h0, Nat.zero_mul] at hv
    have hs : sgn (decide (2 * n < 0)) 0 = 0 := by unfold sgn; split <;> rfl
    rw [hs] at hv
    exact absurd ((zero_iff _).mp hv) (by omega)
  have h := div_right hx hy hk
  rw [hf_val ha2, hf_val hn2, natAbs_pow, natAbs_pow] at h
  have h1 : (decide (a < 0) != decide (2 * n < 0)) = false := by
    have q1 : ¬ a < 0 := by omega
    have q2 : ¬ 2 * n < 0 := by omega
    simp [q1, q2]
  rw [h1] at h
  have hp : ((2 ^ j : Nat) : Int) = (2 : Int) ^ j := by simp
  rw [← hp] at hbj hroom
  obtain ⟨x, rfl⟩ := Int.eq_ofNat_of_zero_le ha
  have hn0 : (0 : Int) ≤ 2 * n := by omega
  obtain ⟨d, hd⟩ := Int.eq_ofNat_of_zero_le hn0
  rw [hd] at h hbj hroom ⊢
  simp only [Int.natAbs_natCast] at h
  have hc : (((x / d + 1) * 2 ^ j : Nat) : Int) = ((x : Int) / (d : Int) + 1) * ((2 ^ j : Nat) : Int) := by
    rw [Int.natCast_mul, Int.natCast_add, Int.natCast_ediv]; rfl
  have hd0 : 0 < d := by omega
  obtain ⟨m', e', q1, q2⟩ := floor_right (n := x) (d := d) (j := j) h (Nat.mul_pos hd0 (Nat.two_pow_pos _)) hd0 (by ac_rfl) hj (Int.ofNat_le.mp hbj) (Int.ofNat_lt.mp (by rw [hc]; exact hroom))
  exact ⟨_, m', e', q1, by rw [q2, Int.natCast_ediv]⟩

theorem compare_scale (a b K : Int) (hK : 0 < K) : compare (a * K) (b * K) = compare a b := by
  rcases Int.lt_trichotomy a b with h | h | h
  · rw [Int.compare_eq_lt.mpr h, Int.compare_eq_lt.mpr (Int.mul_lt_mul_of_pos_right h hK)]
  · subst h; simp
  · rw [Int.compare_eq_gt.mpr h, Int.compare_eq_gt.mpr (Int.mul_lt_mul_of_pos_right h hK)]

theorem cmp_hf {a b : Int} (ha : a.natAbs < 2 ^ 53) (hb : b.natAbs < 2 ^ 53) : cmp (hf a) (hf b) = some (compare a b) := by
  obtain ⟨m, e, hx⟩ := hf_dec ha
  obtain ⟨n, f, hy⟩ := hf_dec hb
  rw [cmp_right hx hy, hf_val ha, hf_val hb, compare_scale _ _ _ (pow_pos' _)]
theorem cmpInt_hf {a i : Int} (ha : a.natAbs < 2 ^ 53) : cmpInt (hf a) i = some (compare a (2 * i)) := by
  obtain ⟨m, e, hx⟩ := hf_dec ha
  have e2 : (2 : Int) ^ 1074 = 2 ^ 1073 * 2 := Int.pow_succ ..
  have e3 : i * (2 ^ 1073 * 2) = 2 * i * 2 ^ 1073 := by generalize (2 : Int) ^ 1073 = K; ac_rfl
  rw [cmpInt_right hx, hf_val ha, e2, e3, compare_scale _ _ _ (pow_pos' _)]
theorem cmp_eq_hf {a b : Int} (ha : a.natAbs < 2 ^ 53) (hb : b.natAbs < 2 ^ 53) : (cmp (hf a) (hf b) == some .eq) = decide (a = b) := by
  rw [cmp_hf ha hb]
  rcases Int.lt_trichotomy a b with h | h | h
  · rw [Int.compare_eq_lt.mpr h]; simp; omega
  · subst h; simp
  · rw [Int.compare_eq_gt.mpr h]; simp; omega
theorem cmp_lt_hf {a b : Int} (ha : a.natAbs < 2 ^ 53) (hb : b.natAbs < 2 ^ 53) : (cmp (hf a) (hf b) == some .lt) = decide (a < b) := by
  rw [cmp_hf ha hb]
  rcases Int.lt_trichotomy a b with h | h | h
  · rw [Int.compare_eq_lt.mpr h]; simp; omega
  · subst h; simp
  · rw [Int.compare_eq_gt.mpr h]; simp; omega
theorem cmp_gt_hf {a b : Int} (ha : a.natAbs < 2 ^ 53) (hb : b.natAbs < 2 ^ 53) : (cmp (hf a) (hf b) == some .gt) = decide (b < a) := by
  rw [cmp_hf ha hb]
  rcases Int.lt_trichotomy a b with h | h | h
  · rw [Int.compare_eq_lt.mpr h]; simp; omega
  · subst h; simp
  · rw [Int.compare_eq_gt.mpr h]; simp; omega
theorem cmpInt_lt_hf {a i : Int} (ha : a.natAbs < 2 ^ 53) : (cmpInt (hf a) i == some .lt) = decide (a < 2 * i) := by
  rw [cmpInt_hf ha]
  rcases Int.lt_trichotomy a (2 * i) with h | h | h
  · rw [Int.compare_eq_lt.mpr h]; simp; omega
  · rw [h]; simp
  · rw [Int.compare_eq_gt.mpr h]; simp; omega

theorem signBit_hf {k : Int} (h0 : 0 ≤ k) (hk : k.natAbs < 2 ^ 53) : signBit (hf k) = false := by
  obtain ⟨t, ht, e, _⟩ := hf_pack hk
  have hi : infMag = 2047 * 2 ^ 52 := rfl
  have hs : decide (k < 0) = false := by simp; omega
  rw [e, hs]
  unfold signBit
  rw [pack_toNat false (by omega)]
  simp
  omega

theorem isZero_hf {k : Int} (hk : k.natAbs < 2 ^ 53) : isZero (hf k) = decide (k = 0) := by
  obtain ⟨m, e, hx⟩ := hf_dec hk
  have hv := val_eq hx
  rw [hf_val hk] at hv
  have hz : isZero (hf k) = decide (m = 0) := by
    unfold isZero; rw [hx]
    cases m <;> simp
  rw [hz]
  apply decide_eq_decide.mpr
  constructor
  · intro h
    subst h
    rw [Nat.zero_mul] at hv
    have hs : sgn (decide (k < 0)) 0 = 0 := by unfold sgn; split <;> rfl
    rw [hs] at hv
    exact (zero_iff _).mp hv
  · intro h
    subst h
    rw [Int.zero_mul] at hv
    have h1 : m * 2 ^ (e + 1074).toNat = 0 := by
      have := sgn_natAbs (decide ((0 : Int) < 0)) (m * 2 ^ (e + 1074).toNat)
      rw [← hv] at this
      exact this.symm
    rcases Nat.mul_eq_zero.mp h1 with q | q
    · exact q
    · exact absurd q (Nat.ne_of_gt (Nat.two_pow_pos _))

theorem fmod_hf {a n : Int} (h0 : 0 ≤ a) (hn : 0 < n) (ha : a.natAbs < 2 ^ 53) (hn2 : n.natAbs < 2 ^ 53) : fmod (hf a) (hf n) = hf (a % n) := by
  obtain ⟨m, e, hx⟩ := hf_dec ha
  obtain ⟨k, f, hy⟩ := hf_dec hn2
  have he := decode_ge hx
  have hf' := decode_ge hy
  have h1 : (decide (a < 0)) = false := by simp; omega
  have h2 : (decide (n < 0)) = false := by simp; omega
  have hvx := val_natAbs hx
  have hvy := val_natAbs hy
  rw [hf_val ha, natAbs_pow] at hvx
  rw [hf_val hn2, natAbs_pow] at hvy
  rw [h1] at hx
  rw [h2] at hy
  have hk : k ≠ 0 := by
    intro q
    rw [q, Nat.zero_mul] at hvy
    rcases Nat.mul_eq_zero.mp hvy with q | q
    · omega
    · exact absurd q (Nat.ne_of_gt (Nat.two_pow_pos _))
  have hfm : fmod (hf a) (hf n) = ofBin false ((m * 2 ^ (e - min e f).toNat) % (k * 2 ^ (f - min e f).toNat)) (min e f) := by
    unfold fmod
    rw [hx, hy]
    simp only
    rw [if_neg (by simpa using hk)]
    rfl
  rw [hfm]
  have hr0 : 0 ≤ a % n := Int.emod_nonneg _ (by omega)
  have hr1 : a % n < n := Int.emod_lt_of_pos _ hn
  refine right_hf (ofBin_right (by omega)) (by decide) (by simp; omega) ?_ (by omega)
  rw [Nat.one_mul, ← Nat.mul_mod_mul_right, Nat.mul_assoc, Nat.mul_assoc, ← Nat.pow_add, ← Nat.pow_add]
  have e1 : (e - min e f).toNat + (min e f + 1074).toNat = (e + 1074).toNat := by omega
  have e2 : (f - min e f).toNat + (min e f + 1074).toNat = (f + 1074).toNat := by omega
  rw [e1, e2, ← hvx, ← hvy, Nat.mul_mod_mul_right]
  congr 1
  obtain ⟨x, rfl⟩ := Int.eq_ofNat_of_zero_le h0
  obtain ⟨y, rfl⟩ := Int.eq_ofNat_of_zero_le (Int.le_of_lt hn)
  rw [← Int.natCast_emod]
  rfl

theorem mod_hf {a n : Int} (h0 : 0 ≤ a) (hn : 0 < n) (ha : a.natAbs < 2 ^ 53) (hn2 : (2 * n).natAbs < 2 ^ 53) : (divmod (hf a) (ofInt n)).2 = hf (a % (2 * n)) := by
  rw [ofInt_hf hn2]
  have hr0 : 0 ≤ a % (2 * n) := Int.emod_nonneg _ (by omega)
  have hr1 : a % (2 * n) < 2 * n := Int.emod_lt_of_pos _ (by omega)
  have hr2 : (a % (2 * n)).natAbs < 2 ^ 53 := by omega
  unfold divmod
  simp only [fmod_hf h0 (show 0 < 2 * n by omega) ha hn2, isZero_hf hr2]
  generalize a % (2 * n) = r at *
  by_cases hz : r = 0
  · subst hz
    simp only [decide_true, if_true]
    unfold copysign
    rw [signBit_hf (by omega) hn2]
    decide +kernel
  · have l1 : lt (hf (2 * n)) (zero false) = false := by
      unfold lt
      rw [zero_hf, cmp_lt_hf hn2 (by decide)]
      simp; omega
    have l2 : lt (hf r) (zero false) = false := by
      unfold lt
      rw [zero_hf, cmp_lt_hf hr2 (by decide)]
      simp; omega
    rw [l1, l2]
    simp [hz]

theorem notInf_hf {k : Int} (hk : k.natAbs < 2 ^ 53) : isInf (hf k) = false := by
  obtain ⟨m, e, hx⟩ := hf_dec hk
  unfold isInf; rw [hx]


def flTest (x : UInt64) (n : Int) : Bool := match decode x with
  | .fin s m e => floorOf s m e == n
  | _ => false
def trTest (x : UInt64) (n : Int) : Bool := match decode x with
  | .fin s m e => truncOf s m e == n
  | _ => false
theorem fl_of_test {x : UInt64} {n : Int} (h : flTest x n = true) : Fl x n := by
  unfold flTest at h
  split at h
  · rename_i s m e hd; exact ⟨s, m, e, hd, by simpa using h⟩
  · cases h
theorem tr_of_test {x : UInt64} {n : Int} (h : trTest x n = true) : Tr x n := by
  unfold trTest at h
  split at h
  · rename_i s m e hd; exact ⟨s, m, e, hd, by simpa using h⟩
  · cases h

def monTest (m l d : Nat) : Bool := flTest (add (add (qf (367 * ((m : Int) + 1) - 362) 12) (ofInt (-(l : Int)))) (ofInt ((d : Int) + 1))) ((367 * ((m : Int) + 1) - 362) / 12 - l + (d + 1))
theorem mon_all : ((List.range 12).all fun m => (List.range 3).all fun l => (List.range 31).all fun d => monTest m l d) = true := by decide +kernel
theorem fl_mon {m l d : Int} (hm : 1 ≤ m) (hm2 : m ≤ 12) (hl : -2 ≤ l) (hl2 : l ≤ 0) (hd : 1 ≤ d) (hd2 : d ≤ 31) : Fl (add (add (qf (367 * m - 362) 12) (ofInt l)) (ofInt d)) ((367 * m - 362) / 12 + l + d) := by
  have h := mon_all
  simp only [List.all_eq_true, List.mem_range] at h
  have h1 := h (m - 1).toNat (by omega) (-l).toNat (by omega) (d - 1).toNat (by omega)
  unfold monTest at h1
  have e1 : (((m - 1).toNat : Nat) : Int) + 1 = m := by omega
  have e2 : -(((-l).toNat : Nat) : Int) = l := by omega
  have e3 : (((d - 1).toNat : Nat) : Int) + 1 = d := by omega
  have e4 : (((-l).toNat : Nat) : Int) = -l := by omega
  rw [e1, e2, e3, e4] at h1
  have e5 : (367 * m - 362) / 12 - -l + d = (367 * m - 362) / 12 + l + d := by omega
  rw [e5] at h1
  exact fl_of_test h1

def sixTest (m : Nat) : Bool := trTest (mul 0x403e99999999999a (ofInt ((m : Int) + 4))) ((306 * ((m : Int) + 4)) / 10)
theorem six_all : ((List.range 12).all fun m => sixTest m) = true := by decide +kernel
theorem tr_six {m : Int} (hm : 4 ≤ m) (hm2 : m ≤ 15) : Tr (mul 0x403e99999999999a (ofInt m)) (306 * m / 10) := by
  have h := six_all
  simp only [List.all_eq_true, List.mem_range] at h
  have h1 := h (m - 4).toNat (by omega)
  unfold sixTest at h1
  have e1 : (((m - 4).toNat : Nat) : Int) + 4 = m := by omega
  rw [e1] at h1
  exact tr_of_test h1

theorem epoch_hf : (4700144277945057280 : UInt64) = hf 3442851 := by decide +kernel
theorem epochp_hf : (4702353567246188544 : UInt64) = hf 4748959 := by decide +kernel
theorem half_hf : (4602678819172646912 : UInt64) = hf 1 := by decide +kernel

end

section
variable {prog : Program} {w : World} {A : Around} {E : Value → Shared → Prop} {s : Shared} {x y : UInt64} {a b n : Int} {t u : Tok} {Q : Value → Shared → Prop}

theorem natAbs_1023 {n : Int} (h : (2 * n).natAbs < 2 ^ 53) : n.natAbs < 2 ^ 1023 :=
  Nat.lt_of_lt_of_le (show n.natAbs < 2 ^ 53 by omega) (Nat.pow_le_pow_right (by decide) (by decide))
theorem not_over {n : Int} (h : (2 * n).natAbs < 2 ^ 53) : ¬ Over n := by
  intro q
  have h2 : (2 : Nat) ^ 53 ≤ 2 ^ 1024 - 2 ^ 970 := by decide +kernel
  have h3 : 2 ^ 1024 - 2 ^ 970 ≤ n.natAbs := q
  generalize (2 : Nat) ^ 1024 - 2 ^ 970 = K at *
  omega

theorem r_add_ff (hx : x = hf a) (hy : y = hf b) (hB : a.natAbs < 2 ^ 53 ∧ b.natAbs < 2 ^ 53 ∧ (a + b).natAbs < 2 ^ 53)
    (h : ∀ k, k = a + b → Q (.float (hf k) s.toks) { s with toks := s.toks + 1 }) : wpAny (model prog w) A (binaryOp .Add (.float x t) (.float y u)) Q E s := by
  subst hx; subst hy
  refine add_float ?_
  rw [add_hf hB.1 hB.2.1 hB.2.2]
  exact h _ rfl
theorem r_sub_ff (hx : x = hf a) (hy : y = hf b) (hB : a.natAbs < 2 ^ 53 ∧ b.natAbs < 2 ^ 53 ∧ (a - b).natAbs < 2 ^ 53)
    (h : ∀ k, k = a - b → Q (.float (hf k) s.toks) { s with toks := s.toks + 1 }) : wpAny (model prog w) A (binaryOp .Sub (.float x t) (.float y u)) Q E s := by
  subst hx; subst hy
  refine sub_float ?_
  rw [sub_hf hB.1 hB.2.1 hB.2.2]
  exact h _ rfl
theorem r_add_fi (hx : x = hf a) (hB : a.natAbs < 2 ^ 53 ∧ (2 * n).natAbs < 2 ^ 53 ∧ (a + 2 * n).natAbs < 2 ^ 53)
    (h : ∀ k, k = a + 2 * n → Q (.float (hf k) s.toks) { s with toks := s.toks + 1 }) : wpAny (model prog w) A (binaryOp .Add (.float x t) (.int n u)) Q E s := by
  subst hx
  refine add_fi_fits (natAbs_1023 hB.2.1) ?_
  rw [ofInt_hf hB.2.1, add_hf hB.1 hB.2.1 hB.2.2]
  exact h _ rfl
theorem r_add_if (hx : x = hf a) (hB : a.natAbs < 2 ^ 53 ∧ (2 * n).natAbs < 2 ^ 53 ∧ (2 * n + a).natAbs < 2 ^ 53)
    (h : ∀ k, k = 2 * n + a → Q (.float (hf k) s.toks) { s with toks := s.toks + 1 }) : wpAny (model prog w) A (binaryOp .Add (.int n u) (.float x t)) Q E s := by
  subst hx
  refine add_if_fits (natAbs_1023 hB.2.1) ?_
  rw [ofInt_hf hB.2.1, add_hf hB.2.1 hB.1 hB.2.2]
  exact h _ rfl
theorem r_sub_fi (hx : x = hf a) (hB : a.natAbs < 2 ^ 53 ∧ (2 * n).natAbs < 2 ^ 53 ∧ (a - 2 * n).natAbs < 2 ^ 53)
    (h : ∀ k, k = a - 2 * n → Q (.float (hf k) s.toks) { s with toks := s.toks + 1 }) : wpAny (model prog w) A (binaryOp .Sub (.float x t) (.int n u)) Q E s := by
  subst hx
  refine sub_fi_fits (natAbs_1023 hB.2.1) ?_
  rw [ofInt_hf hB.2.1, sub_hf hB.1 hB.2.1 hB.2.2]
  exact h _ rfl
theorem r_mul_fi (hx : x = hf a) (hB : 0 ≤ a ∧ 0 ≤ n ∧ a.natAbs < 2 ^ 53 ∧ (2 * n).natAbs < 2 ^ 53 ∧ (a * n).natAbs < 2 ^ 53)
    (h : ∀ k, k = a * n → Q (.float (hf k) s.toks) { s with toks := s.toks + 1 }) : wpAny (model prog w) A (binaryOp .Mult (.float x t) (.int n u)) Q E s := by
  subst hx
  refine mul_fi_fits (natAbs_1023 hB.2.2.2.1) ?_
  rw [mul_hf hB.1 hB.2.1 hB.2.2.1 hB.2.2.2.1 hB.2.2.2.2]
  exact h _ rfl

theorem fits_room {q : Int} (h : q < 8589934591) : (q + 1) * 2 ^ 20 < 2 ^ 53 := by omega

/-- float / int, behind it the floor alone is known -/
theorem r_div_fi (hh : A.handled = none) (hx : x = hf a) (hB : 0 ≤ a ∧ 0 < n ∧ 2 * n ≤ 1048576 ∧ a.natAbs < 2 ^ 53 ∧ a / (2 * n) < 8589934591)
    (h : ∀ v q, Fl v q → q = a / (2 * n) → Q (.float v s.toks) { s with toks := s.toks + 1 }) : wpAny (model prog w) A (binaryOp .Div (.float x t) (.int n u)) Q E s := by
  subst hx
  have h2 : (2 * n).natAbs < 2 ^ 53 := by omega
  refine truediv_fi hh (fun q => absurd q (not_over h2)) (fun q => absurd q (by omega)) fun _ _ => ?_
  exact h _ _ (fl_div 20 hB.1 hB.2.1 hB.2.2.2.1 h2 (by decide) (by omega) (fits_room hB.2.2.2.2)) rfl
/-- int / int -/
theorem r_div_ii (hh : A.handled = none) (hB : 0 ≤ a ∧ 0 < n ∧ n ≤ 1048576 ∧ a.natAbs < 2 ^ 53 ∧ a / n < 8589934591)
    (h : ∀ v q, Fl v q → Tr v q → v = qf a n → q = a / n → Q (.float v s.toks) { s with toks := s.toks + 1 }) : wpAny (model prog w) A (binaryOp .Div (.int a t) (.int n u)) Q E s := by
  have h1 : a.natAbs < 2 ^ 1023 := Nat.lt_of_lt_of_le hB.2.2.2.1 (Nat.pow_le_pow_right (by decide) (by decide))
  refine div_ii_fits hh h1 (fun q => absurd q (by omega)) fun _ _ => ?_
  exact h _ _ (fl_qf 20 hB.1 hB.2.1 (by decide) (by omega) (fits_room hB.2.2.2.2)) (tr_qf 20 hB.1 hB.2.1 (by decide) (by omega) (fits_room hB.2.2.2.2)) rfl rfl
theorem r_mod_fi (hh : A.handled = none) (hx : x = hf a) (hB : 0 ≤ a ∧ 0 < n ∧ a.natAbs < 2 ^ 53 ∧ (2 * n).natAbs < 2 ^ 53)
    (h : ∀ k, k = a % (2 * n) → Q (.float (hf k) s.toks) { s with toks := s.toks + 1 }) : wpAny (model prog w) A (binaryOp .Mod (.float x t) (.int n u)) Q E s := by
  subst hx
  refine mod_fi hh (fun q => absurd q (not_over hB.2.2.2)) (fun q => absurd q (by omega)) fun _ _ => ?_
  rw [mod_hf hB.1 hB.2.1 hB.2.2.1 hB.2.2.2]
  exact h _ rfl

theorem r_floor {q : Int} (hx : Fl x q) (h : ∀ k, k = q → Q (.int k s.toks) { s with toks := s.toks + 1 }) : wpAny (model prog w) A (call (.builtin "math.floor") [.float x t]) Q E s := by
  obtain ⟨sg, m, e, hd, hq⟩ := hx
  refine call_fn_gives kind_floor plain_floor entry_floor (args_floor _) (gives_mfloor t hd) ?_
  rw [hq]
  exact h _ rfl
theorem r_int {q : Int} (hx : Tr x q) (h : ∀ k, k = q → Q (.int k s.toks) { s with toks := s.toks + 1 }) : wpAny (model prog w) A (call (.type "int") [.float x t]) Q E s := by
  obtain ⟨sg, m, e, hd, hq⟩ := hx
  refine call_int_float hd ?_
  rw [hq]
  exact h _ rfl
theorem tr_toInt {q : Int} (hx : Tr x q) : toInt Float64.truncOf x = q := by
  obtain ⟨sg, m, e, hd, hq⟩ := hx
  rw [toInt_fin hd, hq]
theorem r_trunc {q : Int} (hh : A.handled = none) (hx : Tr x q) (h : ∀ k, k = q → Q (.int k s.toks) { s with toks := s.toks + 1 }) : wpAny (model prog w) A (call (.builtin "math.trunc") [.float x t]) Q E s := by
  have hn : Float64.isNaN x = true → False := by
    obtain ⟨sg, m, e, hd, _⟩ := hx
    intro q; unfold Float64.isNaN at q; rw [hd] at q; cases q
  have hi : Float64.isInf x = true → False := by
    obtain ⟨sg, m, e, hd, _⟩ := hx
    intro q; unfold Float64.isInf at q; rw [hd] at q; cases q
  refine call_trunc_float hh (fun q => (hn q).elim) (fun q => (hi q).elim) fun _ => ?_
  rw [tr_toInt hx]
  exact h _ rfl
theorem r_lt_fi (hx : x = hf a) (hB : a.natAbs < 2 ^ 53) (h : Q (.bool (decide (a < 2 * n))) s) : wpAny (model prog w) A (compareOp .Lt (.float x t) (.int n u)) Q E s := by
  subst hx
  refine PyProof.Rows.lt_fi ?_
  rw [cmpInt_lt_hf hB]
  exact h
theorem r_ge_ff (hx : x = hf a) (hy : y = hf b) (hB : a.natAbs < 2 ^ 53 ∧ b.natAbs < 2 ^ 53) (h : Q (.bool (decide (b ≤ a))) s) : wpAny (model prog w) A (compareOp .GtE (.float x t) (.float y u)) Q E s := by
  subst hx; subst hy
  refine AutoFloatOps.ge_0 ?_
  rw [cmp_gt_hf hB.1 hB.2, cmp_eq_hf hB.1 hB.2]
  have e : (decide (b < a) || decide (a = b)) = decide (b ≤ a) := by
    rw [← Bool.decide_or]; apply decide_eq_decide.mpr; omega
  rw [e]; exact h
theorem r_ne_ff (hx : x = hf a) (hy : y = hf b) (hB : a.natAbs < 2 ^ 53 ∧ b.natAbs < 2 ^ 53) (h : Q (.bool (decide (a ≠ b))) s) : wpAny (model prog w) A (compareOp .NotEq (.float x t) (.float y u)) Q E s := by
  subst hx; subst hy
  refine AutoFloatOps.ne_0 ?_
  have e : (Float64.cmp (hf a) (hf b) != some .eq) = decide (a ≠ b) := by
    rw [bne, cmp_eq_hf hB.1 hB.2, decide_not]
  rw [e]; exact h
end

set_option maxRecDepth 100000 in
set_option maxHeartbeats 8000000 in
open_top hd for PySem.Challenge.rw_ba5009_01

/-- a call of the def at `f` on `vs` hands back `res`, keeps the frame and the ledger -/
abbrev Says (w : World) (loose : List Str) (mean : ExcName → Option Value) (mg mb : Str → Option Value) (f : Addr) (D U : Nat) (pre : Prop) (vs : List Value) (res : Tok → Value) : Prop :=
  ∀ (dp un : Nat) (gd : Option (List Code)) (cn : Str) (cs : Scope) (a : Addr) (ccd : Value) (cl : List (Str × Addr)) (outer : List Env) (A₀ : Around) (base h₀ : Heap) (L : Addr) (m : Str → Option Value) (news : List (Addr × Obj)) (s : Shared) (Q E : Value → Shared → Prop),
    Below A₀ base outer h₀ → Fr h₀ L s.heap m → (hd.heap_39 w.params).In h₀ → News h₀ L s.heap news → Top hd.view_39 loose mean mg mb h₀ → cs.kind = .function →
    pre → dp + D < recursionLimit → un + U < cLine →
    (∀ (t : Tok) (h' : Heap) (tk' : Nat), Fr h₀ L h' m → News h₀ L h' news → Q (res t) { s with heap := h', toks := tk' }) →
      wpAny (model PySem.Challenge.rw_ba5009_01.row.prog w) (ktrTop dp un gd cn cs L a ccd cl outer) (call (.ref f) vs) Q E s

section
variable {w : World} {loose : List Str} {mean : ExcName → Option Value} {mg mb : Str → Option Value} {f : Addr} {D U : Nat} {pre : Prop} {vs : List Value} {res : Tok → Value}
  {dp un : Nat} {gd : Option (List Code)} {cn : Str} {cs : Scope} {a : Addr} {ccd : Value} {cl : List (Str × Addr)} {outer : List Env} {A₀ : Around} {base h₀ : Heap} {L : Addr} {m : Str → Option Value} {news : List (Addr × Obj)} {s : Shared} {Q E : Value → Shared → Prop}
theorem says_use (C : Says w loose mean mg mb f D U pre vs res) (B : Below A₀ base outer h₀) (F : Fr h₀ L s.heap m) (X : (hd.heap_39 w.params).In h₀) (N : News h₀ L s.heap news) (T : Top hd.view_39 loose mean mg mb h₀) (hk : cs.kind = .function)
    (hp : pre) (hdp : dp + D < recursionLimit) (hun : un + U < cLine)
    (ret : ∀ (t : Tok) (h' : Heap) (tk' : Nat), Fr h₀ L h' m → News h₀ L h' news → Q (res t) { s with heap := h', toks := tk' }) :
    wpAny (model PySem.Challenge.rw_ba5009_01.row.prog w) (ktrTop dp un gd cn cs L a ccd cl outer) (call (.ref f) vs) Q E s :=
  C _ _ _ _ _ _ _ _ _ _ _ _ _ _ _ _ _ _ B F X N T hk hp hdp hun ret
end

theorem lk43 (P : Params) : (hd.heap_39 P).lookup 43 = some { cls := .type "tuple", data := .seq #[.int 4 396, .int 6 397, .int 9 398, .int 11 399] } := by kernel_rfl
theorem in30 {w : World} {A : Around} {E Q : Value → Shared → Prop} {s : Shared} {h₀ : Heap} {L : Addr} {m : Str → Option Value} {k : Int} {t : Tok} (F : Fr h₀ L s.heap m) (X : (hd.heap_39 w.params).In h₀)
    (h : Q (.bool (decide (k = 4 ∨ k = 6 ∨ k = 9 ∨ k = 11))) s) : wpAny (model PySem.Challenge.rw_ba5009_01.row.prog w) A (compareOp .In (.int k t) (.ref 43)) Q E s := by
  have hT : IsTup s.heap 43 #[.int 4 396, .int 6 397, .int 9 398, .int 11 399] := ⟨_, F.keep _ _ (X _ _ (lk43 _)), rfl, _, rfl⟩
  refine in_tuple_ints (ns := [4, 6, 9, 11]) hT (by repeat constructor) ?_
  have e : ([4, 6, 9, 11].any (· == k)) = decide (k = 4 ∨ k = 6 ∨ k = 9 ∨ k = 11) := by
    simp only [List.any_cons, List.any_nil, Bool.or_false]
    rw [Bool.eq_iff_iff]
    simp only [Bool.or_eq_true, beq_iff_eq, decide_eq_true_eq]
    omega
  rw [e]; exact h

theorem sinj {a b : String} (h : Str.ofString a = Str.ofString b) : a = b := by
  rw [Str.ofString_eq_toList, Str.ofString_eq_toList] at h
  have h1 : (a.toList.map Char.toNat) = (b.toList.map Char.toNat) := by
    have := congrArg (fun x : Str => x.cps.toList) h
    simpa using this
  exact String.toList_inj.mp ((List.map_inj_right (fun x y h => Char.toNat_inj.mp h)).mp h1)
theorem sne {a b : String} (h : a ≠ b) : Str.ofString a ≠ Str.ofString b := fun e => h (sinj e)
theorem fr_same {h₀ h : Heap} {L : Addr} {m m' : Str → Option Value} (F : Fr h₀ L h m) (e : ∀ y, m y = m' y) : Fr h₀ L h m' := by
  have : m = m' := funext e
  rw [← this]; exact F
theorem fr_args1 {h₀ h : Heap} {L : Addr} {l : List (Str × Value)} {k : Str} {v : Value} (F : Fr h₀ L h (fun y => List.lookup y l)) (e : l = [(k, v)]) : Fr h₀ L h (fun y => if y = k then some v else none) := by
  subst e
  refine fr_same F fun y => ?_
  rw [List.lookup_cons]
  by_cases h : y = k
  · subst h; simp
  · have : (y == k) = false := by simpa using h
    simp [this, h]
theorem fr_args2 {h₀ h : Heap} {L : Addr} {l : List (Str × Value)} {k k' : Str} {v v' : Value} (F : Fr h₀ L h (fun y => List.lookup y l)) (e : l = [(k, v), (k', v')]) : Fr h₀ L h (fun y => if y = k then some v else if y = k' then some v' else none) := by
  subst e
  refine fr_same F fun y => ?_
  rw [List.lookup_cons, List.lookup_cons]
  by_cases h : y = k
  · subst h; simp
  · have : (y == k) = false := by simpa using h
    by_cases h' : y = k'
    · subst h'; simp [this, h]
    · have h2 : (y == k') = false := by simpa using h'
      simp [this, h, h2, h']
theorem fr_args3 {h₀ h : Heap} {L : Addr} {l : List (Str × Value)} {k k' k'' : Str} {v v' v'' : Value} (F : Fr h₀ L h (fun y => List.lookup y l)) (e : l = [(k, v), (k', v'), (k'', v'')]) : Fr h₀ L h (fun y => if y = k then some v else if y = k' then some v' else if y = k'' then some v'' else none) := by
  subst e
  refine fr_same F fun y => ?_
  rw [List.lookup_cons, List.lookup_cons, List.lookup_cons]
  by_cases h : y = k
  · subst h; simp
  · have : (y == k) = false := by simpa using h
    by_cases h' : y = k'
    · subst h'; simp [this, h]
    · have h2 : (y == k') = false := by simpa using h'
      by_cases h'' : y = k''
      · subst h''; simp [this, h, h2, h']
      · have h3 : (y == k'') = false := by simpa using h''
        simp [this, h, h2, h', h3, h'']
local macro_rules | `(tactic| walk_at "eval Name") => `(tactic| (k_here; (with_reducible refine' ld (m := _) ?hF ?hv ?_ ?hk ?hl ?hd); (case hF => k_asm); (case hv => k_dflt ((repeat ((refine (if_neg (sne ?ne)).trans ?_); (case ne => (simp only [ne_eq, String.reduceEq, not_false_eq_true]; done)))); exact if_pos rfl)); (case hl => kernel_rfl!); (case hk => kernel_rfl!); (case hd => decide +kernel)))
theorem call1 {M : Model} {A : Around} {E : Value → Shared → Prop} {s : Shared} {env : Env} {x : Str} {p pos : Pos} {args : List Expr} {Q : Value → Shared → Prop}
    (h : wpAny M A (eval (.Name x p) env) (fun f s₁ => wpAny M A (callWith pos f [] (backTo pos (starEach args env)) []) Q E s₁) E s) :
    wpAny M A (eval (.Call (.Name x p) args [] pos) env) Q E s := Call_Name rfl h
local macro_rules | `(tactic| walk_at "ite") => `(tactic| (k_here; first
  | ((refine ite_pos ?hc ?_); (case hc => ((try simp only [beq_iff_eq, bne_iff_ne, decide_eq_true_eq, Bool.not_eq_true', beq_eq_false_iff_ne, bne_eq_false_iff_eq, decide_eq_false_iff_not]); omega)))
  | ((refine ite_neg ?hc ?_); (case hc => ((try simp only [beq_iff_eq, bne_iff_ne, decide_eq_true_eq, Bool.not_eq_true, Bool.not_eq_true', beq_eq_false_iff_ne, bne_eq_false_iff_eq, decide_eq_false_iff_not]); omega)))))
local macro_rules | `(tactic| walk_at "eval Call") => `(tactic| (k_here; (with_reducible refine call1 ?_)))

def leapB (y : Int) : Bool := decide (y % 4 = 0 ∧ (y % 100 ≠ 0 ∨ y % 400 = 0))

set_option maxHeartbeats 8000000 in
theorem isleap_says (w : World) (loose : List Str) (mean : ExcName → Option Value) (mg mb : Str → Option Value) (y : Int) (ty : Tok) : Says w loose mean mg mb 50 1 8 True [.int y ty] (fun _ => .bool (leapB y)) := by
  unfold Says
  k_fill
  intro dp un gd cn cs a ccd cl outer A₀ base h₀ L m news s Q E B F KX N T hk _ hdp hun hret
  refine wpAny_call ?_
  k_dflt cell_enter
  k_steps
  all_goals (
    refine cb_retB hret ?_ (by k_asm) (by k_asm)
    law_fm
    unfold leapB
    rw [Bool.eq_iff_iff]
    simp only [beq_iff_eq, bne_iff_ne, decide_eq_true_eq]
    omega)

theorem leap_ways (y : Int) : (leapB y = true ∧ y % 4 = 0 ∧ (y % 100 ≠ 0 ∨ y % 400 = 0)) ∨ (leapB y = false ∧ ¬ (y % 4 = 0 ∧ (y % 100 ≠ 0 ∨ y % 400 = 0))) := by
  unfold leapB
  by_cases h : y % 4 = 0 ∧ (y % 100 ≠ 0 ∨ y % 400 = 0)
  · exact .inl ⟨by simpa using h, h⟩
  · exact .inr ⟨by simpa using h, h⟩

local macro_rules | `(tactic| walk_at "call ref") => `(tactic| (k_here; (with_reducible show wpAny _ _ (call (Value.ref 50) [Value.int _ _]) _ _ _); k_dflt (refine' says_use (isleap_says _ _ _ _ _ _ _) ?k1 ?k2 ?k3 ?k4 ?k5 ?kK ?kp ?kd ?ku ?_; (case k1 => k_asm); (case k2 => k_asm); (case k3 => k_asm); (case k4 => k_asm); (case k5 => k_asm); (case kK => first | exact rfl | assumption); (case kp => trivial); (case kd => ktr_room); (case ku => ktr_units)); intro t9 h9 tk9 F9 N9; (try dsimp only); (try k_fold); (rcases leap_ways _ with ⟨hl9, hl8⟩ | ⟨hl9, hl8⟩ <;> rw [hl9])))

local macro_rules | `(tactic| walk_at "compareOp In int ref") => `(tactic| (k_here; k_dflt (refine' in30 ?F ?X ?_; (case F => k_asm); (case X => k_asm)); (try dsimp only)))


def dim (y m : Int) : Int := if m = 2 then (if leapB y = true then 29 else 28) else if m = 4 ∨ m = 6 ∨ m = 9 ∨ m = 11 then 30 else 31

set_option maxHeartbeats 8000000 in
theorem legal_says (w : World) (loose : List Str) (mean : ExcName → Option Value) (mg mb : Str → Option Value) (y m d : Int) (t1 t2 t3 : Tok) : Says w loose mean mg mb 57 2 16 (0 < d ∧ d ≤ dim y m) [.int y t1, .int m t2, .int d t3] (fun _ => .bool true) := by
  unfold Says
  k_fill
  intro dp un gd cn cs a ccd cl outer A₀ base h₀ L m news s Q E B F KX N T hk hp hdp hun hret
  refine wpAny_call ?_
  k_dflt cell_enter
  obtain ⟨hp1, hp2⟩ := hp
  unfold dim at hp2
  k_steps
  all_goals first
    | exact hret 0 _ _ (by k_asm) (by k_asm)
    | (exfalso; (repeat' split at hp2) <;> first | omega | (simp_all; done) | (simp_all; omega))
    | fail "legal: the end"

local macro_rules | `(tactic| walk_at "call ref") => `(tactic| (k_here; (with_reducible show wpAny _ _ (call (Value.ref 57) [Value.int _ _, Value.int _ _, Value.int _ _]) _ _ _); k_dflt (refine' says_use (legal_says _ _ _ _ _ _ _ _ _ _ _) ?k1 ?k2 ?k3 ?k4 ?k5 ?kK ?kp ?kd ?ku ?_; (case k1 => k_asm); (case k2 => k_asm); (case k3 => k_asm); (case k4 => k_asm); (case k5 => k_asm); (case kK => first | exact rfl | assumption); (case kp => assumption); (case kd => ktr_room); (case ku => ktr_units)); intro t9 h9 tk9 F9 N9; (try dsimp only); (try k_fold)))

theorem fl_mon' {v : UInt64} {m l d : Int} (hv : v = qf (367 * m - 362) 12) (hB : 1 ≤ m ∧ m ≤ 12 ∧ -2 ≤ l ∧ l ≤ 0 ∧ 1 ≤ d ∧ d ≤ 31) : Fl (Float64.add (Float64.add v (Float64.ofInt l)) (Float64.ofInt d)) ((367 * m - 362) / 12 + l + d) := by
  subst hv
  exact fl_mon hB.1 hB.2.1 hB.2.2.1 hB.2.2.2.1 hB.2.2.2.2.1 hB.2.2.2.2.2


local macro_rules | `(tactic| walk_at "binaryOp Add float float") => `(tactic| (((with_reducible refine' r_add_ff ?hx ?hy ?hB ?_); (case hx => first | (with_reducible exact rfl) | exact epoch_hf | exact epochp_hf | exact half_hf); (case hy => first | (with_reducible exact rfl) | exact epoch_hf | exact epochp_hf | exact half_hf); (case hB => omega)); intro k9 hk9; (try dsimp only)))
local macro_rules | `(tactic| walk_at "binaryOp Sub float float") => `(tactic| (((with_reducible refine' r_sub_ff ?hx ?hy ?hB ?_); (case hx => first | (with_reducible exact rfl) | exact epoch_hf | exact epochp_hf | exact half_hf); (case hy => first | (with_reducible exact rfl) | exact epoch_hf | exact epochp_hf | exact half_hf); (case hB => omega)); intro k9 hk9; (try dsimp only)))
local macro_rules | `(tactic| walk_at "binaryOp Add float int") => `(tactic| (((with_reducible refine' r_add_fi ?hx ?hB ?_); (case hx => first | (with_reducible exact rfl) | exact epoch_hf | exact epochp_hf | exact half_hf); (case hB => omega)); intro k9 hk9; (try dsimp only)))
local macro_rules | `(tactic| walk_at "binaryOp Sub float int") => `(tactic| (((with_reducible refine' r_sub_fi ?hx ?hB ?_); (case hx => first | (with_reducible exact rfl) | exact epoch_hf | exact epochp_hf | exact half_hf); (case hB => omega)); intro k9 hk9; (try dsimp only)))
local macro_rules | `(tactic| walk_at "binaryOp Div int int") => `(tactic| (((with_reducible refine' r_div_ii ?hh ?hB ?_); (case hh => with_unfolding_all rfl); (case hB => omega)); intro v9 q9 hfl9 htr9 hv9 hq9; (try dsimp only)))
local macro_rules | `(tactic| walk_at "call builtin:math.floor") => `(tactic| ((with_reducible show wpAny _ _ (call _ [Value.float _ _]) _ _ _); ((with_reducible refine' r_floor ?hx ?_); (case hx => first | (with_reducible assumption) | exact fl_mon' (by with_reducible assumption) (by omega) | exact fl_hf (by omega))); intro k9 hk9; subst hk9; (try dsimp only)))

theorem ret_f {h₀ h' : Heap} {L : Addr} {m : Str → Option Value} {news : List (Addr × Obj)} {s : Shared} {Q : Value → Shared → Prop} {t : Tok} {tk' : Nat} {x y : Int}
    (hret : ∀ (t : Tok) (h' : Heap) (tk' : Nat), Fr h₀ L h' m → News h₀ L h' news → Q (.float (hf x) t) { s with heap := h', toks := tk' }) (e : y = x) (F : Fr h₀ L h' m) (N : News h₀ L h' news) : Q (.float (hf y) t) { s with heap := h', toks := tk' } := by
  subst e
  exact hret t h' tk' F N
def dYear (y : Int) : Int := 365 * (y - 1) + (y - 1) / 4 - (y - 1) / 100 + (y - 1) / 400
def mOff (y m : Int) : Int := (367 * m - 362) / 12 + (if m ≤ 2 then 0 else if leapB y = true then -1 else -2)

set_option maxHeartbeats 8000000 in
theorem tojd_says (w : World) (loose : List Str) (mean : ExcName → Option Value) (mg mb : Str → Option Value) (y m d : Int) (t1 t2 t3 : Tok) : Says w loose mean mg mb 64 4 32 (1 ≤ y ∧ y ≤ 2000000000 ∧ 1 ≤ m ∧ m ≤ 12 ∧ 0 < d ∧ d ≤ dim y m) [.int y t1, .int m t2, .int d t3] (fun t => .float (hf (2 * (dYear y + mOff y m + d) + 3442849)) t) := by
  unfold Says
  k_fill
  intro dp un gd cn cs a ccd cl outer A₀ base h₀ L m news s Q E B F KX N T hk hp hdp hun hret
  refine wpAny_call ?_
  k_dflt cell_enter
  obtain ⟨hp1, hp2, hp3, hp4, hp5⟩ := hp
  have hp6 : d ≤ 31 := by
    have := hp5.2
    unfold dim at this
    (repeat' split at this) <;> omega
  k_steps
  all_goals (
    refine ret_f hret ?_ (by k_asm) (by k_asm)
    unfold dYear mOff
    first
    | (rw [if_pos (by assumption)]; omega)
    | (rw [if_neg (by assumption), if_pos (by assumption)]; omega)
    | (rw [if_neg (by assumption), if_neg (by simp [*])]; omega)
    | fail "tojd: the end")

abbrev tup3 (a b c : Int) (t1 t2 t3 : Tok) (n : Nat) : Obj := { cls := .type "tuple", data := .seq #[.int a t1, .int b t2, .int c t3] n }
/-- as Says, but a new tuple of three ints comes back -/
abbrev Says3 (w : World) (loose : List Str) (mean : ExcName → Option Value) (mg mb : Str → Option Value) (f : Addr) (D U : Nat) (pre : Prop) (vs : List Value) (r1 r2 r3 : Int) : Prop :=
  ∀ (dp un : Nat) (gd : Option (List Code)) (cn : Str) (cs : Scope) (a : Addr) (ccd : Value) (cl : List (Str × Addr)) (outer : List Env) (A₀ : Around) (base h₀ : Heap) (L : Addr) (m : Str → Option Value) (news : List (Addr × Obj)) (s : Shared) (Q E : Value → Shared → Prop),
    Below A₀ base outer h₀ → Fr h₀ L s.heap m → (hd.heap_39 w.params).In h₀ → News h₀ L s.heap news → Top hd.view_39 loose mean mg mb h₀ → cs.kind = .function →
    pre → dp + D < recursionLimit → un + U < cLine →
    (∀ (d : Addr) (t1 t2 t3 : Tok) (n : Nat) (h' : Heap) (tk' : Nat), Fr h₀ L h' m → News h₀ L h' ((d, tup3 r1 r2 r3 t1 t2 t3 n) :: news) → AllLt d news → Q (.ref d) { s with heap := h', toks := tk' }) →
      wpAny (model PySem.Challenge.rw_ba5009_01.row.prog w) (ktrTop dp un gd cn cs L a ccd cl outer) (call (.ref f) vs) Q E s
section
variable {w : World} {loose : List Str} {mean : ExcName → Option Value} {mg mb : Str → Option Value} {f : Addr} {D U : Nat} {pre : Prop} {vs : List Value} {r1 r2 r3 : Int}
  {dp un : Nat} {gd : Option (List Code)} {cn : Str} {cs : Scope} {a : Addr} {ccd : Value} {cl : List (Str × Addr)} {outer : List Env} {A₀ : Around} {base h₀ : Heap} {L : Addr} {m : Str → Option Value} {news : List (Addr × Obj)} {s : Shared} {Q E : Value → Shared → Prop}
theorem says3_use (C : Says3 w loose mean mg mb f D U pre vs r1 r2 r3) (B : Below A₀ base outer h₀) (F : Fr h₀ L s.heap m) (X : (hd.heap_39 w.params).In h₀) (N : News h₀ L s.heap news) (T : Top hd.view_39 loose mean mg mb h₀) (hk : cs.kind = .function)
    (hp : pre) (hdp : dp + D < recursionLimit) (hun : un + U < cLine)
    (ret : ∀ (d : Addr) (t1 t2 t3 : Tok) (n : Nat) (h' : Heap) (tk' : Nat), Fr h₀ L h' m → News h₀ L h' ((d, tup3 r1 r2 r3 t1 t2 t3 n) :: news) → AllLt d news → Q (.ref d) { s with heap := h', toks := tk' }) :
    wpAny (model PySem.Challenge.rw_ba5009_01.row.prog w) (ktrTop dp un gd cn cs L a ccd cl outer) (call (.ref f) vs) Q E s :=
  C _ _ _ _ _ _ _ _ _ _ _ _ _ _ _ _ _ _ B F X N T hk hp hdp hun ret
theorem ret3 {h' : Heap} {news' : List (Addr × Obj)} {d : Addr} {x1 x2 x3 : Int} {t1 t2 t3 : Tok} {n tk' : Nat}
    (hret : ∀ (d : Addr) (t1 t2 t3 : Tok) (n : Nat) (h' : Heap) (tk' : Nat), Fr h₀ L h' m → News h₀ L h' ((d, tup3 r1 r2 r3 t1 t2 t3 n) :: news) → AllLt d news → Q (.ref d) { s with heap := h', toks := tk' })
    (e : x1 = r1 ∧ x2 = r2 ∧ x3 = r3) (F : Fr h₀ L h' m) (NM : News h₀ L h' news' ∧ (d, tup3 x1 x2 x3 t1 t2 t3 n) ∈ news') (hn : ∀ p ∈ news, p ∈ news') (hl : AllLt d news) : Q (.ref d) { s with heap := h', toks := tk' } := by
  obtain ⟨e1, e2, e3⟩ := e
  subst e1; subst e2; subst e3
  refine hret d t1 t2 t3 n h' tk' F (fun p hp => ?_) hl
  rcases List.mem_cons.mp hp with rfl | hp
  · exact NM.1 _ NM.2
  · exact NM.1 p (hn p hp)
end

/-- the months by the day's place in the year, as the texts reckon them -/
def adjOf (y p : Int) : Int := if leapB y = true then (if p < 60 then 0 else 1) else (if p < 59 then 0 else 2)
def moOf (y p : Int) : Int := ((p - 1 + adjOf y p) * 12 + 373) / 367
def daOf (y p : Int) : Int := p - mOff y (moOf y p)
def PlaceOk (y p : Int) : Prop := 1 ≤ y ∧ y ≤ 2000000000 ∧ 1 ≤ p ∧ p ≤ 365 + (if leapB y = true then 1 else 0)

def L4 (y : Int) : Prop := y % 4 = 0 ∧ (y % 100 ≠ 0 ∨ y % 400 = 0)

/-- the day's number, cut by the cycles -/
theorem day_ways {y p : Int} (h : PlaceOk y p) : ∃ a d2 d3 d4 r1 r2 r3 r4 : Int, dYear y + p - 1 = 146097 * a + r1 ∧ 0 ≤ a ∧ a ≤ 5000000 ∧ (0 ≤ r1 ∧ r1 < 146097) ∧ r1 = 36524 * d2 + r2 ∧ (0 ≤ r2 ∧ r2 < 36524) ∧ r2 = 1461 * d3 + r3 ∧ (0 ≤ r3 ∧ r3 < 1461) ∧ r3 = 365 * d4 + r4 ∧ (0 ≤ r4 ∧ r4 < 365) ∧
    (0 ≤ d2 ∧ d2 ≤ 4 ∧ 0 ≤ d3 ∧ d3 ≤ 24 ∧ 0 ≤ d4 ∧ d4 ≤ 4) ∧ 1 ≤ p ∧
    ((d2 ≠ 4 ∧ d4 ≠ 4 ∧ y = 400 * a + 100 * d2 + 4 * d3 + d4 + 1 ∧ p = r4 + 1 ∧ p ≤ 365) ∨ (leapB y = true ∧ p = 366 ∧ d2 ≠ 4 ∧ d4 = 4 ∧ y = 400 * a + 100 * d2 + 4 * d3 + d4 ∧ r4 = 0) ∨ (leapB y = true ∧ p = 366 ∧ d2 = 4 ∧ d4 = 0 ∧ d3 = 0 ∧ r4 = 0 ∧ y = 400 * a + 100 * d2 + 4 * d3 + d4)) := by
  obtain ⟨h1, h2, h3, h4⟩ := h
  unfold dYear
  rcases leap_ways y with ⟨hl, h5⟩ | ⟨hl, h5⟩
  · rw [if_pos hl] at h4
    by_cases h7 : p ≤ 365
    · refine ⟨(y - 1) / 400, (y - 1) % 400 / 100, (y - 1) % 100 / 4, (y - 1) % 4, 36524 * ((y - 1) % 400 / 100) + 1461 * ((y - 1) % 100 / 4) + 365 * ((y - 1) % 4) + (p - 1), 1461 * ((y - 1) % 100 / 4) + 365 * ((y - 1) % 4) + (p - 1), 365 * ((y - 1) % 4) + (p - 1), p - 1, ?_⟩
      omega
    · have h8 : p = 366 := by omega
      by_cases h9 : (y - 1) % 100 / 4 ≤ 23
      · refine ⟨(y - 1) / 400, (y - 1) % 400 / 100, (y - 1) % 100 / 4, 4, 36524 * ((y - 1) % 400 / 100) + 1461 * ((y - 1) % 100 / 4) + 1460, 1461 * ((y - 1) % 100 / 4) + 1460, 1460, 0, ?_⟩
        refine ⟨by omega, by omega, by omega, by omega, by omega, by omega, by omega, by omega, by omega, by omega, by omega, by omega, .inr (.inl ⟨hl, h8, by omega, rfl, by omega, rfl⟩)⟩
      · refine ⟨(y - 1) / 400, 4, 0, 0, 146096, 0, 0, 0, ?_⟩
        refine ⟨by omega, by omega, by omega, by omega, by omega, by omega, by omega, by omega, by omega, by omega, by omega, by omega, .inr (.inr ⟨hl, h8, rfl, rfl, rfl, rfl, by omega⟩)⟩
  · rw [hl] at h4
    simp only [Bool.false_eq_true, if_false] at h4
    refine ⟨(y - 1) / 400, (y - 1) % 400 / 100, (y - 1) % 100 / 4, (y - 1) % 4, 36524 * ((y - 1) % 400 / 100) + 1461 * ((y - 1) % 100 / 4) + 365 * ((y - 1) % 4) + (p - 1), 1461 * ((y - 1) % 100 / 4) + 365 * ((y - 1) % 4) + (p - 1), 365 * ((y - 1) % 4) + (p - 1), p - 1, ?_⟩
    omega

/-- a mark: the year's kind and what hangs on it, to be split at the call -/
def LeapOr (y p : Int) : Prop := (leapB y = true ∧ (p < 60 → moOf y p = ((p - 1 + 0) * 12 + 373) / 367) ∧ (60 ≤ p → moOf y p = ((p - 1 + 1) * 12 + 373) / 367)) ∨
    (leapB y = false ∧ (p < 59 → moOf y p = ((p - 1 + 0) * 12 + 373) / 367) ∧ (59 ≤ p → moOf y p = ((p - 1 + 2) * 12 + 373) / 367))
theorem leap_or (y p : Int) : LeapOr y p := by
  unfold LeapOr moOf adjOf
  cases leapB y
  · refine .inr ⟨rfl, fun h => by simp [h], fun h => ?_⟩
    have : ¬ p < 59 := by omega
    simp [this]
  · refine .inl ⟨rfl, fun h => by simp [h], fun h => ?_⟩
    have : ¬ p < 60 := by omega
    simp [this]
theorem LeapOr.out {y p : Int} (h : LeapOr y p) : (leapB y = true ∧ (p < 60 → moOf y p = ((p - 1 + 0) * 12 + 373) / 367) ∧ (60 ≤ p → moOf y p = ((p - 1 + 1) * 12 + 373) / 367)) ∨
    (leapB y = false ∧ (p < 59 → moOf y p = ((p - 1 + 0) * 12 + 373) / 367) ∧ (59 ≤ p → moOf y p = ((p - 1 + 2) * 12 + 373) / 367)) := h

def moL (l : Bool) (p : Int) : Int := ((p - 1 + (if l = true then (if p < 60 then 0 else 1) else (if p < 59 then 0 else 2))) * 12 + 373) / 367
def offL (l : Bool) (m : Int) : Int := (367 * m - 362) / 12 + (if m ≤ 2 then 0 else if l = true then -1 else -2)
def dimL (l : Bool) (m : Int) : Int := if m = 2 then (if l = true then 29 else 28) else if m = 4 ∨ m = 6 ∨ m = 9 ∨ m = 11 then 30 else 31
def moTest (l : Bool) (p : Int) : Bool := decide (1 ≤ moL l p ∧ moL l p ≤ 12 ∧ offL l (moL l p) < p ∧ p - offL l (moL l p) ≤ dimL l (moL l p) ∧ 0 ≤ offL l (moL l p) ∧ offL l (moL l p) ≤ 335)
theorem mo_all : ((List.range 365).all fun n => moTest false ((n : Int) + 1)) = true ∧ ((List.range 366).all fun n => moTest true ((n : Int) + 1)) = true := by decide +kernel
theorem mo_facts {y p : Int} (h : PlaceOk y p) : 1 ≤ moOf y p ∧ moOf y p ≤ 12 ∧ mOff y (moOf y p) < p ∧ p - mOff y (moOf y p) ≤ dim y (moOf y p) ∧ 0 ≤ mOff y (moOf y p) ∧ mOff y (moOf y p) ≤ 335 := by
  obtain ⟨h1, h2, h3, h4⟩ := h
  have e1 : moOf y p = moL (leapB y) p := rfl
  have e2 : ∀ m, mOff y m = offL (leapB y) m := fun _ => rfl
  have e3 : ∀ m, dim y m = dimL (leapB y) m := fun _ => rfl
  have e4 : (((p - 1).toNat : Nat) : Int) + 1 = p := by omega
  rw [e2, e3, e1]
  have key : moTest (leapB y) p = true := by
    cases hl : leapB y
    · rw [hl] at h4
      simp only [Bool.false_eq_true, if_false] at h4
      have := mo_all.1
      simp only [List.all_eq_true, List.mem_range] at this
      have := this (p - 1).toNat (by omega)
      rwa [e4] at this
    · rw [hl] at h4
      simp only [if_true] at h4
      have := mo_all.2
      simp only [List.all_eq_true, List.mem_range] at this
      have := this (p - 1).toNat (by omega)
      rwa [e4] at this
  unfold moTest at key
  exact of_decide_eq_true key

theorem mOff_one (y : Int) : mOff y 1 = 0 := by
  unfold mOff; rw [if_pos (by decide)]; decide

/-- marks: what a division by n, a remainder by n, a year is to be called -/
def AimD (_n _q : Int) : Prop := True
def AimM (_n _r : Int) : Prop := True
def AimY (_y : Int) : Prop := True
section
variable {prog : Program} {w : World} {A : Around} {E : Value → Shared → Prop} {s : Shared} {x : UInt64} {a n q r : Int} {t u : Tok} {Q : Value → Shared → Prop}
theorem r_div_aim (hh : A.handled = none) (hx : x = hf a) (_hm : AimD n q) (hB : 0 ≤ a ∧ 0 < n ∧ 2 * n ≤ 1048576 ∧ a.natAbs < 2 ^ 53 ∧ q < 8589934591 ∧ a / (2 * n) = q)
    (h : ∀ v, Fl v q → Q (.float v s.toks) { s with toks := s.toks + 1 }) : wpAny (model prog w) A (binaryOp .Div (.float x t) (.int n u)) Q E s :=
  r_div_fi hh hx ⟨hB.1, hB.2.1, hB.2.2.1, hB.2.2.2.1, by omega⟩ fun v q' hv hq => h v (by rw [hq, hB.2.2.2.2.2] at hv; exact hv)
theorem r_mod_aim (hh : A.handled = none) (hx : x = hf a) (_hm : AimM n r) (hB : 0 ≤ a ∧ 0 < n ∧ a.natAbs < 2 ^ 53 ∧ (2 * n).natAbs < 2 ^ 53 ∧ a % (2 * n) = 2 * r)
    (h : Q (.float (hf (2 * r)) s.toks) { s with toks := s.toks + 1 }) : wpAny (model prog w) A (binaryOp .Mod (.float x t) (.int n u)) Q E s :=
  r_mod_fi hh hx ⟨hB.1, hB.2.1, hB.2.2.1, hB.2.2.2.1⟩ fun k hk => by rw [hk, hB.2.2.2.2]; exact h
end
theorem tojd_at (w : World) (loose : List Str) (mean : ExcName → Option Value) (mg mb : Str → Option Value) (y y' m d : Int) (t1 t2 t3 : Tok) (_hm : AimY y) (hy : y' = y) : Says w loose mean mg mb 64 4 32 (1 ≤ y ∧ y ≤ 2000000000 ∧ 1 ≤ m ∧ m ≤ 12 ∧ 0 < d ∧ d ≤ dim y m) [.int y' t1, .int m t2, .int d t3] (fun t => .float (hf (2 * (dYear y + mOff y m + d) + 3442849)) t) := by
  subst hy
  exact tojd_says _ _ _ _ _ _ _ _ _ _ _
theorem date1_ok {y : Int} (h : 1 ≤ y ∧ y ≤ 2000000000) : 1 ≤ y ∧ y ≤ 2000000000 ∧ (1 : Int) ≤ 1 ∧ (1 : Int) ≤ 12 ∧ (0 : Int) < 1 ∧ 1 ≤ dim y 1 := by
  refine ⟨h.1, h.2, by decide, by decide, by decide, ?_⟩
  unfold dim
  (repeat' split) <;> omega
theorem datem_ok {y m : Int} (h : 1 ≤ y ∧ y ≤ 2000000000 ∧ 1 ≤ m ∧ m ≤ 12) : 1 ≤ y ∧ y ≤ 2000000000 ∧ 1 ≤ m ∧ m ≤ 12 ∧ (0 : Int) < 1 ∧ 1 ≤ dim y m := by
  refine ⟨h.1, h.2.1, h.2.2.1, h.2.2.2, by decide, ?_⟩
  unfold dim
  (repeat' split) <;> omega

theorem isleap_at (w : World) (loose : List Str) (mean : ExcName → Option Value) (mg mb : Str → Option Value) (y y' : Int) (ty : Tok) (_hm : AimY y) (hy : y' = y) : Says w loose mean mg mb 50 1 8 True [.int y' ty] (fun _ => .bool (leapB y)) := by
  subst hy
  exact isleap_says _ _ _ _ _ _ _

section
variable {prog : Program} {w : World} {A : Around} {E : Value → Shared → Prop} {s : Shared} {n : Int} {t : Tok} {Q : Value → Shared → Prop}
theorem r_add_true (h : Q (.int (n + 1) s.toks) { s with toks := s.toks + 1 }) : wpAny (model prog w) A (binaryOp .Add (.int n t) (.bool true)) Q E s := add_int_bool h
theorem r_sub_true (h : Q (.int (n - 1) s.toks) { s with toks := s.toks + 1 }) : wpAny (model prog w) A (binaryOp .Sub (.int n t) (.bool true)) Q E s := IntBool.sub_int_bool h
theorem r_sub_false (h : Q (.int n s.toks) { s with toks := s.toks + 1 }) : wpAny (model prog w) A (binaryOp .Sub (.int n t) (.bool false)) Q E s := IntBool.sub_int_bool (by rw [if_neg Bool.false_ne_true, Int.sub_zero]; exact h)
theorem r_add_false (h : Q (.int n s.toks) { s with toks := s.toks + 1 }) : wpAny (model prog w) A (binaryOp .Add (.int n t) (.bool false)) Q E s := add_int_bool (by rw [if_neg Bool.false_ne_true, Int.add_zero]; exact h)
end

local macro_rules | `(tactic| walk_at "binaryOp Sub int bool") => `(tactic| (first | (with_reducible refine r_sub_true ?_) | (with_reducible refine r_sub_false ?_); (try dsimp only)))
local macro_rules | `(tactic| walk_at "binaryOp Add int bool") => `(tactic| (first | (with_reducible refine r_add_true ?_) | (with_reducible refine r_add_false ?_); (try dsimp only)))
local macro_rules | `(tactic| walk_at "binaryOp Add int float") => `(tactic| (((with_reducible refine' r_add_if ?hx ?hB ?_); (case hx => first | (with_reducible exact rfl) | exact epoch_hf | exact epochp_hf | exact half_hf); (case hB => omega)); intro k9 hk9; (try dsimp only)))
local macro_rules | `(tactic| walk_at "binaryOp Mult float int") => `(tactic| (((with_reducible refine' r_mul_fi ?hx ?hB ?_); (case hx => first | (with_reducible exact rfl)); (case hB => omega)); intro k9 hk9; (try dsimp only)))
local macro_rules | `(tactic| walk_at "binaryOp Mod float int") => `(tactic| (((with_reducible refine' r_mod_fi ?hh ?hx ?hB ?_); (case hh => with_unfolding_all rfl); (case hx => first | (with_reducible exact rfl)); (case hB => omega)); intro k9 hk9; (try dsimp only)))
local macro_rules | `(tactic| walk_at "binaryOp Div float int") => `(tactic| (((with_reducible refine' r_div_fi ?hh ?hx ?hB ?_); (case hh => with_unfolding_all rfl); (case hx => first | (with_reducible exact rfl)); (case hB => omega)); intro v9 q9 hfl9 hq9; (try dsimp only)))
local macro_rules | `(tactic| walk_at "call type:int") => `(tactic| ((with_reducible show wpAny _ _ (call _ [Value.float _ _]) _ _ _); ((with_reducible refine' r_int ?hx ?_); (case hx => first | (with_reducible assumption) | exact tr_hf (by omega) (by omega))); intro k9 hk9; (try dsimp only)))
local macro_rules | `(tactic| walk_at "compareOp Lt float int") => `(tactic| (((with_reducible refine' r_lt_fi ?hx ?hB ?_); (case hx => first | (with_reducible exact rfl)); (case hB => omega)); (try dsimp only)))
local macro_rules | `(tactic| walk_at "binaryOp Mod float int") => `(tactic| (((with_reducible refine' r_mod_aim ?hh ?hx ?hm ?hB ?_); (case hh => with_unfolding_all rfl); (case hx => (with_reducible exact rfl)); (case hm => with_reducible assumption); (case hB => omega)); (try dsimp only)))
local macro_rules | `(tactic| walk_at "binaryOp Div float int") => `(tactic| (((with_reducible refine' r_div_aim ?hh ?hx ?hm ?hB ?_); (case hh => with_unfolding_all rfl); (case hx => (with_reducible exact rfl)); (case hm => with_reducible assumption); (case hB => omega)); intro v9 hfl9; (try dsimp only)))
local macro_rules | `(tactic| walk_at "call ref") => `(tactic| (k_here; (with_reducible show wpAny _ _ (call (Value.ref 64) [Value.int _ _, Value.int _ _, Value.int _ _]) _ _ _); k_dflt (refine' says_use (tojd_at _ _ _ _ _ _ _ _ _ _ _ _ (by with_reducible assumption) (by omega)) ?k1 ?k2 ?k3 ?k4 ?k5 ?kK ?kp ?kd ?ku ?_; (case k1 => k_asm); (case k2 => k_asm); (case k3 => k_asm); (case k4 => k_asm); (case k5 => k_asm); (case kK => first | exact rfl | assumption); (case kp => first | assumption | exact date1_ok (by omega) | exact datem_ok (by omega)); (case kd => ktr_room); (case ku => ktr_units)); intro t9 h9 tk9 F9 N9; (try dsimp only); (try k_fold); (try rw [mOff_one])))
local macro_rules | `(tactic| walk_at "call ref") => `(tactic| (k_here; (with_reducible show wpAny _ _ (call (Value.ref 50) [Value.int _ _]) _ _ _); k_dflt (refine' says_use (isleap_at _ _ _ _ _ _ _ _ (by with_reducible assumption) (by omega)) ?k1 ?k2 ?k3 ?k4 ?k5 ?kK ?kp ?kd ?ku ?_; (case k1 => k_asm); (case k2 => k_asm); (case k3 => k_asm); (case k4 => k_asm); (case k5 => k_asm); (case kK => first | exact rfl | assumption); (case kp => trivial); (case kd => ktr_room); (case ku => ktr_units)); intro t9 h9 tk9 F9 N9; (try dsimp only); (try k_fold); (first | ((with_reducible rename leapB _ = true => hb9); rw [hb9]) | ((with_reducible rename leapB _ = false => hb9); rw [hb9]) | ((with_reducible rename LeapOr _ _ => hL9); (rcases LeapOr.out hL9 with ⟨hb9, hb8, hb7⟩ | ⟨hb9, hb8, hb7⟩ <;> rw [hb9])))))

set_option maxHeartbeats 8000000 in
theorem fromjd_says (w : World) (loose : List Str) (mean : ExcName → Option Value) (mg mb : Str → Option Value) (y p : Int) (tj : Tok) : Says3 w loose mean mg mb 71 6 64 (PlaceOk y p) [.float (hf (2 * (dYear y + p) + 3442849)) tj] y (moOf y p) (daOf y p) := by
  unfold Says3
  k_fill
  intro dp un gd cn cs a ccd cl outer A₀ base h₀ L m news s Q E B F KX N T hk hp hdp hun hret
  refine wpAny_call ?_
  k_dflt cell_enter
  (rename Fr _ _ _ _ => F0)
  have F1 := fr_args1 (k := Str.ofString "jd") (v := .float (hf (2 * (dYear y + p) + 3442849)) tj) F0 (by with_unfolding_all rfl)
  clear F0
  have hda : daOf y p = p - mOff y (moOf y p) := rfl
  obtain ⟨hm1, hm2, hm3, hm4, hm5, hm6⟩ := mo_facts hp
  clear hm4
  have hp' := hp
  have hy1 := hp'.1
  have hy2 := hp'.2.1
  clear hp'
  obtain ⟨a, d2, d3, d4, r1, r2, r3, r4, hD, ha, ha2, hr1, hr1', hr2, hr2', hr3, hr3', hr4, hds, hp1, hw⟩ := day_ways hp
  have A1 : AimD 146097 a := trivial
  have A2 : AimM 146097 r1 := trivial
  have A3 : AimD 36524 d2 := trivial
  have A4 : AimM 36524 r2 := trivial
  have A5 : AimD 1461 d3 := trivial
  have A6 : AimM 1461 r3 := trivial
  have A7 : AimD 365 d4 := trivial
  have A8 : AimD 367 (moOf y p) := trivial
  have A9 : AimY y := trivial
  have hL := leap_or y p
  clear hp
  rcases hw with ⟨hw1, hw2, hw3, hw4, hw5⟩ | ⟨hlp, hw1, hw2, hw3, hw4, hw5⟩ | ⟨hlp, hw1, hw2, hw3, hw4, hw5, hw6⟩
  rotate_left
  iterate 2
    have hmo : moOf y p = ((p - 1 + 1) * 12 + 373) / 367 := by
      rcases LeapOr.out hL with ⟨hb9, hb8, hb7⟩ | ⟨hb9, hb8, hb7⟩
      · exact hb7 (by omega)
      · rw [hlp] at hb9; cases hb9
    rotate_left
  all_goals k_steps
  all_goals (
    refine ret3 hret ?_ (by k_asm) (by kcu_news) (by first | exact fun p hp => hp | exact fun p hp => List.mem_cons_of_mem _ hp | exact fun p hp => List.mem_cons_of_mem _ (List.mem_cons_of_mem _ hp)) (by kcu_lt)
    omega)

set_option maxHeartbeats 8000000 in
theorem legalp_says (w : World) (loose : List Str) (mean : ExcName → Option Value) (mg mb : Str → Option Value) (y z m d : Int) (t1 t2 t3 : Tok) : Says w loose mean mg mb 78 6 64 (z = y + 1788 ∧ 1 ≤ y ∧ 0 < m ∧ m ≤ 14 ∧ 0 < d ∧ d ≤ 28 ∧ (m ≠ 14 ∨ (m = 14 ∧ leapB z = true ∧ d ≤ 2) ∨ (m = 14 ∧ leapB z = false ∧ d = 1))) [.int y t1, .int m t2, .int d t3] (fun _ => .bool true) := by
  unfold Says
  k_fill
  intro dp un gd cn cs a ccd cl outer A₀ base h₀ L mm news s Q E B F KX N T hk hp hdp hun hret
  refine wpAny_call ?_
  k_dflt cell_enter
  (rename Fr _ _ _ _ => F0)
  have F1 := fr_args3 (k := Str.ofString "day") (v := .int d t3) (k' := Str.ofString "month") (v' := .int m t2) (k'' := Str.ofString "year") (v'' := .int y t1) F0 (by with_unfolding_all rfl)
  clear F0
  obtain ⟨hz, h1, h2, h3, h4, h5, h6⟩ := hp
  have A9 : AimY z := trivial
  rcases h6 with h6 | ⟨h6, h7, h8⟩ | ⟨h6, h7, h8⟩
  · k_steps
    all_goals exact hret 0 _ _ (by k_asm) (by k_asm)
  · k_steps
    all_goals exact hret 0 _ _ (by k_asm) (by k_asm)
  · k_steps
    all_goals exact hret 0 _ _ (by k_asm) (by k_asm)

local macro_rules | `(tactic| walk_at "call ref") => `(tactic| (k_here; (with_reducible show wpAny _ _ (call (Value.ref 78) [Value.int _ _, Value.int _ _, Value.int _ _]) _ _ _); k_dflt (refine' says_use (legalp_says _ _ _ _ _ _ _ _ _ _ _ _) ?k1 ?k2 ?k3 ?k4 ?k5 ?kK ?kp ?kd ?ku ?_; (case k1 => k_asm); (case k2 => k_asm); (case k3 => k_asm); (case k4 => k_asm); (case k5 => k_asm); (case kK => first | exact rfl | assumption); (case kp => with_reducible assumption); (case kd => ktr_room); (case ku => ktr_units)); intro t9 h9 tk9 F9 N9; (try dsimp only); (try k_fold)))

set_option maxHeartbeats 8000000 in
theorem tojdp_says (w : World) (loose : List Str) (mean : ExcName → Option Value) (mg mb : Str → Option Value) (y z m d : Int) (t1 t2 t3 : Tok) : Says w loose mean mg mb 85 8 96 ((z = y + 1788 ∧ 1 ≤ y ∧ 0 < m ∧ m ≤ 14 ∧ 0 < d ∧ d ≤ 28 ∧ (m ≠ 14 ∨ (m = 14 ∧ leapB z = true ∧ d ≤ 2) ∨ (m = 14 ∧ leapB z = false ∧ d = 1))) ∧ z ≤ 2000000000) [.int y t1, .int m t2, .int d t3] (fun t => .float (hf (2 * (dYear z + (28 * (m - 1) + d)) + 3442849)) t) := by
  unfold Says
  k_fill
  intro dp un gd cn cs a ccd cl outer A₀ base h₀ L mm news s Q E B F KX N T hk hp hdp hun hret
  refine wpAny_call ?_
  k_dflt cell_enter
  (rename Fr _ _ _ _ => F0)
  have F1 := fr_args3 (k := Str.ofString "day") (v := .int d t3) (k' := Str.ofString "month") (v' := .int m t2) (k'' := Str.ofString "year") (v'' := .int y t1) F0 (by with_unfolding_all rfl)
  clear F0
  obtain ⟨hp, hz2⟩ := hp
  have hp' := hp
  obtain ⟨hz, h1, h2, h3, h4, h5, _⟩ := hp'
  k_steps
  all_goals (
    refine ret_f hret ?_ (by k_asm) (by k_asm)
    unfold dYear
    omega)

local macro_rules | `(tactic| walk_at "compareOp GtE float float") => `(tactic| (((with_reducible refine' r_ge_ff ?hx ?hy ?hB ?_); (case hx => first | (with_reducible exact rfl) | exact epoch_hf | exact epochp_hf | exact half_hf); (case hy => first | (with_reducible exact rfl) | exact epoch_hf | exact epochp_hf | exact half_hf); (case hB => omega)); (try dsimp only)))
theorem dYear_low {y : Int} (h : 1789 ≤ y) : 653054 ≤ dYear y := by
  unfold dYear; omega

set_option maxHeartbeats 8000000 in
theorem fromjdp_says (w : World) (loose : List Str) (mean : ExcName → Option Value) (mg mb : Str → Option Value) (y p : Int) (tj : Tok) : Says3 w loose mean mg mb 92 6 64 (PlaceOk y p ∧ 1789 ≤ y ∧ ¬ (y % 400 = 0 ∧ p = 366)) [.float (hf (2 * (dYear y + p) + 3442849)) tj] (y - 1788) ((p - 1) / 28 + 1) ((p - 1) % 28 + 1) := by
  unfold Says3
  k_fill
  intro dp un gd cn cs a ccd cl outer A₀ base h₀ L m news s Q E B F KX N T hk hp hdp hun hret
  refine wpAny_call ?_
  k_dflt cell_enter
  (rename Fr _ _ _ _ => F0)
  have F1 := fr_args1 (k := Str.ofString "jd") (v := .float (hf (2 * (dYear y + p) + 3442849)) tj) F0 (by with_unfolding_all rfl)
  clear F0
  obtain ⟨hp, hlo, hno⟩ := hp
  have hlow := dYear_low hlo
  have hp' := hp
  have hy1 := hp'.1
  have hy2 := hp'.2.1
  clear hp'
  obtain ⟨a, d2, d3, d4, r1, r2, r3, r4, hD, ha, ha2, hr1, hr1', hr2, hr2', hr3, hr3', hr4, hds, hp1, hw⟩ := day_ways hp
  have A1 : AimD 146097 a := trivial
  have A2 : AimM 146097 r1 := trivial
  have A3 : AimD 36524 d2 := trivial
  have A4 : AimM 36524 r2 := trivial
  have A5 : AimD 1461 d3 := trivial
  have A6 : AimM 1461 r3 := trivial
  have A7 : AimD 365 d4 := trivial
  have A8 : AimD 28 ((p - 1) / 28) := trivial
  clear hp
  rcases hw with ⟨hw1, hw2, hw3, hw4, hw5⟩ | ⟨hlp, hw1, hw2, hw3, hw4, hw5⟩ | ⟨hlp, hw1, hw2, hw3, hw4, hw5, hw6⟩
  · k_steps
    all_goals (
      refine ret3 hret ?_ (by k_asm) (by kcu_news) (by first | exact fun p hp => hp | exact fun p hp => List.mem_cons_of_mem _ hp | exact fun p hp => List.mem_cons_of_mem _ (List.mem_cons_of_mem _ hp)) (by kcu_lt)
      omega)
  · k_steps
    all_goals (
      refine ret3 hret ?_ (by k_asm) (by kcu_news) (by first | exact fun p hp => hp | exact fun p hp => List.mem_cons_of_mem _ hp | exact fun p hp => List.mem_cons_of_mem _ (List.mem_cons_of_mem _ hp)) (by kcu_lt)
      omega)
  · exact absurd ⟨by omega, hw1⟩ hno

local macro_rules | `(tactic| walk_at "call ref") => `(tactic| (k_here; (with_reducible show wpAny _ _ (call (Value.ref 71) [Value.float _ _]) _ _ _); k_dflt (refine' says3_use (fromjd_says _ _ _ _ _ _ _ _) ?k1 ?k2 ?k3 ?k4 ?k5 ?kK ?kp ?kd ?ku ?_; (case k1 => k_asm); (case k2 => k_asm); (case k3 => k_asm); (case k4 => k_asm); (case k5 => k_asm); (case kK => first | exact rfl | assumption); (case kp => with_reducible assumption); (case kd => ktr_room); (case ku => ktr_units)); intro d9 t9 u9 v9 n9 h9 tk9 F9 N9 l9; (try dsimp only); (try k_fold)))
local macro_rules | `(tactic| walk_at "call ref") => `(tactic| (k_here; (with_reducible show wpAny _ _ (call (Value.ref 64) [Value.int _ _, Value.int _ _, Value.int _ _]) _ _ _); k_dflt (refine' says_use (tojd_says _ _ _ _ _ _ _ _ _ _ _) ?k1 ?k2 ?k3 ?k4 ?k5 ?kK ?kp ?kd ?ku ?_; (case k1 => k_asm); (case k2 => k_asm); (case k3 => k_asm); (case k4 => k_asm); (case k5 => k_asm); (case kK => first | exact rfl | assumption); (case kp => first | assumption | exact date1_ok (by omega)); (case kd => ktr_room); (case ku => ktr_units)); intro t9 h9 tk9 F9 N9; (try dsimp only); (try k_fold); (try rw [mOff_one])))

abbrev tup2 (a b : Int) (t1 t2 : Tok) (n : Nat) : Obj := { cls := .type "tuple", data := .seq #[.int a t1, .int b t2] n }
/-- as Says, but a new tuple of two ints comes back (and what else was made) -/
abbrev Says2 (w : World) (loose : List Str) (mean : ExcName → Option Value) (mg mb : Str → Option Value) (f : Addr) (D U : Nat) (pre : Prop) (vs : List Value) (r1 r2 : Int) : Prop :=
  ∀ (dp un : Nat) (gd : Option (List Code)) (cn : Str) (cs : Scope) (a : Addr) (ccd : Value) (cl : List (Str × Addr)) (outer : List Env) (A₀ : Around) (base h₀ : Heap) (L : Addr) (m : Str → Option Value) (news : List (Addr × Obj)) (s : Shared) (Q E : Value → Shared → Prop),
    Below A₀ base outer h₀ → Fr h₀ L s.heap m → (hd.heap_39 w.params).In h₀ → News h₀ L s.heap news → Top hd.view_39 loose mean mg mb h₀ → cs.kind = .function →
    pre → dp + D < recursionLimit → un + U < cLine →
    (∀ (d : Addr) (t1 t2 : Tok) (n : Nat) (h' : Heap) (tk' : Nat), Fr h₀ L h' m → News h₀ L h' ((d, tup2 r1 r2 t1 t2 n) :: news) → AllLt d news → Q (.ref d) { s with heap := h', toks := tk' }) →
      wpAny (model PySem.Challenge.rw_ba5009_01.row.prog w) (ktrTop dp un gd cn cs L a ccd cl outer) (call (.ref f) vs) Q E s
section
variable {w : World} {loose : List Str} {mean : ExcName → Option Value} {mg mb : Str → Option Value} {f : Addr} {D U : Nat} {pre : Prop} {vs : List Value} {r1 r2 : Int}
  {dp un : Nat} {gd : Option (List Code)} {cn : Str} {cs : Scope} {a : Addr} {ccd : Value} {cl : List (Str × Addr)} {outer : List Env} {A₀ : Around} {base h₀ : Heap} {L : Addr} {m : Str → Option Value} {news : List (Addr × Obj)} {s : Shared} {Q E : Value → Shared → Prop}
theorem says2_use (C : Says2 w loose mean mg mb f D U pre vs r1 r2) (B : Below A₀ base outer h₀) (F : Fr h₀ L s.heap m) (X : (hd.heap_39 w.params).In h₀) (N : News h₀ L s.heap news) (T : Top hd.view_39 loose mean mg mb h₀) (hk : cs.kind = .function)
    (hp : pre) (hdp : dp + D < recursionLimit) (hun : un + U < cLine)
    (ret : ∀ (d : Addr) (t1 t2 : Tok) (n : Nat) (h' : Heap) (tk' : Nat), Fr h₀ L h' m → News h₀ L h' ((d, tup2 r1 r2 t1 t2 n) :: news) → AllLt d news → Q (.ref d) { s with heap := h', toks := tk' }) :
    wpAny (model PySem.Challenge.rw_ba5009_01.row.prog w) (ktrTop dp un gd cn cs L a ccd cl outer) (call (.ref f) vs) Q E s :=
  C _ _ _ _ _ _ _ _ _ _ _ _ _ _ _ _ _ _ B F X N T hk hp hdp hun ret
theorem ret2 {h' : Heap} {news' : List (Addr × Obj)} {d : Addr} {x1 x2 : Int} {t1 t2 : Tok} {n tk' : Nat}
    (hret : ∀ (d : Addr) (t1 t2 : Tok) (n : Nat) (h' : Heap) (tk' : Nat), Fr h₀ L h' m → News h₀ L h' ((d, tup2 r1 r2 t1 t2 n) :: news) → AllLt d news → Q (.ref d) { s with heap := h', toks := tk' })
    (e : x1 = r1 ∧ x2 = r2) (F : Fr h₀ L h' m) (NM : News h₀ L h' news' ∧ (d, tup2 x1 x2 t1 t2 n) ∈ news') (hn : ∀ p ∈ news, p ∈ news') (hl : AllLt d news) : Q (.ref d) { s with heap := h', toks := tk' } := by
  obtain ⟨e1, e2⟩ := e
  subst e1; subst e2
  refine hret d t1 t2 n h' tk' F (fun p hp => ?_) hl
  rcases List.mem_cons.mp hp with rfl | hp
  · exact NM.1 _ NM.2
  · exact NM.1 p (hn p hp)
end

theorem place_le {y p : Int} (hp : PlaceOk y p) : p ≤ 366 := by
  have := hp.2.2.2
  split at this <;> omega
theorem date_ok {y p : Int} (hp : PlaceOk y p) : 1 ≤ y ∧ y ≤ 2000000000 ∧ 1 ≤ moOf y p ∧ moOf y p ≤ 12 ∧ 0 < daOf y p ∧ daOf y p ≤ dim y (moOf y p) := by
  obtain ⟨h1, h2, h3, h4, h5, h6⟩ := mo_facts hp
  have hda : daOf y p = p - mOff y (moOf y p) := rfl
  exact ⟨hp.1, hp.2.1, h1, h2, by omega, by omega⟩

set_option maxHeartbeats 8000000 in
theorem ord_says (w : World) (loose : List Str) (mean : ExcName → Option Value) (mg mb : Str → Option Value) (y p : Int) (tj : Tok) : Says2 w loose mean mg mb 120 8 96 (PlaceOk y p) [.float (hf (2 * (dYear y + p) + 3442849)) tj] y p := by
  unfold Says2
  k_fill
  intro dp un gd cn cs a ccd cl outer A₀ base h₀ L mm news s Q E B F KX N T hk hp hdp hun hret
  refine wpAny_call ?_
  k_dflt cell_enter
  (rename Fr _ _ _ _ => F0)
  have F1 := fr_args1 (k := Str.ofString "jd") (v := .float (hf (2 * (dYear y + p) + 3442849)) tj) F0 (by with_unfolding_all rfl)
  clear F0
  have hdt := date_ok hp
  have hp1 := hp.1
  have hp2 := hp.2.1
  have hp3 := hp.2.2.1
  have hp4 := place_le hp
  have hda : daOf y p = p - mOff y (moOf y p) := rfl
  have hdy : 0 ≤ dYear y ∧ dYear y ≤ 1000000000000 := by unfold dYear; omega
  obtain ⟨hm1, hm2, hm3, hm4, hm5, hm6⟩ := mo_facts hp
  clear hm4
  k_steps
  all_goals (
    refine ret2 hret ?_ (by k_asm) (by kcu_news) (by first | exact fun p hp => hp | exact fun p hp => List.mem_cons_of_mem _ hp | exact fun p hp => List.mem_cons_of_mem _ (List.mem_cons_of_mem _ hp)) (by first | kcu_lt | (rename _ ∧ AllLt _ _ => hL9; exact hL9.2))
    omega)

local macro_rules | `(tactic| walk_at "call builtin:math.trunc") => `(tactic| ((with_reducible show wpAny _ _ (call _ [Value.float _ _]) _ _ _); ((with_reducible refine' r_trunc ?hh ?hx ?_); (case hh => with_unfolding_all rfl); (case hx => first | (with_reducible assumption) | exact tr_six (by omega) (by omega))); intro k9 hk9; (try subst hk9); (try dsimp only)))
/-- the day before the month's first, by the other text -/
theorem six_off {y m : Int} (h1 : 1 ≤ m) (h2 : m ≤ 12) : (m ≤ 2 → leapB y = true → 306 * (m + 1 + 12) / 10 + 1 - 122 + 59 + 1 - 365 - 1 = mOff y m + 1) ∧ (m ≤ 2 → leapB y = false → 306 * (m + 1 + 12) / 10 + 1 - 122 + 59 - 365 = mOff y m + 1) ∧
    (3 ≤ m → leapB y = true → 306 * (m + 1) / 10 + 1 - 122 + 59 + 1 = mOff y m + 1) ∧ (3 ≤ m → leapB y = false → 306 * (m + 1) / 10 + 1 - 122 + 59 = mOff y m + 1) := by
  unfold mOff
  refine ⟨fun h l => ?_, fun h l => ?_, fun h l => ?_, fun h l => ?_⟩
  · rw [if_pos h]; omega
  · rw [if_pos h]; omega
  · rw [if_neg (by omega), if_pos l]; omega
  · rw [if_neg (by omega), l, if_neg Bool.false_ne_true]; omega

set_option maxHeartbeats 8000000 in
theorem fromgo_says (w : World) (loose : List Str) (mean : ExcName → Option Value) (mg mb : Str → Option Value) (y m : Int) (t1 t2 t3 : Tok) : Says2 w loose mean mg mb 127 3 40 (1 ≤ m ∧ m ≤ 12) [.int y t1, .int m t2, .int 1 t3] y (mOff y m + 1) := by
  unfold Says2
  k_fill
  intro dp un gd cn cs a ccd cl outer A₀ base h₀ L mm news s Q E B F KX N T hk hp hdp hun hret
  refine wpAny_call ?_
  k_dflt cell_enter
  (rename Fr _ _ _ _ => F0)
  have F1 := fr_args3 (k := Str.ofString "day") (v := .int 1 t3) (k' := Str.ofString "month") (v' := .int m t2) (k'' := Str.ofString "year") (v'' := .int y t1) F0 (by with_unfolding_all rfl)
  clear F0
  obtain ⟨hp1, hp2⟩ := hp
  obtain ⟨s1, s2, s3, s4⟩ := six_off (y := y) hp1 hp2
  have A9 : AimY y := trivial
  cases hl : leapB y
  · have s2' := fun h => s2 h hl
    have s4' := fun h => s4 h hl
    clear s1 s2 s3 s4
    k_steps
    all_goals (
      refine ret2 hret ?_ (by k_asm) (by kcu_news) (by first | exact fun p hp => hp | exact fun p hp => List.mem_cons_of_mem _ hp | exact fun p hp => List.mem_cons_of_mem _ (List.mem_cons_of_mem _ hp)) (by first | kcu_lt | (rename _ ∧ AllLt _ _ => hL9; exact hL9.2))
      omega)
  · have s1' := fun h => s1 h hl
    have s3' := fun h => s3 h hl
    clear s1 s2 s3 s4
    k_steps
    all_goals (
      refine ret2 hret ?_ (by k_asm) (by kcu_news) (by first | exact fun p hp => hp | exact fun p hp => List.mem_cons_of_mem _ hp | exact fun p hp => List.mem_cons_of_mem _ (List.mem_cons_of_mem _ hp)) (by first | kcu_lt | (rename _ ∧ AllLt _ _ => hL9; exact hL9.2))
      omega)

theorem r_div_ii_aim {prog : Program} {w : World} {A : Around} {E : Value → Shared → Prop} {s : Shared} {a n q : Int} {t u : Tok} {Q : Value → Shared → Prop} (hh : A.handled = none) (_hm : AimD n q) (hB : 0 ≤ a ∧ 0 < n ∧ n ≤ 1048576 ∧ a.natAbs < 2 ^ 53 ∧ q < 8589934591 ∧ a / n = q)
    (h : ∀ v, Fl v q → Tr v q → Q (.float v s.toks) { s with toks := s.toks + 1 }) : wpAny (model prog w) A (binaryOp .Div (.int a t) (.int n u)) Q E s :=
  r_div_ii hh ⟨hB.1, hB.2.1, hB.2.2.1, hB.2.2.2.1, by omega⟩ fun v q' hv ht _ hq => h v (by rw [hq, hB.2.2.2.2.2] at hv; exact hv) (by rw [hq, hB.2.2.2.2.2] at ht; exact ht)
local macro_rules | `(tactic| walk_at "binaryOp Div int int") => `(tactic| (((with_reducible refine' r_div_ii_aim ?hh ?hm ?hB ?_); (case hh => with_unfolding_all rfl); (case hm => with_reducible assumption); (case hB => omega)); intro v9 hfl9 htr9; (try dsimp only)))
local macro_rules | `(tactic| walk_at "call ref") => `(tactic| (k_here; (with_reducible show wpAny _ _ (call (Value.ref 127) [Value.int _ _, Value.int _ _, Value.int 1 _]) _ _ _); k_dflt (refine' says2_use (fromgo_says _ _ _ _ _ _ _ _ _ _) ?k1 ?k2 ?k3 ?k4 ?k5 ?kK ?kp ?kd ?ku ?_; (case k1 => k_asm); (case k2 => k_asm); (case k3 => k_asm); (case k4 => k_asm); (case k5 => k_asm); (case kK => first | exact rfl | assumption); (case kp => omega); (case kd => ktr_room); (case ku => ktr_units)); intro d9 t9 u9 n9 h9 tk9 F9 N9 l9; (try dsimp only); (try k_fold)))

set_option maxHeartbeats 8000000 in
theorem togo_says (w : World) (loose : List Str) (mean : ExcName → Option Value) (mg mb : Str → Option Value) (y p : Int) (t1 t2 : Tok) : Says3 w loose mean mg mb 134 6 80 (PlaceOk y p) [.int y t1, .int p t2] y (moOf y p) (daOf y p) := by
  unfold Says3
  k_fill
  intro dp un gd cn cs a ccd cl outer A₀ base h₀ L mm news s Q E B F KX N T hk hp hdp hun hret
  refine wpAny_call ?_
  k_dflt cell_enter
  (rename Fr _ _ _ _ => F0)
  have F1 := fr_args2 (k := Str.ofString "dayofyear") (v := .int p t2) (k' := Str.ofString "year") (v' := .int y t1) F0 (by with_unfolding_all rfl)
  clear F0
  have hp3 := hp.2.2.1
  have hp4 := place_le hp
  have hda : daOf y p = p - mOff y (moOf y p) := rfl
  obtain ⟨hm1, hm2, hm3, hm4, hm5, hm6⟩ := mo_facts hp
  clear hm4
  have A8 : AimD 367 (moOf y p) := trivial
  have A9 : AimY y := trivial
  have hL := leap_or y p
  k_steps
  all_goals (
    refine ret3 hret ?_ (by k_asm) (by kcu_news) (by first | exact fun p hp => hp | exact fun p hp => List.mem_cons_of_mem _ hp | exact fun p hp => List.mem_cons_of_mem _ (List.mem_cons_of_mem _ hp)) (by first | kcu_lt | (rename _ ∧ AllLt _ _ => hL9; exact hL9.2))
    omega)

theorem tojd_place (w : World) (loose : List Str) (mean : ExcName → Option Value) (mg mb : Str → Option Value) (y p : Int) (t1 t2 t3 : Tok) : Says w loose mean mg mb 64 4 32 (PlaceOk y p) [.int y t1, .int (moOf y p) t2, .int (daOf y p) t3] (fun t => .float (hf (2 * (dYear y + p) + 3442849)) t) := by
  have hda : daOf y p = p - mOff y (moOf y p) := rfl
  have e : 2 * (dYear y + mOff y (moOf y p) + daOf y p) + 3442849 = 2 * (dYear y + p) + 3442849 := by omega
  have h := tojd_says w loose mean mg mb y (moOf y p) (daOf y p) t1 t2 t3
  rw [e] at h
  intro dp un gd cn cs a ccd cl outer A₀ base h₀ L m news s Q E B F KX N T hk hp hdp hun hret
  exact h dp un gd cn cs a ccd cl outer A₀ base h₀ L m news s Q E B F KX N T hk (date_ok hp) hdp hun hret
local macro_rules | `(tactic| walk_at "call ref") => `(tactic| (k_here; (with_reducible show wpAny _ _ (call (Value.ref 64) [Value.int _ _, Value.int (moOf _ _) _, Value.int (daOf _ _) _]) _ _ _); k_dflt (refine' says_use (tojd_place _ _ _ _ _ _ _ _ _ _) ?k1 ?k2 ?k3 ?k4 ?k5 ?kK ?kp ?kd ?ku ?_; (case k1 => k_asm); (case k2 => k_asm); (case k3 => k_asm); (case k4 => k_asm); (case k5 => k_asm); (case kK => first | exact rfl | assumption); (case kp => with_reducible assumption); (case kd => ktr_room); (case ku => ktr_units)); intro t9 h9 tk9 F9 N9; (try dsimp only); (try k_fold)))
local macro_rules | `(tactic| walk_at "call ref") => `(tactic| (k_here; (with_reducible show wpAny _ _ (call (Value.ref 85) [Value.int _ _, Value.int _ _, Value.int _ _]) _ _ _); k_dflt (refine' says_use (tojdp_says _ _ _ _ _ _ _ _ _ _ _ _) ?k1 ?k2 ?k3 ?k4 ?k5 ?kK ?kp ?kd ?ku ?_; (case k1 => k_asm); (case k2 => k_asm); (case k3 => k_asm); (case k4 => k_asm); (case k5 => k_asm); (case kK => first | exact rfl | assumption); (case kp => with_reducible assumption); (case kd => ktr_room); (case ku => ktr_units)); intro t9 h9 tk9 F9 N9; (try dsimp only); (try k_fold)))
local macro_rules | `(tactic| walk_at "call ref") => `(tactic| (k_here; (with_reducible show wpAny _ _ (call (Value.ref 92) [Value.float _ _]) _ _ _); k_dflt (refine' says3_use (fromjdp_says _ _ _ _ _ _ _ _) ?k1 ?k2 ?k3 ?k4 ?k5 ?kK ?kp ?kd ?ku ?_; (case k1 => k_asm); (case k2 => k_asm); (case k3 => k_asm); (case k4 => k_asm); (case k5 => k_asm); (case kK => first | exact rfl | assumption); (case kp => with_reducible assumption); (case kd => ktr_room); (case ku => ktr_units)); intro d9 t9 u9 v9 n9 h9 tk9 F9 N9 l9; (try dsimp only); (try k_fold)))

/-- a date of the thirteen months and the days behind them; z is the Gregorian year -/
def PosOk (y z m d : Int) : Prop := (z = y + 1788 ∧ 1 ≤ y ∧ 0 < m ∧ m ≤ 14 ∧ 0 < d ∧ d ≤ 28 ∧ (m ≠ 14 ∨ (m = 14 ∧ leapB z = true ∧ d ≤ 2) ∨ (m = 14 ∧ leapB z = false ∧ d = 1))) ∧ z ≤ 2000000000
theorem PosOk.place {y z m d : Int} (h : PosOk y z m d) : PlaceOk z (28 * (m - 1) + d) := by
  obtain ⟨⟨h1, h2, h3, h4, h5, h6, h7⟩, h8⟩ := h
  refine ⟨by omega, h8, by omega, ?_⟩
  rcases h7 with h7 | ⟨h7, h9, h10⟩ | ⟨h7, h9, h10⟩
  · split <;> omega
  · rw [if_pos h9]; omega
  · rw [h9, if_neg Bool.false_ne_true]; omega

set_option maxHeartbeats 8000000 in
theorem togp_says (w : World) (loose : List Str) (mean : ExcName → Option Value) (mg mb : Str → Option Value) (y z m d : Int) (t1 t2 t3 : Tok) : Says3 w loose mean mg mb 106 10 128 (PosOk y z m d) [.int y t1, .int m t2, .int d t3] z (moOf z (28 * (m - 1) + d)) (daOf z (28 * (m - 1) + d)) := by
  unfold Says3
  k_fill
  intro dp un gd cn cs a ccd cl outer A₀ base h₀ L mm news s Q E B F KX N T hk hp hdp hun hret
  refine wpAny_call ?_
  k_dflt cell_enter
  (rename Fr _ _ _ _ => F0)
  have F1 := fr_args3 (k := Str.ofString "day") (v := .int d t3) (k' := Str.ofString "month") (v' := .int m t2) (k'' := Str.ofString "year") (v'' := .int y t1) F0 (by with_unfolding_all rfl)
  clear F0
  have hpl := hp.place
  unfold PosOk at hp
  k_steps
  all_goals exact hret _ _ _ _ _ _ _ (by k_asm) (by k_asm) (by first | kcu_lt | (rename _ ∧ AllLt _ _ => hL9; exact hL9.2))

set_option maxHeartbeats 8000000 in
theorem fromgp_says (w : World) (loose : List Str) (mean : ExcName → Option Value) (mg mb : Str → Option Value) (y p : Int) (t1 t2 t3 : Tok) : Says3 w loose mean mg mb 99 10 128 (PlaceOk y p ∧ 1789 ≤ y ∧ ¬ (y % 400 = 0 ∧ p = 366)) [.int y t1, .int (moOf y p) t2, .int (daOf y p) t3] (y - 1788) ((p - 1) / 28 + 1) ((p - 1) % 28 + 1) := by
  unfold Says3
  k_fill
  intro dp un gd cn cs a ccd cl outer A₀ base h₀ L mm news s Q E B F KX N T hk hp hdp hun hret
  refine wpAny_call ?_
  k_dflt cell_enter
  (rename Fr _ _ _ _ => F0)
  have F1 := fr_args3 (k := Str.ofString "day") (v := .int (daOf y p) t3) (k' := Str.ofString "month") (v' := .int (moOf y p) t2) (k'' := Str.ofString "year") (v'' := .int y t1) F0 (by with_unfolding_all rfl)
  clear F0
  have hpl := hp.1
  k_steps
  all_goals exact hret _ _ _ _ _ _ _ (by k_asm) (by k_asm) (by first | kcu_lt | (rename _ ∧ AllLt _ _ => hL9; exact hL9.2))


section
open PySem.Calls
section
variable {prog : Program} {w : World} {A : Around} {E : Value → Shared → Prop} {s : Shared} {env : Env}
theorem entry_unchain : entryFor table "proto.unchain" = some Builtin.«proto.unchain» := entryFor_of_fast (by kernel_rfl)

def fromHeap (h : Heap) (e2 e1 : Addr) : Heap := ((h.update e2 (Obj.mapFields (·.setIfInBounds 3 (Value.ref e1)))).update e2 (Obj.mapFields (·.setIfInBounds 4 (Value.bool true)))).update e2 (Obj.mapFields (·.setIfInBounds 2 (Value.ref e1)))

theorem unchain_none {A' : Around} {R : Result → Shared → Prop} {h : Heap} {g : Array GenState} {d : Drawn} {tk : Nat} {os : OsState} {e1 : Addr} {v : Value} {oe : Obj} {vs : Array Value} (r1 : h.get? e1 = some oe) (hd1 : oe.data = .fields vs) (hv2 : vs[2]? = some .none)
    (hR : R (.ok (.ret .none)) ⟨h, g, d, tk, os⟩) : codeAny (model prog w) A' (.builtin "proto.unchain" ⟨[v, .ref e1, .ref e1, .bool false], []⟩) R ⟨h, g, d, tk, os⟩ := by
  refine codeAny_builtin entry_unchain ?_
  unfold Builtin.«proto.unchain»
  dsimp only
  refine wpAny_bind (wpAny_field r1 hd1 hv2 ?_)
  rw [if_pos (by rfl)]
  exact wpAny_pure hR

theorem raise_tail {cls : String} (G : ExcRaiseFacts cls) {Q : Flow → Shared → Prop} {e1 e2 : Addr} {t c3 c4 : Value} {oe : Obj} {vs : Array Value} {h : Heap} {g : Array GenState} {d : Drawn} {tk : Nat} {os : OsState} (hh : A.handled = some (.ref e1)) (hne : e2 ≠ e1)
    (q4 : h.get? e2 = some { cls := .type cls, data := .fields #[t, .none, .none, c3, c4, .none] }) (r1 : h.get? e1 = some oe) (hd1 : oe.data = .fields vs) (hv2 : vs[2]? = some .none)
    (hE : E (.ref e2) ⟨h.update e2 (Obj.mapFields (·.setIfInBounds 2 (Value.ref e1))), g, d, tk, os⟩) :
    wpAny (model prog w) A (do
      let t9 ← isType (Value.ref e2)
      let e9 ← if t9 = true then holding [Value.ref e2] (raisedFor (Value.ref e2) (Value.ref e2)) else raisedInstance (Value.ref e2)
      setFlight e9 none
      raiseNew e9 : Sem Flow) Q E ⟨h, g, d, tk, os⟩ := by
  have hsub := G.isExc
  have hmeta := G.plainMeta
  have tail : wpAny (model prog w) A (do
      setFlight (.ref e2) none
      raiseNew (.ref e2) : Sem Flow) Q E ⟨h, g, d, tk, os⟩ := by
    unfold setFlight
    refine wpAny_bind (wpAny_bind (wpAny_field q4 rfl (x := .none) rfl ?_))
    rw [if_neg (by decide)]
    refine wpAny_pure ?_
    unfold raiseNew
    refine wpAny_bind (wpAny_handled ?_)
    rw [hh]
    dsimp only
    rw [if_pos (show (Value.ref e1 != Value.ref e2) = true from by simp; exact fun q => hne q.symm)]
    refine wpAny_bind (wpAny_holding (wpAny_runValue (unchain_none r1 hd1 hv2 ?_)))
    unfold updateField
    refine wpAny_bind (wpAny_bind (wpAny_load q4 ?_))
    dsimp only
    rw [if_pos (show 2 < (#[t, Value.none, Value.none, c3, c4, Value.none] : Array Value).size from (show 2 < 6 from by decide))]
    exact wpAny_update q4 (wpAny_throw hE)
  clear hE hd1 hv2 r1
  repeat (first | (with_reducible exact tail) | refine wpAny_loadPart q4 ?_ | wp_step)

theorem raiseStmt_from {cls X1 : String} (G : ExcRaiseFacts cls) (G1 : ExcRaiseFacts X1) {x c : Sem Value} {Q : Flow → Shared → Prop} {e1 : Addr} (hh : A.handled = some (.ref e1))
    (h : wpAny (model prog w) A x (fun v s₁ => ∃ e2 t, v = .ref e2 ∧ wpAny (model prog w) A c (fun cv s₂ => ∃ oe vs, cv = .ref e1 ∧ e2 ≠ e1 ∧ s₂.heap.get? e2 = some { cls := .type cls, data := .fields #[.ref t, .none, .none, .none, .bool false, .none] } ∧
      s₂.heap.get? e1 = some oe ∧ oe.cls = .type X1 ∧ oe.data = .fields vs ∧ vs[2]? = some .none ∧ E (.ref e2) { s₂ with heap := fromHeap s₂.heap e2 e1 }) E s₁) E s) :
    wpAny (model prog w) A (raiseStmt env (some x) (some c)) Q E s := by
  unfold raiseStmt
  refine wpAny_bind (wpAny_mono h (fun v s₁ h₁ => ?_) fun _ _ x => x)
  obtain ⟨e2, t, rfl, hc⟩ := h₁
  refine wpAny_bind (wpAny_holding (wpAny_mono hc (fun cv s₂ h₂ => ?_) fun _ _ x => x))
  obtain ⟨oe, vs, rfl, hne, he2, he1, hc1, hd1, hv2, hE⟩ := h₂
  obtain ⟨hp, g, d, tk, os⟩ := s₂
  have hsub := G.isExc
  have hmeta := G.plainMeta
  have hsub1 := G1.isExc
  obtain ⟨oc, odi, oda, osl⟩ := oe
  obtain rfl : oc = .type X1 := hc1
  obtain rfl : oda = .fields vs := hd1
  have q3 : (hp.update e2 (Obj.mapFields (·.setIfInBounds 3 (Value.ref e1)))).get? e2 = some { cls := .type cls, data := .fields #[.ref t, .none, .none, .ref e1, .bool false, .none] } :=
    Heap.get?_update_self (Obj.mapFields (·.setIfInBounds 3 (Value.ref e1))) he2 rfl
  have q4 : ((hp.update e2 (Obj.mapFields (·.setIfInBounds 3 (Value.ref e1)))).update e2 (Obj.mapFields (·.setIfInBounds 4 (Value.bool true)))).get? e2 = some { cls := .type cls, data := .fields #[.ref t, .none, .none, .ref e1, .bool true, .none] } :=
    Heap.get?_update_self (Obj.mapFields (·.setIfInBounds 4 (Value.bool true))) q3 rfl
  have r1 : ((hp.update e2 (Obj.mapFields (·.setIfInBounds 3 (Value.ref e1)))).update e2 (Obj.mapFields (·.setIfInBounds 4 (Value.bool true)))).get? e1 = some { cls := .type X1, dict := odi, data := .fields vs, slots := osl } := by
    rw [Heap.get?_update_other _ _ hne, Heap.get?_update_other _ _ hne]; exact he1
  have tail := raise_tail (prog := prog) (w := w) (A := A) (E := E) (Q := Q) (g := g) (d := d) (tk := tk) (os := os) G hh hne q4 r1 rfl hv2 hE
  have both : wpAny (model prog w) A (do
      setField (Value.ref e2) 3 (.ref e1)
      setField (Value.ref e2) 4 (Value.bool true)
      let t9 ← isType (Value.ref e2)
      let e9 ← if t9 = true then holding [Value.ref e2] (raisedFor (Value.ref e2) (Value.ref e2)) else raisedInstance (Value.ref e2)
      setFlight e9 none
      raiseNew e9 : Sem Flow) Q E { heap := hp, gens := g, drawn := d, toks := tk, os := os } := by
    refine wpAny_bind (wpAny_setField he2 rfl (show 3 < 6 from by decide) ?_)
    exact wpAny_bind (wpAny_setField q3 rfl (show 4 < 6 from by decide) tail)
  clear tail q3 q4 r1 hE hv2 hc h
  repeat (first | (with_reducible exact both) | exact both | refine wpAny_loadPart he2 ?_ | refine wpAny_loadPart he1 ?_ | wp_step)
end
/-- the record o of e lies in h, a trace behind it whose mark is fl -/
def Trc (h base : Heap) (e : Addr) (o : Obj) (vs : Array Value) (fl : Value) : Prop :=
  ∃ T oT ts, h.get? e = some o ∧ o.data = .fields vs ∧ vs[1]? = some (.ref T) ∧ base.get? T = none ∧ T ≠ e ∧ h.get? T = some oT ∧ oT.data = .fields ts ∧ ts[3]? = some fl
def Hld (base : Heap) (l : List Env) (e : Addr) (o : Obj) (vs : Array Value) (fl : Value) (h : Heap) : Prop :=
  base.StaysIn h ∧ base.get? e = none ∧ h.FunFrames base l ∧ Trc h base e o vs fl
theorem Trc.w {h base : Heap} {e : Addr} {o : Obj} {vs : Array Value} {fl a0 : Value} (x : Trc h base e o vs fl) (h0 : vs[0]? = some a0) : h.TracedAtW base e o.cls a0 fl := by
  obtain ⟨T, oT, ts, h1, h2, h3, h4, h5, h6, h7, h8⟩ := x
  exact ⟨o, vs, T, oT, ts, h1, ⟨rfl, h0⟩, h2, h3, h4, h5, h6, h7, h8⟩

section
variable {M : Model} {A : Around} {E : Value → Shared → Prop} {s : Shared}

theorem note_first {base : Heap} {env : Env} {outer : List Env} {L e : Addr} {oe : Obj} {vs : Array Value} {Q : Unit → Shared → Prop}
    (hfr : A.frames = some (env :: outer)) (hl : s.heap.FunFrames base (env :: outer)) (hf : env.frame = some L)
    (he : s.heap.get? e = some oe) (hkb : base.StaysIn s.heap) (hen : base.get? e = none) (hd : oe.data = .fields vs) (h1 : vs[1]? = some .none)
    (h : ∀ h' o ws, o.cls = oe.cls → (∀ i, i ≠ 1 → ws[i]? = vs[i]?) → Hld base (env :: outer) e o ws (rawInt L) h' → s.heap.UpToSlots h' → Q () { s with heap := h' }) :
    wpAny M A (noteFrame (.ref e) env) Q E s := by
  have hsz : 1 < vs.size := (Array.getElem?_eq_some_iff.mp h1).1
  unfold noteFrame
  simp only [hf]
  refine wpAny_bind (wpAny_field he hd h1 ?_)
  rw [if_neg (by decide)]
  have hene : e ∉ (env :: outer).filterMap (·.frame) := fun hm => by
    obtain ⟨_, o, ho, hnf⟩ := hl.mem hm
    rw [he] at ho; injection ho with ho; subst ho; exact hnf vs hd
  refine wpAny_bind (wpAny_frameOf_fun hfr hl hf fun h₁ hs₁ => ?_)
  refine wpAny_bind (wpAny_entryPlaceOf fun pl hpl => ?_)
  unfold EntryCells.newEntry newFields
  refine wpAny_bind (wpAny_newObj_type ?_ (hpl.sizeOk5 _ _ _ _ _))
  have he₁ : h₁.get? e = some oe := (hs₁.2.1 e hene).trans he
  have kb₁ : base.StaysIn h₁ := fun b o hbo => (hs₁.2.1 b fun hm => by rw [(hl.mem hm).1] at hbo; cases hbo).trans (hkb b o hbo)
  refine wpAny_setField (Heap.get?_push_of_some _ he₁) hd hsz (h _ (Obj.mapFields (·.setIfInBounds 1 (Value.ref h₁.objs.size)) oe) (vs.setIfInBounds 1 (Value.ref h₁.objs.size)) (Obj.cls_mapFields _ _) (fun i hi => Array.getElem?_setIfInBounds_ne (fun q => hi q.symm)) ?_ ?_)
  · have hTe : h₁.objs.size ≠ e := Nat.ne_of_gt (Heap.lt_size he₁)
    have hd₃ := Obj.data_mapFields hd (·.setIfInBounds 1 (Value.ref h₁.objs.size))
    have keep : ∀ (x : Obj) b o, b ≠ e → h₁.get? b = some o → ((h₁.push x).update e (Obj.mapFields (·.setIfInBounds 1 (Value.ref h₁.objs.size)))).get? b = some o := fun x b o hbe hb => by
      rw [Heap.get?_update_other _ _ (Ne.symm hbe)]
      exact Heap.get?_push_of_some _ hb
    have noRecord : ∀ b o, s.heap.get? b = some o → (∀ vs, o.data ≠ .fields vs) → b ≠ e := fun b o hb hnf q => by
      rw [q, he] at hb; injection hb with hb; subst hb; exact hnf vs hd
    refine ⟨fun b o hbo => keep _ b o (fun q => by rw [q, hen] at hbo; cases hbo) (kb₁ b o hbo), hen, hl.of_keeps fun b o hb hnf => ?_, ?_⟩
    · obtain ⟨sl, hs⟩ := hs₁.2.2 b o hb
      exact ⟨_, keep _ b _ (noRecord b o hb hnf) hs, rfl⟩
    · refine ⟨h₁.objs.size, _, _, Heap.get?_update_self (Obj.mapFields (·.setIfInBounds 1 (Value.ref h₁.objs.size))) (Heap.get?_push_of_some _ he₁) (Obj.isFreed_of_fields hd₃), hd₃, by simp [hsz], kb₁.fresh, hTe,
        (Heap.get?_update_other _ _ (Ne.symm hTe)).trans (Heap.get?_push_size h₁ rfl), rfl, by first | (simp; done) | (rcases hpl with rfl | ⟨_, _, _, _, _, _, _, rfl⟩ <;> simp)⟩
  · intro b o hb hnf
    have hbe : b ≠ e := fun q => by rw [q, he] at hb; injection hb with hb; subst hb; exact hnf vs hd
    obtain ⟨sl, hs⟩ := hs₁.2.2 b o hb
    refine ⟨sl, ?_⟩
    show ((h₁.push _).update e _).get? b = _
    rw [Heap.get?_update_other _ _ (Ne.symm hbe)]
    exact Heap.get?_push_of_some _ hs

theorem set_flight {base : Heap} {l : List Env} {e : Addr} {o : Obj} {vs : Array Value} {fl : Value} {f : Option Addr} {Q : Unit → Shared → Prop} (H : Hld base l e o vs fl s.heap)
    (h : ∀ h', Hld base l e o vs (f.elim .none fun f => rawInt f) h' → s.heap.UpToSlots h' → Q () { s with heap := h' }) : wpAny M A (setFlight (.ref e) f) Q E s := by
  obtain ⟨hkb, hen, hl, T, oT, ts, he, hd, h1, hnT, hTe, hT, hdT, h3⟩ := H
  have hsz3 : 3 < ts.size := (Array.getElem?_eq_some_iff.mp h3).1
  have other : ∀ b, b ≠ T → (s.heap.update T (Obj.mapFields (·.setIfInBounds 3 (f.elim Value.none fun f => rawInt f)))).get? b = s.heap.get? b :=
    fun b hb => Heap.get?_update_other _ _ (Ne.symm hb)
  have noRecord : ∀ b o, s.heap.get? b = some o → (∀ vs, o.data ≠ .fields vs) → b ≠ T := fun b o hb hnf q => by
    rw [q, hT] at hb; injection hb with hb; subst hb; exact hnf ts hdT
  unfold setFlight
  refine wpAny_bind (wpAny_field he hd h1 ?_)
  rw [if_pos (show (Value.ref T != Value.none) = true from by simp)]
  refine wpAny_setField hT hdT hsz3 (h _ ⟨fun b o hbo => (other b fun q => by rw [q, hnT] at hbo; cases hbo).trans (hkb b o hbo), hen,
    hl.of_keeps fun b o hb hnf => ⟨o, (other b (noRecord b o hb hnf)).trans hb, rfl⟩, ?_⟩ fun b o hb hnf => ⟨o.slots, (other b (noRecord b o hb hnf)).trans hb⟩)
  exact ⟨T, _, _, (other e (Ne.symm hTe)).trans he, hd, h1, hnT, hTe, Heap.get?_update_self _ hT (Obj.isFreed_of_fields (Obj.data_mapFields hdT _)), Obj.data_mapFields hdT _, by simp [hsz3]⟩

theorem note_again {base : Heap} {l : List Env} {env : Env} {L e : Addr} {o : Obj} {vs : Array Value} {Q : Unit → Shared → Prop} (hf : env.frame = some L) (H : Hld base l e o vs (rawInt L) s.heap) (h : Q () s) : wpAny M A (noteFrame (.ref e) env) Q E s := by
  have h1 : 1 < vs.size := by
    obtain ⟨_, _, _, T, _, _, _, _, h1, _⟩ := H
    exact (Array.getElem?_eq_some_iff.mp h1).1
  have h0 : vs[0]? = some vs[0] := Array.getElem?_eq_getElem (by omega)
  exact wpAny_noteFrame_againW hf (H.2.2.2.w h0) h
end
theorem funFrames_on {h h' base : Heap} (k : ∀ b o, h.get? b = some o → (∀ vs, o.data ≠ .fields vs) → ∃ o', h'.get? b = some o' ∧ ∀ vs, o'.data ≠ .fields vs) : ∀ {l : List Env}, h.FunFrames base l → h'.FunFrames base l
  | [], _ => trivial
  | _ :: _, ⟨hk, ⟨L, o, hf, hn, ho, hd⟩, hr⟩ => by
    obtain ⟨o', ho', hd'⟩ := k L o ho hd
    exact ⟨hk, ⟨L, o', hf, hn, ho', hd'⟩, funFrames_on k hr⟩

section
variable {prog : Program} {w : World} {A₀ : Around} {E : Value → Shared → Prop} {s' : Shared} {base g g₀ h : Heap} {outer : List Env} {L a e : Addr} {m : Str → Option Value} {name : Str} {scope : Scope} {cd : Value}
  {n : Str} {b₀ : Stmt} {suite : List Stmt} {pos np : Pos} {rest : List ExceptHandler} {Q : Flow → Shared → Prop} {news : List (Addr × Obj)} {KF : Frag}
  {p : Program} {loose : List Str} {mean : ExcName → Option Value} {mg mb : Str → Option Value} {x : Str} {X T' : String}

/-- an exception that the interpreter raises in the very frame whose try stands around it, caught by its name, bound to a name: frames may lie below -/
theorem own_caught (hx : Heap.NewExc h s'.heap e X) (F : Fr g L h m) (N : News g L h news) (K : Below A₀ base outer g) (XB : KF.In base) (TB : Top p loose mean mg mb base)
    (D : KtsDicts (outer.filterMap (·.frame)) g) (T0 : KtsTurn (outer.filterMap (·.frame)) g₀ g)
    (ex : nsIn KF mainGlobals x = some none) (hv : bootBuiltins x = some (.type T')) (hn' : x ≠ "__name__")
    (hexc : isSubtype (.type T') (.type "BaseException") = pure true) (hnt : isSubtype (.type ((Manifest.find? T').elim "type" fun y => y.metatype)) (.type "tuple") = pure false) (hsub : isSubtype (.type X) (.type T') = pure true)
    (k : ∀ h' g' tk o ws, o.cls = .type X → o.data = .fields ws → ws[2]? = some .none → KtsTurn (outer.filterMap (·.frame)) g₀ g' → Fr g' L h' (fun y => if y = n then some (.ref e) else m y) → News g' L h' ((e, o) :: news) → Below A₀ base outer g' → KF.In g' → Top p loose mean mg mb g' → KtsDicts (outer.filterMap (·.frame)) g' →
      wpAny (model prog w) ((A₀.deeper (envOf name scope L a cd)).mark (some (.ref e))) (execs (b₀ :: suite) (envOf name scope L a cd))
        (fun f s₄ => wpAny (model prog w) (A₀.deeper (envOf name scope L a cd)) (do bindName (envOf name scope L a cd) n .none; unbindBehindTheSuite (envOf name scope L a cd) n pos) (fun _ s₅ => Q f s₅) E s₄)
        (AsSuiteRaised (model prog w) ((A₀.deeper (envOf name scope L a cd)).mark (some (.ref e))) (envOf name scope L a cd) n pos (notedBy (model prog w) ((A₀.deeper (envOf name scope L a cd)).mark (some (.ref e))) (envOf name scope L a cd) (cameBackBy (model prog w) (A₀.deeper (envOf name scope L a cd)) (envOf name scope L a cd) E)))
        { s' with heap := h', toks := tk })
    (hk : scope.kind = .function := by rfl) (hlo : (envOf name scope L a cd).kindOf n = some .local := by rfl) (hxx : (envOf name scope L a cd).kindOf x = some .globalImplicit := by rfl) (hd : (x == ("__debug__" : Str)) = false := by decide) :
    wpAny (model prog w) (A₀.deeper (envOf name scope L a cd)) (noteFrame (.ref e) (envOf name scope L a cd))
      (fun _ s₂ => wpAny (model prog w) (A₀.deeper (envOf name scope L a cd)) (setFlight (.ref e) none) (fun _ s₃ =>
        wpAny (model prog w) (A₀.deeper (envOf name scope L a cd)) (handleBy (.ref e) (envOf name scope L a cd) (.ExceptHandler (some (.Name x np)) (some n) (b₀ :: suite) pos :: rest)) Q E s₃) E s₂) E s' := by
  have K' := K.push (name := name) (a := a) (cd := cd) F hk
  have hin : ∀ env ∈ (envOf name scope L a cd :: outer), ∀ b, env.frame = some b → b ∈ (envOf name scope L a cd :: outer).filterMap (·.frame) := fun env he b hb => List.mem_filterMap.mpr ⟨env, he, hb⟩
  have hBG : ∀ b o, h.get? b = some o → b ∉ (envOf name scope L a cd :: outer).filterMap (·.frame) → (hideAll h ((envOf name scope L a cd :: outer).filterMap (·.frame))).get? b = some o := fun b o q nm => hideAll_get _ q nm
  have hl : ∀ q ∈ news, (hideAll h ((envOf name scope L a cd :: outer).filterMap (·.frame))).get? q.1 = some q.2 := fun q hq => by
    refine hideAll_get _ (N q hq).1 fun hm => ?_
    obtain ⟨env, he, hf⟩ := List.mem_filterMap.mp hm
    rcases List.mem_cons.mp he with rfl | he
    · exact (N q hq).2.1 (Option.some.inj hf).symm
    · obtain ⟨o, ho, _⟩ := (K.frames.mem (List.mem_filterMap.mpr ⟨env, he, hf⟩)).2
      rw [(N q hq).2.2] at ho; cases ho
  obtain ⟨ob₁, tp, he, hcls, hdd⟩ := hx.there
  have hen : (hideAll h ((envOf name scope L a cd :: outer).filterMap (·.frame))).get? e = none := by
    cases q : (hideAll h ((envOf name scope L a cd :: outer).filterMap (·.frame))).get? e with
    | none => rfl
    | some o => have := of_hideAll _ q; rw [hx.new] at this; cases this
  have hL : (hideAll h ((envOf name scope L a cd :: outer).filterMap (·.frame))).get? L = none := hideAll_none _ (hin _ List.mem_cons_self L rfl)
  refine note_first K'.stack ((funFrames_hide K'.frames hin).of_keeps fun b o hb _ => ⟨o, hx.keeps b o hb, rfl⟩) rfl he (fun b o hb => hx.keeps b o (of_hideAll _ hb)) hen hdd rfl fun h₄ o ws hoc hws H₄ hsm₄ => ?_
  have hsm : h.UpToSlots s'.heap := Heap.UpToSlots.of_keeps hx.keeps
  refine set_flight H₄ fun h₅ H₅ hsm₅' => ?_
  have hsm₅ := hsm₄.trans hsm₅'
  obtain ⟨g₅, T₅, F₅, K₅⟩ := kts_ground K F hBG H₅.1 (hsm.trans hsm₅)
  have X₅ : KF.In g₅ := XB.keeps K₅.stays
  have P₅ : TopRead p loose mg mb g₅ := topRead_of (TB.keeps K₅.stays)
  obtain ⟨_, _, _, hob, _⟩ := H₅.2.2.2
  refine wpAny_handleBy_builtin_as (X := X) (T := T') (b := true) hexc hnt hsub (name_B F₅ X₅ P₅ ex hv hn' ⟨rfl, ⟨o, hob, hoc.trans hcls⟩, ?_⟩ hk hxx hd)
  refine set_flight H₅ fun h₆ H₆ hsm₆ => ?_
  obtain ⟨g₆, T₆, F₆, K₆⟩ := kts_ground K F hBG H₆.1 ((hsm.trans hsm₅).trans hsm₆)
  have Nl : News g₆ L h₆ news := fun q hq => ⟨H₆.1 _ _ (hl q hq), (fun z => by have := hl q hq; rw [z, hL] at this; cases this), T₆.none_ _ (N q hq).2.2⟩
  have X₆ : KF.In g₆ := XB.keeps K₆.stays
  have P₆ : Top p loose mean mg mb g₆ := TB.keeps K₆.stays
  have D₆ : KtsDicts (outer.filterMap (·.frame)) g₆ := D.turn T₆
  obtain ⟨_, _, _, ho₆, hod, _⟩ := H₆.2.2.2
  have Ne : News g₆ L h₆ ((e, o) :: news) := News.more F₆ Nl ho₆ (fun es q hq => by rw [hod] at hq; cases hq) (T₆.none_ _ (kts_none F.keep hx.new))
  refine stN F₆ Ne (fun h₇ F₇ N₇ => ?_) hk hlo
  exact k h₇ g₆ _ o ws (hoc.trans hcls) hod ((hws 2 (by decide)).trans rfl) (T0.trans T₆) F₇ N₇ K₆ X₆ P₆ D₆

theorem unturn_raised {cls : Value} (T : KtsTurn (outer.filterMap (·.frame)) g₀ g) (R : RaisedSN base g outer e cls news h) : RaisedSN base g₀ outer e cls news h := by
  obtain ⟨B, a0, hB, hBG, hl, hfl⟩ := R
  refine ⟨B, a0, hB, fun b o q nm => hBG b o (T.other b o q nm) nm, fun q hq => ⟨(hl q hq).1, ?_, (hl q hq).2.2⟩, hfl⟩
  cases z : g₀.get? q.1 with
  | none => rfl
  | some o => obtain ⟨sl, hs⟩ := T.up z; rw [(hl q hq).2.1] at hs; cases hs
theorem unturn_up {fs : List Addr} (T : KtsTurn fs g₀ g) (U : g.UpToSlots h) : g₀.UpToSlots h := fun b o hb hnf => by
  obtain ⟨sl, hs⟩ := T.up hb
  obtain ⟨sl', hs'⟩ := U b { o with slots := sl } hs hnf
  exact ⟨sl', hs'⟩
/-- what a raise in the handler comes to, behind the name's going and out of the frame -/
theorem raised_in_as {h' : Heap} {e1 e2 : Addr} {cls : String} {vs : List Value} {gs : Array GenState} {dr : Drawn} {tk : Nat} {os : OsState} {R₀ R₁ : Value → Shared → Prop}
    (K : Below A₀ base outer g) (F : Fr g L h m) (N : News g L h news) (hx : Heap.MadeExc h h' e2 cls vs)
    (TT : KtsTurn (outer.filterMap (·.frame)) g₀ g)
    (hE : ∀ h'' tk', RaisedSN base g₀ outer e2 (.type cls) news h'' → RaisedN base outer e2 (.type cls) news h'' → g₀.UpToSlots h'' → R₀ (.ref e2) ⟨h'', gs, dr, tk', os⟩)
    (hk : scope.kind = .function := by rfl) (hlo : (envOf name scope L a cd).kindOf n = some .local := by rfl) :
    AsSuiteRaised (model prog w) ((A₀.deeper (envOf name scope L a cd)).mark (some (.ref e1))) (envOf name scope L a cd) n pos (notedBy (model prog w) ((A₀.deeper (envOf name scope L a cd)).mark (some (.ref e1))) (envOf name scope L a cd) (cameBackBy (model prog w) (A₀.deeper (envOf name scope L a cd)) (envOf name scope L a cd)
      (fun e s' => wpAny (model prog w) (A₀.deeper (envOf name scope L a cd)) (leaving (envOf name scope L a cd) e) (fun _ s'' => R₀ e s'') (fun e' s'' => R₁ e' s'') s'))) (.ref e2) ⟨fromHeap h' e2 e1, gs, dr, tk, os⟩ := by
  have K' := K.push (name := name) (a := a) (cd := cd) F hk
  have hin : ∀ env ∈ (envOf name scope L a cd :: outer), ∀ b, env.frame = some b → b ∈ (envOf name scope L a cd :: outer).filterMap (·.frame) := fun env he b hb => List.mem_filterMap.mpr ⟨env, he, hb⟩
  have st : base.StaysIn (hideAll h ((envOf name scope L a cd :: outer).filterMap (·.frame))) := fun b o q => hideAll_get _ (K'.stays b o q) fun hm => by
    rw [(K'.frames.mem hm).1] at q; cases q
  have sg : ∀ b o, g.get? b = some o → b ∉ outer.filterMap (·.frame) → (hideAll h ((envOf name scope L a cd :: outer).filterMap (·.frame))).get? b = some o := fun b o q nm => hideAll_get _ (F.keep b o q) fun hm => by
    rcases kts_mem hm with z | z
    · rw [z, kts_self F] at q
      cases q
    · exact nm z
  have hl : ∀ q ∈ news, (hideAll h ((envOf name scope L a cd :: outer).filterMap (·.frame))).get? q.1 = some q.2 ∧ g.get? q.1 = none ∧ base.get? q.1 = none := fun q hq => by
    refine ⟨hideAll_get _ (N q hq).1 fun hm => ?_, (N q hq).2.2, fresh_of_stays K.stays (N q hq).2.2⟩
    obtain ⟨env, he, hf⟩ := List.mem_filterMap.mp hm
    rcases List.mem_cons.mp he with rfl | he
    · exact (N q hq).2.1 (Option.some.inj hf).symm
    · obtain ⟨o, ho, _⟩ := (K.frames.mem (List.mem_filterMap.mpr ⟨env, he, hf⟩)).2
      rw [(N q hq).2.2] at ho; cases ho
  have hL : (hideAll h ((envOf name scope L a cd :: outer).filterMap (·.frame))).get? L = none := hideAll_none _ (hin _ List.mem_cons_self L rfl)
  have hen : (hideAll h ((envOf name scope L a cd :: outer).filterMap (·.frame))).get? e2 = none := by
    cases q : (hideAll h ((envOf name scope L a cd :: outer).filterMap (·.frame))).get? e2 with
    | none => rfl
    | some o => have := of_hideAll _ q; rw [hx.new] at this; cases this
  obtain ⟨t, he2, _, _⟩ := hx.there
  have q3 := Heap.get?_update_self (Obj.mapFields (·.setIfInBounds 3 (Value.ref e1))) he2 rfl
  have q4 := Heap.get?_update_self (Obj.mapFields (·.setIfInBounds 4 (Value.bool true))) q3 rfl
  have q5 : (fromHeap h' e2 e1).get? e2 = some { cls := .type cls, data := .fields #[.ref t, .none, .ref e1, .ref e1, .bool true, .none] } := Heap.get?_update_self (Obj.mapFields (·.setIfInBounds 2 (Value.ref e1))) q4 rfl
  have oth : ∀ b, b ≠ e2 → (fromHeap h' e2 e1).get? b = h'.get? b := fun b hb => by
    unfold fromHeap
    rw [Heap.get?_update_other _ _ (Ne.symm hb), Heap.get?_update_other _ _ (Ne.symm hb), Heap.get?_update_other _ _ (Ne.symm hb)]
  have keep : ∀ b o, h.get? b = some o → (fromHeap h' e2 e1).get? b = some o := fun b o hb =>
    (oth b fun q => by rw [q, hx.new] at hb; cases hb).trans (hx.keeps b o hb)
  have fin : ∀ h₈ o ws tk', o.cls = .type cls → Hld (hideAll h ((envOf name scope L a cd :: outer).filterMap (·.frame))) (envOf name scope L a cd :: outer) e2 o ws .none h₈ → g.UpToSlots h₈ → R₀ (.ref e2) ⟨h₈, gs, dr, tk', os⟩ := fun h₈ o ws tk' hoc H hU => by
    obtain ⟨k1, k2, ⟨_, _, k3⟩, k4⟩ := H
    have h1 : 1 < ws.size := by
      obtain ⟨_, _, _, _, _, h1, _⟩ := k4
      exact (Array.getElem?_eq_some_iff.mp h1).1
    have h0 : ws[0]? = some ws[0] := Array.getElem?_eq_getElem (by omega)
    have R : RaisedSN base g outer e2 (.type cls) news h₈ := ⟨_, ws[0], st, sg, hl, k1, hen, k3, by rw [← hoc]; exact k4.w h0⟩
    exact hE h₈ tk' (unturn_raised TT R) R.toN (unturn_up TT hU)
  refine note_first (A := (A₀.deeper (envOf name scope L a cd)).mark (some (.ref e1))) K'.stack ((funFrames_hide K'.frames hin).of_keeps fun b o hb _ => ⟨o, keep b o hb, rfl⟩) rfl q5 (fun b o hb => keep b o (of_hideAll _ hb)) hen rfl rfl fun h₄ o ws hoc hws H₄ hsm₄ => ?_
  have U₄ : h.UpToSlots h₄ := (Heap.UpToSlots.of_keeps keep).trans hsm₄
  refine wpAny_nameGoes hlo (U₄.ns F.ns) (by show (scope.kind == .class || (scope.kind == .module && L != mainGlobals)) = false; rw [hk]; rfl) fun h₅ m' hn₅ hs₅' => ?_
  have hs₅ : Heap.SameBut L h₄ h₅ := hs₅'
  have gU₅ : g.UpToSlots h₅ := fun b o hb hnf => by
    obtain ⟨sl, q⟩ := U₄ b o (F.keep b o hb) hnf
    exact ⟨sl, (hs₅.2 b fun z => by rw [z, kts_self F] at hb; cases hb).trans q⟩
  have notL : ∀ b ob ts, h₄.get? b = some ob → ob.data = .fields ts → b ≠ L := fun b ob ts hb hd z => by
    obtain ⟨oL, es, ep, hoL, hdL, _⟩ := U₄.ns F.ns
    rw [z, hoL] at hb
    cases hb
    rw [hdL] at hd
    cases hd
  have H₅ : Hld (hideAll h ((envOf name scope L a cd :: outer).filterMap (·.frame))) (envOf name scope L a cd :: outer) e2 o ws (rawInt L) h₅ := by
    obtain ⟨k1, k2, k3, T, oT, ts, j1, j2, j3, j4, j5, j6, j7, j8⟩ := H₄
    refine ⟨fun b ob hb => (hs₅.2 b fun z => by rw [z, hL] at hb; cases hb).trans (k1 b ob hb), k2, funFrames_on (fun b ob hb hnf => ?_) k3, T, oT, ts, (hs₅.2 _ (notL _ _ _ j1 j2)).trans j1, j2, j3, j4, j5, (hs₅.2 _ (notL _ _ _ j6 j7)).trans j6, j7, j8⟩
    by_cases z : b = L
    · subst z
      obtain ⟨oL, es, ep, hoL, hdL, _⟩ := hn₅
      exact ⟨oL, hoL, fun vs q => by rw [hdL] at q; cases q⟩
    · exact ⟨ob, (hs₅.2 b z).trans hb, hnf⟩
  obtain ⟨T, _, _, j1, j2, j3, _⟩ := H₅.2.2.2
  unfold PySem.passOn
  refine wpAny_bind (wpAny_field j1 j2 j3 ?_)
  rw [if_neg (show ¬ ((Value.ref T == Value.none) = true) from by simp)]
  have after : ∀ h₆, Hld (hideAll h ((envOf name scope L a cd :: outer).filterMap (·.frame))) (envOf name scope L a cd :: outer) e2 o ws (rawInt L) h₆ → g.UpToSlots h₆ →
      notedBy (model prog w) ((A₀.deeper (envOf name scope L a cd)).mark (some (.ref e1))) (envOf name scope L a cd) (cameBackBy (model prog w) (A₀.deeper (envOf name scope L a cd)) (envOf name scope L a cd)
      (fun e s' => wpAny (model prog w) (A₀.deeper (envOf name scope L a cd)) (leaving (envOf name scope L a cd) e) (fun _ s'' => R₀ e s'') (fun e' s'' => R₁ e' s'') s')) (.ref e2) ⟨h₆, gs, dr, tk + 1, os⟩ := fun h₆ H₆ gU₆ => by
    refine note_again rfl H₆ ?_
    obtain ⟨T, _, _, j1, j2, j3, _⟩ := H₆.2.2.2
    unfold cameBackBy
    refine wpAny_bind (wpAny_field j1 j2 j3 ?_)
    rw [if_neg (show ¬ ((Value.ref T == Value.none) = true) from by simp)]
    have fly : wpAny (model prog w) (A₀.deeper (envOf name scope L a cd)) (setFlight (.ref e2) (envOf name scope L a cd).frame) (fun _ s'' => wpAny (model prog w) (A₀.deeper (envOf name scope L a cd)) (leaving (envOf name scope L a cd) (.ref e2)) (fun _ s'' => R₀ (.ref e2) s'') (fun e' s'' => R₁ e' s'') s'')
        (fun e s' => wpAny (model prog w) (A₀.deeper (envOf name scope L a cd)) (leaving (envOf name scope L a cd) e) (fun _ s'' => R₀ e s'') (fun e' s'' => R₁ e' s'') s') ⟨h₆, gs, dr, tk + 1, os⟩ := by
      refine set_flight H₆ fun h₇ H₇ U₇ => ?_
      unfold leaving
      refine wpAny_bind (note_again rfl H₇ ?_)
      refine set_flight H₇ fun h₈ H₈ U₈ => ?_
      exact fin h₈ o ws _ hoc H₈ ((gU₆.trans U₇).trans U₈)
    first
      | exact wpAny_bind (wpAny_pure fly)
      | exact fly
  first
    | exact wpAny_bind (wpAny_pure (wpAny_bind (set_flight H₅ fun h₆ H₆ U₆ => wpAny_throw (after h₆ H₆ (gU₅.trans U₆)))))
    | exact wpAny_bind (set_flight H₅ fun h₆ H₆ U₆ => wpAny_throw (after h₆ H₆ (gU₅.trans U₆)))
end
/-- the name n of the frame holds the exception e1, which has no context yet -/
def CaughtAt (g : Heap) (L : Addr) (m : Str → Option Value) (n : Str) (e1 : Addr) (X1 : String) (h : Heap) : Prop :=
  Fr g L h m ∧ m n = some (.ref e1) ∧ ∃ oe ws, h.get? e1 = some oe ∧ oe.cls = .type X1 ∧ oe.data = .fields ws ∧ ws[2]? = some .none
section
variable {prog : Program} {w : World} {A : Around} {E : Value → Shared → Prop} {s : Shared} {g : Heap} {L a : Addr} {m : Str → Option Value} {name : Str} {scope : Scope} {cd : Value}
theorem Raise_from {cls newId initId X1 : String} (FC : ExcCallFacts cls newId initId) (FR : ExcRaiseFacts cls) (G1 : ExcRaiseFacts X1) {x n : Str} {np cnp cpos pos : Pos} {e₀ : PySem.Expr} {rest : List PySem.Expr} {e1 : Addr} {Q : Flow → Shared → Prop} (_F : Fr g L s.heap m) (hh : A.handled = some (.ref e1))
    (h : wpAny (model prog w) A (eval (.Name x np) (envOf name scope L a cd)) (fun f s₁ => f = .type cls ∧ wpAny (model prog w) A (spliced (backTo cpos (starEach (e₀ :: rest) (envOf name scope L a cd))))
      (fun vs s₂ => CaughtAt g L m n e1 X1 s₂.heap ∧ vs.length ≤ sizeLine ∧ ∀ h' e2, Heap.MadeExc s₂.heap h' e2 cls vs → E (.ref e2) { s₂ with heap := fromHeap h' e2 e1 }) E s₁) E s)
    (he : starEach (e₀ :: rest) (envOf name scope L a cd) = (false, eval e₀ (envOf name scope L a cd)) :: starEach rest (envOf name scope L a cd) := by rfl) (hplain : (backTo cpos (starEach rest (envOf name scope L a cd))).any (·.1) = false := by rfl)
    (hk : scope.kind = .function := by rfl) (hl : (envOf name scope L a cd).kindOf n = some .local := by rfl) (hd : (n == ("__debug__" : Str)) = false := by decide) :
    wpAny (model prog w) A (exec (.Raise (some (.Call (.Name x np) (e₀ :: rest) [] cpos)) (some (.Name n cnp)) pos) (envOf name scope L a cd)) Q E s := by
  have hp : (backTo cpos (starEach (e₀ :: rest) (envOf name scope L a cd))).any (·.1) = false := by
    rw [he]; show (false || (backTo cpos (starEach rest (envOf name scope L a cd))).any (·.1)) = false; rw [hplain]; rfl
  rw [arm_exec_Raise]
  show wpAny (model prog w) A (do
    standAt pos
    raiseStmt (envOf name scope L a cd) (some (do let v ← eval (.Call (.Name x np) (e₀ :: rest) [] cpos) (envOf name scope L a cd); standAt pos; pure v)) (some (do let v ← eval (.Name n cnp) (envOf name scope L a cd); standAt pos; pure v))) Q E s
  refine wpAny_bind (wpAny_standAt (raiseStmt_from FR G1 hh (wpAny_bind ?_)))
  refine wpAny_Call_ofName (wpAny_mono h (fun f s₁ h₁ => ?_) fun _ _ x => x)
  obtain ⟨rfl, h₁⟩ := h₁
  refine callWith_excType hp ?_
  rw [he] at h₁ ⊢
  refine Calls.evalArgs_plain (wpAny_mono h₁ (fun vs s₂ h₂ => ?_) fun _ _ y => y)
  obtain ⟨⟨F, hmn, oe, ws, ho, hoc, hod, hw2⟩, hlen, h₂⟩ := h₂
  obtain ⟨hp, gs, d, tk, os⟩ := s₂
  refine wpAny_call_exc FC (hrest := hlen) fun h' e2 hm => ?_
  obtain ⟨t, ht, _, _⟩ := hm.there
  refine wpAny_bind (wpAny_standAt (wpAny_pure ⟨e2, t, rfl, ?_⟩))
  have F' : Fr g L h' m := F.grownK hm.keeps
  refine wpAny_bind (ld (s := ⟨h', gs, d, tk, os⟩) F' hmn ?_ hk hl hd)
  refine wpAny_bind (wpAny_standAt (wpAny_pure ⟨oe, ws, rfl, ?_, ht, hm.keeps _ _ ho, hoc, hod, hw2, h₂ h' e2 hm⟩))
  intro q
  have := hm.new
  rw [q] at this
  rw [this] at ho
  cases ho
end
end

local macro_rules | `(tactic| walk_at "noteFrame ref") => `(tactic| (k_here; (with_reducible rename KtsDicts _ _ => kdX9); (with_reducible rename Heap.NewExc _ _ _ _ => nxX9); k_dflt (refine' own_caught (T' := "AssertionError") nxX9 ?F ?N ?K ?XB ?TB ?D ?T0 ?ex PyProof.Rows.Boot.«AssertionError» ?hn PySem.F.isExc_AssertionError PySem.F.notTuple_AssertionError ?hs ?_; (case F => assumption); (case N => assumption); (case K => assumption); (case XB => assumption); (case TB => assumption); (case D => assumption); (case T0 => first | assumption | exact KtsTurn.refl); (case hs => kts_sub); (case ex => k_is); (case hn => decide); k_whole); clear nxX9; intro h' g' tk' oe' ws' oc' od' ow' T' F' N' K' X' P' D'; (try k_lift K'); (try k_sweep)))
local macro_rules | `(tactic| walk_at "call ref") => `(tactic| (k_here; (first | (with_reducible show wpAny _ _ (call (Value.ref 92) _) _ _ _) | (with_reducible show wpAny _ _ (call (Value.ref 85) _) _ _ _) | (with_reducible show wpAny _ _ (call (Value.ref 78) _) _ _ _)); (with_reducible rename KtsDicts _ _ => kdX9); k_dflt (refine wpAny_call ?_; kts_go)))
local macro_rules | `(tactic| walk_at "exec Raise some some") => `(tactic| (k_here; k_dflt (refine' Raise_from PySem.F.excCall_ValueError PySem.F.excRaise_ValueError PySem.F.excRaise_AssertionError ?hF ?hh ?_ ?he ?hp ?hk ?hl ?hd; (case hF => k_asm); (case hh => exact rfl); (case he => exact rfl); (case hp => exact rfl); (case hk => exact rfl); (case hl => exact rfl); (case hd => decide))))
local macro_rules | `(tactic| walk_at "noteFrame ref") => `(tactic| (k_here; (with_reducible rename Heap.MadeExc _ _ _ _ _ => mxX9); k_dflt (refine' raised_in_as ?K ?F ?N mxX9 ?TT ?_ ?hk ?hlo; (case K => assumption); (case TT => assumption); (case F => k_asm); (case N => k_asm); (case hk => exact rfl); (case hlo => exact rfl)); clear mxX9; intro h' tk' S' R' U'; (try dsimp only at S' R' U' ⊢)))
theorem int_len {a : Int} (h : -10000000000 < a) (h' : a < 10000000000) : (PySem.Str.ofString (toString a)).length ≤ 1000000 := by
  have h0 : a.natAbs < 10 ^ 10 := by omega
  have e := int_text_length_le10 (k := 10) (by decide) h0
  have e2 : (PySem.Str.ofString (toString a)).length = (toString a).length := PySem.ofString_length _
  omega
set_option maxHeartbeats 4000000 in
theorem fmt_call {prog : Program} {w : World} {A : Around} {E Q : Value → Shared → Prop} {s : Shared} {y m d : Int} {t t1 t2 t3 : Tok} (hy : -10000000000 < y ∧ y < 10000000000) (hm : -100 < m ∧ m < 100) (hd : -100 < d ∧ d < 100)
    (h : ∀ x t' k, Q (.str x t') { s with toks := k }) : wpAny (model prog w) A (call (.builtin "str.format") [.str (Str.ofString "Invalid Positivist date: ({}, {}, {})") t, .int y t1, .int m t2, .int d t3]) Q E s := by
  have h1 : -10000000000 < y := hy.1
  have h2 : y < 10000000000 := hy.2
  have h3 : -10000000000 < m := by omega
  have h4 : m < 10000000000 := by omega
  have h5 : -10000000000 < d := by omega
  have h6 : d < 10000000000 := by omega
  clear hy hm hd
  have g1 := int_len h1 h2
  have g2 := int_len h3 h4
  have g3 := int_len h5 h6
  refine' KFm.call_k ?kfmF ?kfmg ?kfmm ?_
  (case kfmF => kfm_eq)
  (case kfmg => (with_reducible exact KFm.args_4 _ _ _ _))
  (case kfmm => kfm_run)
  intro _ _
  exact h _ _ _
local macro_rules | `(tactic| walk_at "call builtin:str.format") => `(tactic| (k_here; (refine' fmt_call ?hy ?hm ?hd ?_; (case hy => (with_reducible exact ⟨‹_›, ‹_›⟩)); (case hm => (with_reducible exact ⟨‹_›, ‹_›⟩)); (case hd => (with_reducible exact ⟨‹_›, ‹_›⟩))); intro _ _ _))
/-- as Says, for calls from the outermost frame alone (what is called may catch) -/
abbrev SaysL (w : World) (loose : List Str) (mean : ExcName → Option Value) (mg mb : Str → Option Value) (f : Addr) (pre : Prop) (vs : List Value) (res : Value) : Prop :=
  ∀ (cn : Str) (cs : Scope) (a : Addr) (ccd : Value) (h₀ : Heap) (L : Addr) (m : Str → Option Value) (news : List (Addr × Obj)) (s : Shared) (Q E : Value → Shared → Prop),
    Below callerA h₀ [] h₀ → Fr h₀ L s.heap m → (hd.heap_39 w.params).In h₀ → News h₀ L s.heap news → Top hd.view_39 loose mean mg mb h₀ → cs.kind = .function → pre →
    (∀ (h' : Heap) (tk' : Nat), Fr h₀ L h' m → News h₀ L h' news → Q res { s with heap := h', toks := tk' }) →
      wpAny (model PySem.Challenge.rw_ba5009_01.row.prog w) (callerA.deeper (envOf cn cs L a ccd)) (call (.ref f) vs) Q E s
section
variable {w : World} {loose : List Str} {mean : ExcName → Option Value} {mg mb : Str → Option Value} {f : Addr} {pre : Prop} {vs : List Value} {res : Value}
  {cn : Str} {cs : Scope} {a : Addr} {ccd : Value} {h₀ : Heap} {L : Addr} {m : Str → Option Value} {news : List (Addr × Obj)} {s : Shared} {Q E : Value → Shared → Prop}
theorem saysL_use (C : SaysL w loose mean mg mb f pre vs res) (B : Below callerA h₀ [] h₀) (F : Fr h₀ L s.heap m) (X : (hd.heap_39 w.params).In h₀) (N : News h₀ L s.heap news) (T : Top hd.view_39 loose mean mg mb h₀) (hk : cs.kind = .function) (hp : pre)
    (ret : ∀ (h' : Heap) (tk' : Nat), Fr h₀ L h' m → News h₀ L h' news → Q res { s with heap := h', toks := tk' }) :
    wpAny (model PySem.Challenge.rw_ba5009_01.row.prog w) (callerA.deeper (envOf cn cs L a ccd)) (call (.ref f) vs) Q E s :=
  C _ _ _ _ _ _ _ _ _ _ _ B F X N T hk hp ret
end

set_option maxHeartbeats 8000000 in
theorem refday_says (w : World) (loose : List Str) (mean : ExcName → Option Value) (mg mb : Str → Option Value) (k : Int) (tj : Tok) : SaysL w loose mean mg mb 155 (k < 4748959 ∧ k.natAbs < 2 ^ 53) [.float (hf k) tj] (.bool true) := by
  unfold SaysL
  k_fill
  intro cn cs a ccd h₀ L mm news s Q E B F KX N T hk hp hret
  refine wpAny_call ?_
  k_dflt (refine' code_defS0 ?k1 ?k2 ?k3 ?k4 ?k5 ?kA ?k6 ?k7 ?k8 ?k9 ?kB ?_ ?cK ?c2 ?c3 ?c4 ?c5; (case kA => exact rfl); (case k2 => k_asm); (case k1 => k_asm); (case k3 => k_asm); (case k4 => k_asm); (case k5 => k_asm); (case k6 => k_is); (case k7 => k_is); (case k8 => k_room); (case k9 => exact BindsTo.of_eq rfl); (case kB => exact locs rfl); (case cK => assumption); (case c2 => exact rfl); (case c3 => exact rfl); (case c4 => exact rfl); (case c5 => decide); k_whole; intro g' L' h' FG' F' N' B' X' T' D'; (try dsimp only); (try k_lift B'); (try k_fold))
  obtain ⟨hp1, hp2⟩ := hp
  k_steps
  all_goals first
    | ((refine' ⟨?cF, ?cm, ?co⟩); (case cF => k_asm); (case cm => exact if_pos rfl); (case co => ((rename News _ _ _ _ => nN9); (refine' ⟨_, _, (nN9 (_, _) ?cM).1, ?c1, ?c2, ?c3⟩); (case cM => k_mem); (case c1 => assumption); (case c2 => assumption); (case c3 => assumption))))
    | (refine hret _ _ (by k_asm) ?_; (rename News _ _ _ _ => nN9); exact fun p hp => nN9 p (List.mem_cons_of_mem _ hp))
    | fail "refday: the end"

theorem jd_low (n : Int) (h : 0 ≤ n) : 2 * (653053 - n) + 3442849 < 4748959 := by omega

set_option maxHeartbeats 8000000 in
theorem refused_says (w : World) (loose : List Str) (mean : ExcName → Option Value) (mg mb : Str → Option Value) (y z m d : Int) (t1 t2 t3 : Tok) : SaysL w loose mean mg mb 148 (z = y + 1788 ∧ -10000000000 < y ∧ y < 10000000000 ∧ -100 < m ∧ m < 100 ∧ -100 < d ∧ d < 100 ∧ (y < 1 ∨ (1 ≤ y ∧ (m ≤ 0 ∨ 14 < m)) ∨ (1 ≤ y ∧ 0 < m ∧ m ≤ 14 ∧ (d ≤ 0 ∨ 28 < d)) ∨ (1 ≤ y ∧ m = 14 ∧ leapB z = true ∧ 2 < d ∧ d ≤ 28) ∨ (1 ≤ y ∧ m = 14 ∧ leapB z = false ∧ 1 < d ∧ d ≤ 28))) [.int y t1, .int m t2, .int d t3] (.bool true) := by
  unfold SaysL
  k_fill
  intro cn cs a ccd h₀ L mm news s Q E B F KX N T hk hp hret
  obtain ⟨hz, hp1, hp2, hp3, hp4, hp5, hp6, hp⟩ := hp
  refine wpAny_call ?_
  k_dflt (refine' code_defS0 ?k1 ?k2 ?k3 ?k4 ?k5 ?kA ?k6 ?k7 ?k8 ?k9 ?kB ?_ ?cK ?c2 ?c3 ?c4 ?c5; (case kA => exact rfl); (case k2 => k_asm); (case k1 => k_asm); (case k3 => k_asm); (case k4 => k_asm); (case k5 => k_asm); (case k6 => k_is); (case k7 => k_is); (case k8 => k_room); (case k9 => exact BindsTo.of_eq rfl); (case kB => exact locs rfl); (case cK => assumption); (case c2 => exact rfl); (case c3 => exact rfl); (case c4 => exact rfl); (case c5 => decide); k_whole; intro g' L' h' FG' F' N' B' X' T' D'; (try dsimp only); (try k_lift B'); (try k_fold))
  have A9 : AimY z := trivial
  rcases hp with hp | ⟨hq1, hp⟩ | ⟨hq1, hq2, hq3, hp⟩ | ⟨hq1, hq2, hq3, hq4, hq5⟩ | ⟨hq1, hq2, hq3, hq4, hq5⟩
  all_goals try (rcases hp with hp | hp)
  all_goals k_steps
  all_goals first
    | ((refine' ⟨?cF, ?cm, ?co⟩); (case cF => k_asm); (case cm => exact if_pos rfl); (case co => ((rename News _ _ _ _ => nN9); (refine' ⟨_, _, (nN9 (_, _) ?cM).1, ?c1, ?c2, ?c3⟩); (case cM => k_mem); (case c1 => assumption); (case c2 => assumption); (case c3 => assumption))))
    | (refine hret _ _ (by k_asm) ?_; (rename News _ _ _ _ => nN9); exact fun p hp => nN9 p (List.mem_cons_of_mem _ hp))
    | w_report

def YearIs (_r : Int) : Prop := True
def LongMark : Prop := True
theorem r_mod_ii {prog : Program} {w : World} {A : Around} {E : Value → Shared → Prop} {s : Shared} {a n n' : Int} {t u : Tok} {Q : Value → Shared → Prop} (hn : n = n') (hp : 0 < n')
    (h : ∀ r, r = a % n' → 0 ≤ r → r < n' → Q (.int r s.toks) { s with toks := s.toks + 1 }) : wpAny (model prog w) A (binaryOp .Mod (.int a t) (.int n u)) Q E s := by
  subst hn
  refine PyProof.Rows.mod_int (by omega) ?_
  rw [Int.fmod_eq_emod_of_nonneg a (by omega)]
  exact h _ rfl (Int.emod_nonneg _ (by omega)) (Int.emod_lt_of_pos _ hp)
theorem long_join {M : Model} {A : Around} {E : Value → Shared → Prop} {s : Shared} {x : Sem Value} {Q : Value → Shared → Prop} {r : Int} (_ : YearIs r)
    (h1 : wpAny M A x (fun v s' => ∃ k, v = .bool (leapB (1 + r + 1788)) ∧ s' = { s with toks := k }) E s) (h2 : ∀ k, Q (.bool (leapB (1 + r + 1788))) { s with toks := k }) : wpAny M A x Q E s :=
  wpAny_mono h1 (fun v s' h => by obtain ⟨k, rfl, rfl⟩ := h; exact h2 k) fun _ _ h => h
theorem leap_bit {b : Bool} {z : Int} (h : b = true ↔ (z % 4 = 0 ∧ (z % 100 ≠ 0 ∨ z % 400 = 0))) : b = leapB z := by
  rw [Bool.eq_iff_iff, h]
  unfold leapB
  exact decide_eq_true_iff.symm
theorem end_says (w : World) (loose : List Str) (mean : ExcName → Option Value) (mg mb : Str → Option Value) (t1 t2 t3 : Tok) : Says w loose mean mg mb 64 4 32 True [.int 1788 t1, .int 12 t2, .int 31 t3] (fun t => .float (hf 4748957) t) := by
  have e : (4748957 : Int) = 2 * (dYear 1788 + mOff 1788 12 + 31) + 3442849 := by decide +kernel
  have h := tojd_says w loose mean mg mb 1788 12 31 t1 t2 t3
  rw [← e] at h
  unfold Says
  intro dp un gd cn cs a ccd cl outer A₀ base h₀ L m news s Q E B F X N T hk _ hd1 hu1 ret
  exact says_use h B F X N T hk (by decide) hd1 hu1 ret
theorem r_mod_e9 {prog : Program} {w : World} {A : Around} {E : Value → Shared → Prop} {s : Shared} {a : Int} {t u : Tok} {Q : Value → Shared → Prop}
    (h : ∀ r, YearIs r → r = a % 1000000000 → 0 ≤ r → r < 1000000000 → Q (.int r s.toks) { s with toks := s.toks + 1 }) : wpAny (model prog w) A (binaryOp .Mod (.int a t) (.int (10 ^ Int.toNat 9) u)) Q E s :=
  r_mod_ii (by decide) (by decide) fun r h1 h2 h3 => h r trivial h1 h2 h3
local macro_rules | `(tactic| walk_at "binaryOp Mod int int") => `(tactic| (k_here; ((with_reducible refine' r_mod_ii ?hn ?hp ?_); (case hn => with_reducible exact rfl); (case hp => decide)); intro r9 hr9 hr8 hr7; (try dsimp only)))
local macro_rules | `(tactic| walk_at "binaryOp Mod int int") => `(tactic| (k_here; (with_reducible refine' r_mod_e9 ?_); intro r9 yi9 hr9 hr8 hr7; (try dsimp only)))
local macro_rules | `(tactic| walk_at "eval BoolOp") => `(tactic| (k_here; (with_reducible rename LongMark => lm9); clear lm9; refine' long_join ?y ?g1 ?g2; (case y => with_reducible assumption); (case g1 => (k_steps; all_goals (k_dflt (refine ⟨_, congrArg Value.bool (leap_bit ?_), rfl⟩); (try simp only [beq_iff_eq, bne_iff_ne]); omega))); intro k9; (try dsimp only)))
/-- a loop over a tuple of three ints that stand under one word P; what the turn makes is dropped -/
def Kept (nl : List (Addr × Obj)) (x : Str) (st : List Str) (m₀ m : Str → Option Value) (nx : List (Addr × Obj)) : Prop :=
  nx = nl ∧ ∀ z, z ≠ x → st.contains z = false → m z = m₀ z
section
variable {prog : Program} {w : World} {A : Around} {E : Value → Shared → Prop} {s : Shared} {h₀ : Heap} {env : Env} {x : Str} {body : List Stmt} {Q : Flow → Shared → Prop}
theorem kept_fr {L : Addr} {h : Heap} {st : List Str} {m₀ m₁ : Str → Option Value} {v : Value} (h2 : ∀ z, z ≠ x → st.contains z = false → m₁ z = m₀ z)
    (F : Fr h₀ L h (fun y => if y = x then some v else m₁ y)) : Fr h₀ L h (fun y => if y = x then some v else if st.contains y then m₁ y else m₀ y) :=
  kst_fr (ps := []) (fun _ hp => nomatch hp) (fun z h1 _ h3 => h2 z h1 h3) F
theorem kept_out {L : Addr} {h : Heap} {st : List Str} {m₀ m₁ : Str → Option Value} (h2 : ∀ z, z ≠ x → st.contains z = false → m₁ z = m₀ z)
    (F : Fr h₀ L h m₁) : Fr h₀ L h (fun y => if y = x then m₁ y else if st.contains y then m₁ y else m₀ y) :=
  kst_frOut (ps := []) (fun _ hp => nomatch hp) (fun z h1 _ h3 => h2 z h1 h3) F
theorem kept_kst {L : Addr} {st : List Str} {m₀ : Str → Option Value} {nl own : List (Addr × Obj)} {pre : List Int} {adr : List Addr} {s₁ s₂ : Shared} {f : Flow} (hp : InvPostN h₀ L (Kept nl x st m₀) own adr s₁ Q f s₂) :
    InvPostN h₀ L (KstS (fun _ : Unit => nl) (fun _ => []) (fun _ => True) x st m₀ (fun _ _ => True) pre) own adr s₁ Q f s₂ := by
  have up : InvEndN h₀ L (Kept nl x st m₀) own adr s₁ s₂ → InvEndN h₀ L (KstS (fun _ : Unit => nl) (fun _ => []) (fun _ => True) x st m₀ (fun _ _ => True) pre) own adr s₁ s₂ := by
    rintro ⟨h', tk, m', news', nx, e, F', N', hn, ho, ha, hk, hm⟩
    exact ⟨h', tk, m', news', nx, e, F', N', hn, ho, ha, (), hk, trivial, (fun _ hp => nomatch hp), (fun z h1 _ h3 => hm z h1 h3), trivial⟩
  cases f with
  | ret v => exact hp
  | brk => exact hp
  | next => exact up hp
  | cont => exact up hp
theorem day_loop (st : List Str) (P : Int → Prop) {l : Addr} {d1 d2 d3 : Int} {t1 t2 t3 : Tok} {c : Nat} {m₀ : Str → Option Value} {nl full : List (Addr × Obj)} {L : Addr} (hL : env.locals = L) (hh : A.handled = none)
    (F : Fr h₀ L s.heap m₀) (N : News h₀ L s.heap full) (hsub : ∀ p ∈ nl, p ∈ full) (hm : (l, { cls := .type "tuple", data := .seq #[.int d1 t1, .int d2 t2, .int d3 t3] c }) ∈ full) (hlt : ∀ p ∈ nl, p.1 < l)
    (p1 : P d1) (p2 : P d2) (p3 : P d3)
    (turn : ∀ (k : Int) t (u : Str → Option Value) h tk own, P k → OwnOff own (nl.map (·.1)) →
      Fr h₀ L h (fun y => if y = x then some (.int k t) else if st.contains y then u y else m₀ y) → News h₀ L h (nl ++ own) →
      wpAny (model prog w) A (execs body env) (InvPostN h₀ L (Kept nl x st m₀) own (nl.map (·.1)) { s with heap := h, toks := tk } Q) E { s with heap := h, toks := tk })
    (done : ∀ (u : Str → Option Value) h tk, Fr h₀ L h (fun y => if y = x then u y else if st.contains y then u y else m₀ y) → News h₀ L h nl → Q .next { s with heap := h, toks := tk }) :
    wpAny (model prog w) A (pyIter (.ref l)) (fun it s₂ => LoopAtV prog w A h₀ env x body Q E it s₂) E s := by
  subst hL
  have hol := (N _ hm).1
  have hls : s.heap.IsTuple l #[.int d1 t1, .int d2 t2, .int d3 t3] := ⟨_, hol, rfl, c, rfl⟩
  have hne : l ≠ s.heap.objs.size := Nat.ne_of_lt (Heap.lt_size hol)
  have N' : News h₀ env.locals s.heap nl := fun p hp => N p (hsub p hp)
  refine wpAny_pyIter_tuple hls ?_
  have W := Walks.tuple (prog := prog) (w := w) hh s.heap.objs.size l hne #[.int d1 t1, .int d2 t2, .int d3 t3]
  refine loop_invN (fun _ m nx => Kept nl x st m₀ m nx) W ?_ ?_ ?_ ?_ ⟨⟨_, Heap.get?_push_size _ rfl, rfl, rfl⟩, hls.at fun o e => Heap.get?_push_of_some _ e⟩ (F.push _) (fun p hp => ⟨Heap.get?_push_of_some _ (N' p hp).1, (N' p hp).2⟩) ⟨rfl, fun _ _ _ => rfl⟩ ?_ ?_
  · intro hm'
    rcases List.mem_cons.mp hm' with e | hm'
    · exact absurd F.ns.lt (e ▸ Nat.lt_irrefl _)
    · exact (N _ hm).2.1 ((List.mem_singleton.mp hm').symm)
  · intro b hb
    rw [List.mem_singleton.mp hb]
    exact next_is_new F
  · intro p hp hI
    exact absurd (Heap.lt_size (N' p hp).1) ((List.mem_singleton.mp hI) ▸ Nat.lt_irrefl _)
  · intro p hp hI
    rcases List.mem_cons.mp hI with e | hI
    · exact absurd (Heap.lt_size (N' p hp).1) (e ▸ Nat.lt_irrefl _)
    · exact absurd (hlt p hp) ((List.mem_singleton.mp hI) ▸ Nat.lt_irrefl _)
  · rintro i v m₁ nx h tk own hi hP _ hoff ⟨rfl, h2⟩ F₁ N₁
    have hv : ∃ k t, v = .int k t ∧ P k := by
      match i, hi with
      | 0, _ => exact ⟨d1, t1, (Option.some.inj hP).symm, p1⟩
      | 1, _ => exact ⟨d2, t2, (Option.some.inj hP).symm, p2⟩
      | 2, _ => exact ⟨d3, t3, (Option.some.inj hP).symm, p3⟩
      | i + 3, hi => exact absurd hi (by show ¬ (i + 3 < 3); omega)
    obtain ⟨k, t, rfl, hk⟩ := hv
    exact turn k t m₁ h tk own hk hoff (kept_fr h2 F₁) N₁
  · rintro m₁ nx h tk ⟨rfl, h2⟩ F₁ N₁
    exact done m₁ h tk (kept_out h2 F₁) N₁
theorem month_loop (st : List Str) {r : Addr} {t₀ u₀ v₀ : Tok} {m₀ : Str → Option Value} {nl : List (Addr × Obj)} {L : Addr} (hL : env.locals = L) (hh : A.handled = none) (hr : IsRange s.heap r 1 15 1 t₀ u₀ v₀) (F : Fr h₀ L s.heap m₀) (N : News h₀ L s.heap nl)
    (turn : ∀ (k : Int) t (u : Str → Option Value) h tk own, 0 < k → k < 15 → OwnOff own (nl.map (·.1)) →
      Fr h₀ L h (fun y => if y = x then some (.int k t) else if st.contains y then u y else m₀ y) → News h₀ L h (nl ++ own) →
      wpAny (model prog w) A (execs body env) (InvPostN h₀ L (Kept nl x st m₀) own (nl.map (·.1)) { s with heap := h, toks := tk } Q) E { s with heap := h, toks := tk })
    (done : ∀ (u : Str → Option Value) h tk, Fr h₀ L h (fun y => if y = x then u y else if st.contains y then u y else m₀ y) → News h₀ L h nl → Q .next { s with heap := h, toks := tk }) :
    wpAny (model prog w) A (pyIter (.ref r)) (fun it s₂ => LoopAtV prog w A h₀ env x body Q E it s₂) E s := by
  subst hL
  exact kst_range (σ := Unit) (n := 14) (fun _ => nl) (fun _ => []) (fun _ => True) st (fun _ _ => True) () hh hr (by decide) (by decide) F N trivial (fun _ hp => nomatch hp) trivial
    (fun _ pre k t u h tk own e hl hO _ _ F' N' => wpAny_mono (turn k t u h tk own (by omega) (by omega) hO F' N') (fun _ _ p => kept_kst p) fun _ _ p => p)
    (fun _ u h tk _ _ F' N' => done u h tk F' N')
end
theorem kept_end {h₀ : Heap} {x : Str} {st : List Str} {m₀ : Str → Option Value} {nl own news' : List (Addr × Obj)} {L : Addr} {m' : Str → Option Value} {s₁ : Shared} {h' : Heap} {tk : Nat}
    (F : Fr h₀ L h' m') (N : News h₀ L h' news') (hn : ∀ p ∈ nl ++ own, p ∈ news') (hs : ∀ z, z ≠ x → st.contains z = false → m' z = m₀ z) :
    InvEndN h₀ L (Kept nl x st m₀) own (nl.map (·.1)) s₁ { s₁ with heap := h', toks := tk } :=
  InvEndN.intro F N ⟨rfl, hs⟩ rfl (fun p hp => hn p (List.mem_append_left _ hp)) (fun p hp => hn p (List.mem_append_right _ hp))
/-- the month at hand and the Gregorian year, for the joins -/
def MonthIs (_k _z : Int) : Prop := True
theorem monthIs {r : Int} (_ : YearIs r) (k : Int) : MonthIs k (1 + r + 1788) := trivial
/-- n is the month's last day -/
def LastOk (k z n : Int) : Prop := (k < 14 ∧ n = 28) ∨ (¬ k < 14 ∧ leapB z = true ∧ n = 2) ∨ (¬ k < 14 ∧ leapB z = false ∧ n = 1)
theorem last_28 {k z : Int} (h : k < 14) : LastOk k z 28 := Or.inl ⟨h, rfl⟩
theorem last_2 {k z : Int} (h : ¬ k < 14) (hb : leapB z = true) : LastOk k z 2 := Or.inr (Or.inl ⟨h, hb, rfl⟩)
theorem last_1 {k z : Int} (h : ¬ k < 14) (hb : leapB z = false) : LastOk k z 1 := Or.inr (Or.inr ⟨h, hb, rfl⟩)
theorem last_join {M : Model} {A : Around} {E : Value → Shared → Prop} {s : Shared} {x : Sem Value} {Q : Value → Shared → Prop} {k z : Int} (_ : MonthIs k z)
    (h1 : wpAny M A x (fun v s' => ∃ n t tk, v = .int n t ∧ LastOk k z n ∧ s' = { s with toks := tk }) E s) (h2 : ∀ n t tk, LastOk k z n → 0 < n → n ≤ 28 → Q (.int n t) { s with toks := tk }) : wpAny M A x Q E s :=
  wpAny_mono h1 (fun v s' h => by
    obtain ⟨n, t, tk, rfl, hl, rfl⟩ := h
    refine h2 n t tk hl ?_ ?_
    · unfold LastOk at hl; omega
    · unfold LastOk at hl; omega) fun _ _ h => h
theorem pos_any {y z k n d : Int} (hl : LastOk k z n) (h : z = y + 1788 ∧ 1 ≤ y ∧ z ≤ 2000000000 ∧ 0 < k ∧ k < 15 ∧ 0 < d ∧ d ≤ n) : PosOk y z k d := by
  obtain ⟨h1, h2, h3, h4, h5, h6, h7⟩ := h
  refine ⟨⟨h1, h2, h4, by omega, h6, by unfold LastOk at hl; omega, ?_⟩, h3⟩
  rcases hl with ⟨hl, _⟩ | ⟨hl, hb, hn⟩ | ⟨hl, hb, hn⟩
  · exact .inl (by omega)
  · exact .inr (.inl ⟨by omega, hb, by omega⟩)
  · exact .inr (.inr ⟨by omega, hb, by omega⟩)
theorem PosOk.out {y z m d : Int} (h : PosOk y z m d) : (z = y + 1788 ∧ 1 ≤ y ∧ 0 < m ∧ m ≤ 14 ∧ 0 < d ∧ d ≤ 28 ∧ (m ≠ 14 ∨ (m = 14 ∧ leapB z = true ∧ d ≤ 2) ∨ (m = 14 ∧ leapB z = false ∧ d = 1))) ∧ z ≤ 2000000000 := h
theorem dy_bounds {y : Int} (h1 : 1 ≤ y) (h2 : y ≤ 2000000000) : 0 ≤ dYear y ∧ dYear y ≤ 1000000000000 := by unfold dYear; omega
theorem ref_last {y z k n : Int} (hl : LastOk k z n) (h : z = y + 1788 ∧ 1 ≤ y ∧ y < 10000000000 ∧ 0 < k ∧ k < 15) :
    (z = y + 1788 ∧ -10000000000 < y ∧ y < 10000000000 ∧ -100 < k ∧ k < 100 ∧ -100 < n + 1 ∧ n + 1 < 100 ∧ (y < 1 ∨ (1 ≤ y ∧ (k ≤ 0 ∨ 14 < k)) ∨ (1 ≤ y ∧ 0 < k ∧ k ≤ 14 ∧ (n + 1 ≤ 0 ∨ 28 < n + 1)) ∨ (1 ≤ y ∧ k = 14 ∧ leapB z = true ∧ 2 < n + 1 ∧ n + 1 ≤ 28) ∨ (1 ≤ y ∧ k = 14 ∧ leapB z = false ∧ 1 < n + 1 ∧ n + 1 ≤ 28))) := by
  obtain ⟨h1, h2, h3, h4, h5⟩ := h
  rcases hl with ⟨hl, hn⟩ | ⟨hl, hb, hn⟩ | ⟨hl, hb, hn⟩
  · exact ⟨h1, by omega, h3, by omega, by omega, by omega, by omega, .inr (.inr (.inl ⟨h2, h4, by omega, by omega⟩))⟩
  · exact ⟨h1, by omega, h3, by omega, by omega, by omega, by omega, .inr (.inr (.inr (.inl ⟨h2, by omega, hb, by omega, by omega⟩)))⟩
  · exact ⟨h1, by omega, h3, by omega, by omega, by omega, by omega, .inr (.inr (.inr (.inr ⟨h2, by omega, hb, by omega, by omega⟩)))⟩
theorem ref_plain {y m d : Int} (h : -10000000000 < y ∧ y < 10000000000 ∧ -100 < m ∧ m < 100 ∧ -100 < d ∧ d < 100 ∧ (y < 1 ∨ (1 ≤ y ∧ (m ≤ 0 ∨ 14 < m)) ∨ (1 ≤ y ∧ 0 < m ∧ m ≤ 14 ∧ (d ≤ 0 ∨ 28 < d)))) :
    (y + 1788 = y + 1788 ∧ -10000000000 < y ∧ y < 10000000000 ∧ -100 < m ∧ m < 100 ∧ -100 < d ∧ d < 100 ∧ (y < 1 ∨ (1 ≤ y ∧ (m ≤ 0 ∨ 14 < m)) ∨ (1 ≤ y ∧ 0 < m ∧ m ≤ 14 ∧ (d ≤ 0 ∨ 28 < d)) ∨ (1 ≤ y ∧ m = 14 ∧ leapB (y + 1788) = true ∧ 2 < d ∧ d ≤ 28) ∨ (1 ≤ y ∧ m = 14 ∧ leapB (y + 1788) = false ∧ 1 < d ∧ d ≤ 28))) := by
  obtain ⟨h1, h2, h3, h4, h5, h6, h7⟩ := h
  refine ⟨rfl, h1, h2, h3, h4, h5, h6, ?_⟩
  rcases h7 with h7 | h7 | h7
  · exact .inl h7
  · exact .inr (.inl h7)
  · exact .inr (.inr (.inl h7))
section
variable {prog : Program} {w : World} {A : Around} {E : Value → Shared → Prop} {s : Shared} {Q : Value → Shared → Prop} {a b : Addr} {oa ob : Obj}
theorem ne_two {x1 x2 y1 y2 : Int} {t1 t2 u1 u2 : Tok} {n k : Nat} (ha : s.heap.get? a = some oa) (ca : oa.cls = .type "tuple") (da : oa.data = .seq #[.int x1 t1, .int x2 t2] n)
    (hb : s.heap.get? b = some ob) (cb : ob.cls = .type "tuple") (db : ob.data = .seq #[.int y1 u1, .int y2 u2] k) (hu : A.units + 64 < cLine) (e : x1 = y1 ∧ x2 = y2) (h : Q (.bool false) s) : wpAny (model prog w) A (compareOp .NotEq (.ref a) (.ref b)) Q E s := by
  obtain ⟨rfl, rfl⟩ := e
  refine ne_dataH (reads_tuple_at ha ca da (.cons (.int _ _) (.cons (.int _ _) .nil))) (reads_tuple_at hb cb db (.cons (.int _ _) (.cons (.int _ _) .nil))) rfl rfl hu ?_
  simpa [PyData.eqv, PyData.eqvAll] using h
theorem ne_three {x1 x2 x3 y1 y2 y3 : Int} {t1 t2 t3 u1 u2 u3 : Tok} {n k : Nat} (ha : s.heap.get? a = some oa) (ca : oa.cls = .type "tuple") (da : oa.data = .seq #[.int x1 t1, .int x2 t2, .int x3 t3] n)
    (hb : s.heap.get? b = some ob) (cb : ob.cls = .type "tuple") (db : ob.data = .seq #[.int y1 u1, .int y2 u2, .int y3 u3] k) (hu : A.units + 64 < cLine) (e : x1 = y1 ∧ x2 = y2 ∧ x3 = y3) (h : Q (.bool false) s) : wpAny (model prog w) A (compareOp .NotEq (.ref a) (.ref b)) Q E s := by
  obtain ⟨rfl, rfl, rfl⟩ := e
  refine ne_dataH (reads_tuple_at ha ca da (.cons (.int _ _) (.cons (.int _ _) (.cons (.int _ _) .nil)))) (reads_tuple_at hb cb db (.cons (.int _ _) (.cons (.int _ _) (.cons (.int _ _) .nil)))) rfl rfl hu ?_
  simpa [PyData.eqv, PyData.eqvAll] using h
end
theorem PosOk.dy {y z m d : Int} (h : PosOk y z m d) : 0 ≤ dYear z ∧ dYear z ≤ 1000000000000 := by
  have h1 := h.out
  exact dy_bounds (by omega) (by omega)
section
variable {prog : Program} {w : World} {A : Around} {E : Value → Shared → Prop} {s : Shared} {h₀ : Heap} {env : Env} {x : Str} {body : List Stmt} {Q : Flow → Shared → Prop}
theorem day_loopP (st : List Str) {r k n q : Int} (_ : YearIs r) (lk : LastOk k (1 + r + 1788) n) (hb : 0 ≤ r ∧ r < 1000000000 ∧ 0 < k ∧ k < 15 ∧ 0 < n) {l : Addr} {t1 t2 t3 : Tok} {c : Nat} {m₀ : Str → Option Value} {nl : List (Addr × Obj)} {L : Addr} (hL : env.locals = L) (hh : A.handled = none)
    (F : Fr h₀ L s.heap m₀) (N : News h₀ L s.heap ((l, { cls := .type "tuple", data := .seq #[.int 1 t1, .int q t2, .int n t3] c }) :: nl)) (hlt : ∀ p : Addr × Obj, p ∈ nl → p.1 < l) (hq : 0 < q ∧ q ≤ n)
    (turn : ∀ (d : Int) t (u : Str → Option Value) h tk own, PosOk (1 + r) (1 + r + 1788) k d → OwnOff own (nl.map (·.1)) →
      Fr h₀ L h (fun y => if y = x then some (.int d t) else if st.contains y then u y else m₀ y) → News h₀ L h (nl ++ own) →
      wpAny (model prog w) A (execs body env) (InvPostN h₀ L (Kept nl x st m₀) own (nl.map (·.1)) { s with heap := h, toks := tk } Q) E { s with heap := h, toks := tk })
    (done : ∀ (u : Str → Option Value) h tk, Fr h₀ L h (fun y => if y = x then u y else if st.contains y then u y else m₀ y) → News h₀ L h nl → Q .next { s with heap := h, toks := tk }) :
    wpAny (model prog w) A (pyIter (.ref l)) (fun it s₂ => LoopAtV prog w A h₀ env x body Q E it s₂) E s :=
  day_loop st (fun d => PosOk (1 + r) (1 + r + 1788) k d) hL hh F N (fun p hp => List.mem_cons_of_mem _ hp) (List.mem_cons_self ..) hlt (pos_any lk (by omega)) (pos_any lk (by omega)) (pos_any lk (by omega)) turn done
end

local macro_rules | `(tactic| walk_at "eval IfExp") => `(tactic| (k_here; (with_reducible rename MonthIs _ _ => mo9); (refine' last_join mo9 ?g1 ?g2); (case g1 => (clear mo9; (k_dflt k_steps); all_goals (try k_dflt (refine ⟨_, _, _, rfl, ?_, rfl⟩)); all_goals k_dflt (first | exact last_28 (by omega) | exact last_2 (by omega) (by with_reducible assumption) | exact last_1 (by omega) (by with_reducible assumption)))); clear mo9; intro n9 t9 tk9 lk9 ln9 lm9; (try dsimp only)))
local macro_rules | `(tactic| walk_at "pyIter ref") => `(tactic| (k_here; (with_reducible show wpAny _ _ (pyIter (Value.ref _)) (fun it s₂ => LoopAtV _ _ _ _ _ _ _ _ _ it s₂) _ _); (with_reducible rename Fr _ _ _ _ => lF9); (with_reducible rename News _ _ _ _ => lN9); (with_reducible rename YearIs _ => yi9); (with_reducible rename IsRange _ _ _ _ _ _ _ _ => rgX9); (with_unfolding_all refine' month_loop [Str.ofString "last", Str.ofString "day", Str.ofString "place", Str.ofString "jd", Str.ofString "y", Str.ofString "m", Str.ofString "d"] (by rfl) (by rfl) rgX9 lF9 lN9 ?turn ?done); (case' turn => (intro k9 kT9 kU9 kH9 kTk9 kOwn9 kLo9 kHi9 kOff9 kFr9 kNews9; (try simp only [List.nil_append] at kNews9); have mo9 := monthIs yi9 k9)); (case' done => (intro kU9 kH9 kTk9 kFr9 kNews9)); (all_goals (clear lF9 lN9)); (all_goals (clear rgX9)); (all_goals (try k_fold))))
local macro_rules | `(tactic| walk_at "exec For Name Tuple cons nil") => `(tactic| (k_here; (with_reducible rename LastOk _ _ _ => lk9); (with_reducible rename Fr _ _ _ _ => lF9); (with_unfolding_all refine' For_invVF lF9 ?k1 ?k2 ?_; (case k1 => exact rfl); (case k2 => exact rfl); k_whole)))
local macro_rules | `(tactic| walk_at "pyIter ref") => `(tactic| (k_here; (with_reducible show wpAny _ _ (pyIter (Value.ref _)) (fun it s₂ => LoopAtV _ _ _ _ _ _ _ _ _ it s₂) _ _); (with_reducible rename LastOk _ _ _ => lk9); (with_reducible rename Fr _ _ _ _ => lF9); (with_reducible rename News _ _ _ _ => lN9); (with_reducible rename YearIs _ => yi9); (with_unfolding_all refine' day_loopP [Str.ofString "place", Str.ofString "jd", Str.ofString "y", Str.ofString "m", Str.ofString "d"] yi9 lk9 ?dhb (by rfl) (by rfl) lF9 lN9 ?dhlt ?dhq ?dayT ?dayD); (case dhb => omega); (case dhlt => (with_reducible assumption)); (case dhq => first | omega | (split <;> omega)); (case' dayT => (intro d9 dT9 dU9 dH9 dTk9 dOwn9 dP9 dOff9 dFr9 dNews9; have dy9 := PosOk.dy dP9; have dQ9 := PosOk.out dP9)); (case' dayD => (intro dU9 dH9 dTk9 dFr9 dNews9)); (all_goals (clear lF9 lN9)); (all_goals (try k_fold))))
local macro_rules | `(tactic| walk_at "call ref") => `(tactic| (k_here; (with_reducible show wpAny _ _ (call (Value.ref 85) [Value.int _ _, Value.int _ _, Value.int _ _]) _ _ _); k_dflt (refine' says_use (tojdp_says _ _ _ _ _ _ _ _ _ _ _ _) ?k1 ?k2 ?k3 ?k4 ?k5 ?kK ?kp ?kd ?ku ?_; (case k1 => k_asm); (case k2 => k_asm); (case k3 => k_asm); (case k4 => k_asm); (case k5 => k_asm); (case kK => first | exact rfl | assumption); (case kp => exact PosOk.out (by with_reducible assumption)); (case kd => ktr_room); (case ku => ktr_units)); intro t9 h9 tk9 F9 N9; (try dsimp only); (try k_fold)))
local macro_rules | `(tactic| walk_at "call ref") => `(tactic| (k_here; (with_reducible show wpAny _ _ (call (Value.ref 120) [Value.float _ _]) _ _ _); k_dflt (refine' says2_use (ord_says _ _ _ _ _ _ _ _) ?k1 ?k2 ?k3 ?k4 ?k5 ?kK ?kp ?kd ?ku ?_; (case k1 => k_asm); (case k2 => k_asm); (case k3 => k_asm); (case k4 => k_asm); (case k5 => k_asm); (case kK => first | exact rfl | assumption); (case kp => exact PosOk.place (by with_reducible assumption)); (case kd => ktr_room); (case ku => ktr_units)); intro d9 t9 u9 n9 h9 tk9 F9 N9 l9; (try dsimp only); (try k_fold)))
local macro_rules | `(tactic| walk_at "call ref") => `(tactic| (k_here; (with_reducible show wpAny _ _ (call (Value.ref 134) [Value.int _ _, Value.int _ _]) _ _ _); k_dflt (refine' says3_use (togo_says _ _ _ _ _ _ _ _ _) ?k1 ?k2 ?k3 ?k4 ?k5 ?kK ?kp ?kd ?ku ?_; (case k1 => k_asm); (case k2 => k_asm); (case k3 => k_asm); (case k4 => k_asm); (case k5 => k_asm); (case kK => first | exact rfl | assumption); (case kp => exact PosOk.place (by with_reducible assumption)); (case kd => ktr_room); (case ku => ktr_units)); intro d9 t9 u9 v9 n9 h9 tk9 F9 N9 l9; (try dsimp only); (try k_fold)))
local macro_rules | `(tactic| walk_at "call ref") => `(tactic| (k_here; (with_reducible show wpAny _ _ (call (Value.ref 106) [Value.int _ _, Value.int _ _, Value.int _ _]) _ _ _); k_dflt (refine' says3_use (togp_says _ _ _ _ _ _ _ _ _ _ _ _) ?k1 ?k2 ?k3 ?k4 ?k5 ?kK ?kp ?kd ?ku ?_; (case k1 => k_asm); (case k2 => k_asm); (case k3 => k_asm); (case k4 => k_asm); (case k5 => k_asm); (case kK => first | exact rfl | assumption); (case kp => with_reducible assumption); (case kd => ktr_room); (case ku => ktr_units)); intro d9 t9 u9 v9 n9 h9 tk9 F9 N9 l9; (try dsimp only); (try k_fold)))
local macro_rules | `(tactic| walk_at "call ref") => `(tactic| (k_here; (with_reducible show wpAny _ _ (call (Value.ref 92) [Value.float _ _]) _ _ _); k_dflt (refine' says3_use (fromjdp_says _ _ _ _ _ _ _ _) ?k1 ?k2 ?k3 ?k4 ?k5 ?kK ?kp ?kd ?ku ?_; (case k1 => k_asm); (case k2 => k_asm); (case k3 => k_asm); (case k4 => k_asm); (case k5 => k_asm); (case kK => first | exact rfl | assumption); (case kp => exact ⟨PosOk.place (by with_reducible assumption), by omega, by omega⟩); (case kd => ktr_room); (case ku => ktr_units)); intro d9 t9 u9 v9 n9 h9 tk9 F9 N9 l9; (try dsimp only); (try k_fold)))
local macro_rules | `(tactic| walk_at "call ref") => `(tactic| (k_here; (with_reducible show wpAny _ _ (call (Value.ref 99) [Value.int _ _, Value.int (moOf _ _) _, Value.int (daOf _ _) _]) _ _ _); k_dflt (refine' says3_use (fromgp_says _ _ _ _ _ _ _ _ _ _) ?k1 ?k2 ?k3 ?k4 ?k5 ?kK ?kp ?kd ?ku ?_; (case k1 => k_asm); (case k2 => k_asm); (case k3 => k_asm); (case k4 => k_asm); (case k5 => k_asm); (case kK => first | exact rfl | assumption); (case kp => exact ⟨PosOk.place (by with_reducible assumption), by omega, by omega⟩); (case kd => ktr_room); (case ku => ktr_units)); intro d9 t9 u9 v9 n9 h9 tk9 F9 N9 l9; (try dsimp only); (try k_fold)))
local macro_rules | `(tactic| walk_at "call ref") => `(tactic| (k_here; (with_reducible show wpAny _ _ (call (Value.ref 64) [Value.int 1788 _, Value.int 12 _, Value.int 31 _]) _ _ _); k_dflt (refine' says_use (end_says _ _ _ _ _ _ _ _) ?k1 ?k2 ?k3 ?k4 ?k5 ?kK ?kp ?kd ?ku ?_; (case k1 => k_asm); (case k2 => k_asm); (case k3 => k_asm); (case k4 => k_asm); (case k5 => k_asm); (case kK => first | exact rfl | assumption); (case kp => trivial); (case kd => ktr_room); (case ku => ktr_units)); intro t9 h9 tk9 F9 N9; (try dsimp only); (try k_fold)))
local macro_rules | `(tactic| walk_at "call ref") => `(tactic| (k_here; (with_reducible show wpAny _ _ (call (Value.ref 148) [Value.int _ _, Value.int _ _, Value.int _ _]) _ _ _); k_dflt (refine' saysL_use (refused_says _ _ _ _ _ _ _ _ _ _ _ _) ?k1 ?k2 ?k3 ?k4 ?k5 ?kK ?kp ?_; (case k1 => k_asm); (case k2 => k_asm); (case k3 => k_asm); (case k4 => k_asm); (case k5 => k_asm); (case kK => first | exact rfl | assumption); (case kp => first | exact ref_last (by with_reducible assumption) (by omega) | (refine ref_plain ?_; omega))); intro h9 tk9 F9 N9; (try dsimp only); (try k_fold)))
local macro_rules | `(tactic| walk_at "call ref") => `(tactic| (k_here; (with_reducible show wpAny _ _ (call (Value.ref 155) [Value.float _ _]) _ _ _); k_dflt (refine' saysL_use (refday_says _ _ _ _ _ _ _) ?k1 ?k2 ?k3 ?k4 ?k5 ?kK ?kp ?_; (case k1 => k_asm); (case k2 => k_asm); (case k3 => k_asm); (case k4 => k_asm); (case k5 => k_asm); (case kK => first | exact rfl | assumption); (case kp => omega)); intro h9 tk9 F9 N9; (try dsimp only); (try k_fold)))
local macro_rules | `(tactic| walk_at "compareOp NotEq float float") => `(tactic| (((with_reducible refine' r_ne_ff ?hx ?hy ?hB ?_); (case hx => with_reducible exact rfl); (case hy => with_reducible exact rfl); (case hB => omega)); (try dsimp only)))
local macro_rules | `(tactic| walk_at "compareOp NotEq ref ref") => `(tactic| (k_here; (with_reducible show wpAny _ _ (compareOp CmpOp.NotEq (Value.ref _) (Value.ref _)) _ _ _); k_dflt (first
  | (refine' ne_two ?ha ?ca ?da ?hb ?cb ?db ?hu ?e ?_; (case ha => exact News.get (by k_asm) (by k_mem)); (case ca => rfl); (case da => rfl); (case hb => exact News.get (by k_asm) (by k_mem)); (case cb => rfl); (case db => rfl); (case hu => ke_room); (case e => exact ⟨by omega, by omega⟩))
  | (refine' ne_three ?ha ?ca ?da ?hb ?cb ?db ?hu ?e ?_; (case ha => exact News.get (by k_asm) (by k_mem)); (case ca => rfl); (case da => rfl); (case hb => exact News.get (by k_asm) (by k_mem)); (case cb => rfl); (case db => rfl); (case hu => ke_room); (case e => exact ⟨by omega, by omega, by omega⟩)))))
local macro_rules | `(tactic| walk_at "InvEndN") => `(tactic| (k_here; (rename News _ _ _ _ => nE9); (with_unfolding_all refine' kept_end ?kF nE9 ?kn ?ks); (case kF => k_asm); (case kn => ((try simp only [List.nil_append]); intro p hp; (repeat (first | exact hp | refine List.mem_cons_of_mem _ ?_)))); (case ks => (intro z h1 h2; have h3 := h2; (simp only [List.contains_cons, List.contains_nil, Bool.or_false, Bool.or_eq_false_iff, beq_eq_false_iff_ne, ne_eq] at h3); (simp [h1, h2, h3])))))
set_option maxHeartbeats 8000000 in
theorem main : PySem.Challenge.rw_ba5009_01.Holds := hd (by
  k_go0
  have lm : LongMark := trivial
  all_goals try k_fold
  k_steps)

end Mine

set_option maxRecDepth 100000 in
theorem PySem.Challenge.cw_ba5009_01_holds : PySem.Challenge.rw_ba5009_01.Holds :=
  Mine.main
