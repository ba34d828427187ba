import PyProof.Rows.All
import Wide.All
import OpenK.AllK
import Wide.FinOn
import Flt.RightMore
import Flt.Calls
import Flt.Calls3
import PySem.Builtin._datetime.Common
import PySem.Challenge.RW_ak5021_01
set_option Elab.async false
set_option maxRecDepth 100000
set_option linter.unusedVariables false
-- FQ
set_option maxRecDepth 100000
namespace Mine
open PySem PySem.Float64

theorem rep : ∀ (k m : Nat), m ≤ 2 ^ 53 → k ≤ 1500 → ∃ t, t < infMag ∧ V t = m * 2 ^ k
  | 0, m, hm, _ => ⟨m, by unfold infMag; omega, by
      have := V_at (k := 0) (q := m) hm (.inr rfl)
      simpa using this⟩
  | k + 1, m, hm, hk => by
      by_cases h : 2 ^ 52 ≤ m
      · exact ⟨(k + 1) * 2 ^ 52 + m, by unfold infMag; omega, V_at hm (.inl h)⟩
      · obtain ⟨t, h1, h2⟩ := rep k (2 * m) (by omega) (by omega)
        exact ⟨t, h1, by rw [h2, Nat.pow_succ, Nat.mul_comm 2 m, Nat.mul_assoc, Nat.mul_comm 2]⟩

theorem pow_split (a b : Nat) : 2 ^ (a + b) = 2 ^ a * 2 ^ b := Nat.pow_add 2 a b

theorem not_over {D W : Nat} (h : W < D * (2 ^ 54 * 2 ^ 1072)) : ¬ D * ((2 ^ 54 - 1) * 2 ^ 2045) ≤ 2 * W := by
  intro h2
  have e : 2 * (D * (2 ^ 54 * 2 ^ 1072)) ≤ D * ((2 ^ 54 - 1) * 2 ^ 2045) := by
    rw [show 2 * (D * (2 ^ 54 * 2 ^ 1072)) = D * (2 * (2 ^ 54 * 2 ^ 1072)) by rw [Nat.mul_left_comm]]
    exact Nat.mul_le_mul_left D (by decide +kernel)
  omega

/-- what Right says, when the value is small -/
theorem right_small {r : UInt64} {neg : Bool} {W D : Nat} (h : Right r neg W D) (hs : W < D * (2 ^ 54 * 2 ^ 1072)) :
    ∃ t, r = pack neg t ∧ t < infMag ∧ ∀ t', dist W (D * V t) ≤ dist W (D * V t') := by
  obtain ⟨t, h1, h2, h3, h4⟩ := h
  have ht : t < infMag := by
    rcases Nat.lt_or_ge t infMag with h | h
    · exact h
    · exact absurd (h3.mp (Nat.le_antisymm h2 h)) (not_over hs)
  exact ⟨t, h1, ht, fun t' => (h4 ht t').1⟩

theorem right_unique {r r' : UInt64} {neg : Bool} {W D : Nat} (hD : 0 < D) (h : Right r neg W D) (h' : Right r' neg W D) : r = r' := by
  have key : ∀ t t', t < t' → (∀ u, dist W (D * V t) ≤ dist W (D * V u) ∧ (V u ≠ V t → dist W (D * V t) = dist W (D * V u) → t % 2 = 0)) →
      (∀ u, dist W (D * V t') ≤ dist W (D * V u) ∧ (V u ≠ V t' → dist W (D * V t') = dist W (D * V u) → t' % 2 = 0)) → False := by
    intro t t' hlt a b
    have e : dist W (D * V t) = dist W (D * V t') := Nat.le_antisymm (a t').1 (b t).1
    have hv := V_lt hlt
    have p1 := (a t').2 (by omega) e
    have p2 := (b t).2 (by omega) e.symm
    have h1 := V_succ t
    have h2 : V (t + 1) < V t' := V_lt (by omega)
    have m1 := Nat.mul_lt_mul_of_pos_left h1 hD
    have m2 := Nat.mul_lt_mul_of_pos_left h2 hD
    have q := (a (t + 1)).1
    unfold dist at e q
    omega
  obtain ⟨t, h1, h2, h3, h4⟩ := h
  obtain ⟨t', h1', h2', h3', h4'⟩ := h'
  subst h1
  subst h1'
  have : t = t' := by
    by_cases hi : t = infMag
    · rw [hi, h3'.mpr (h3.mp hi)]
    · by_cases hi' : t' = infMag
      · exact absurd (h3.mpr (h3'.mp hi')) hi
      · have l1 : t < infMag := by omega
        have l2 : t' < infMag := by omega
        rcases Nat.lt_trichotomy t t' with h | h | h
        · exact (key t t' h (h4 l1) (h4' l2)).elim
        · exact h
        · exact (key t' t h (h4' l2) (h4 l1)).elim
  rw [this]

theorem near_le {W D v : Nat} {t t' : Nat} (h : dist W (D * V t) ≤ dist W (D * V t')) (hD : 0 < D) (e : V t' = v) (hw : W ≤ D * v) : V t ≤ v := by
  subst e
  rcases Nat.lt_or_ge (V t') (V t) with h2 | h2
  · have := Nat.mul_lt_mul_of_pos_left h2 hD
    unfold dist at h
    omega
  · exact h2
theorem near_ge {W D v : Nat} {t t' : Nat} (h : dist W (D * V t) ≤ dist W (D * V t')) (hD : 0 < D) (e : V t' = v) (hw : D * v ≤ W) : v ≤ V t := by
  subst e
  rcases Nat.lt_or_ge (V t) (V t') with h2 | h2
  · have := Nat.mul_lt_mul_of_pos_left h2 hD
    unfold dist at h
    omega
  · exact h2

/-- n quarters, as a float -/
def FQ (n : Int) : UInt64 := ofFrac (decide (n < 0)) n.natAbs 4

theorem p1074 : (2 : Nat) ^ 1074 = 2 ^ 1072 * 4 := by rw [show (1074 : Nat) = 1072 + 2 from rfl, pow_split]
theorem fq_right (n : Int) : Right (FQ n) (decide (n < 0)) (n.natAbs * 2 ^ 1072) 1 :=
  ofFrac_right (by decide) (by rw [p1074]; generalize (2 : Nat) ^ 1072 = K; rw [Nat.mul_one, Nat.mul_assoc]) (by decide)

theorem fq_of_right {r : UInt64} {neg : Bool} {W D : Nat} {n : Int} (h : Right r neg W D) (hD : 0 < D) (hn : neg = decide (n < 0)) (hW : W = D * (n.natAbs * 2 ^ 1072)) : r = FQ n := by
  subst hn
  refine right_unique hD h ?_
  exact ofFrac_right (by decide) (by rw [hW, p1074]; generalize (2 : Nat) ^ 1072 = K; ac_rfl) hD

theorem fq_decode {n : Int} (hb : n.natAbs ≤ 2 ^ 53) : ∃ m e, decode (FQ n) = .fin (decide (n < 0)) m e ∧ m * 2 ^ (e + 1074).toNat = n.natAbs * 2 ^ 1072 := by
  have hlt : n.natAbs * 2 ^ 1072 < 1 * (2 ^ 54 * 2 ^ 1072) := by
    rw [Nat.one_mul]
    exact Nat.mul_lt_mul_of_pos_right (by omega) (Nat.two_pow_pos _)
  obtain ⟨t, h1, h2, h3⟩ := right_small (fq_right n) hlt
  obtain ⟨t', h4, h5⟩ := rep 1072 n.natAbs hb (by omega)
  have hv : V t = n.natAbs * 2 ^ 1072 := Nat.le_antisymm (near_le (h3 t') (by decide) h5 (by rw [Nat.one_mul]; exact Nat.le_refl _)) (near_ge (h3 t') (by decide) h5 (by rw [Nat.one_mul]; exact Nat.le_refl _))
  obtain ⟨m, e, hd, he⟩ := decode_pack (decide (n < 0)) h2
  exact ⟨m, e, by rw [h1]; exact hd, by rw [he, hv]⟩

def C72 : Int := ((2 ^ 1072 : Nat) : Int)
theorem C72_pos : 0 < C72 := Int.ofNat_lt.mpr (Nat.two_pow_pos _)
theorem sgn_dec (n : Int) : sgn (decide (n < 0)) n.natAbs = n := by
  unfold sgn
  by_cases h : n < 0
  · simp only [h, decide_true, if_true]; omega
  · simp only [h, decide_false]; simp; omega
theorem fq_val {n : Int} (hb : n.natAbs ≤ 2 ^ 53) : val (FQ n) = n * C72 := by
  obtain ⟨m, e, h1, h2⟩ := fq_decode hb
  rw [val_eq h1, h2, sgn_mul, sgn_dec]
  rfl

theorem int_fq (b : Int) : ofInt b = FQ (4 * b) :=
  fq_of_right (n := 4 * b) (ofInt_right b) (by decide) (by apply decide_eq_decide.mpr; omega) (by
    rw [p1074, Int.natAbs_mul]
    show _ = 1 * (4 * b.natAbs * 2 ^ 1072)
    generalize (2 : Nat) ^ 1072 = K
    rw [Nat.one_mul, ← Nat.mul_assoc, Nat.mul_right_comm, Nat.mul_comm 4])

theorem natAbs_C72 (n : Int) : (n * C72).natAbs = n.natAbs * 2 ^ 1072 := by
  rw [Int.natAbs_mul]; rfl
theorem lt_C72 (n : Int) : (n * C72 < 0) ↔ n < 0 := by
  have := C72_pos
  constructor
  · intro h
    rcases Int.lt_or_le n 0 with h2 | h2
    · exact h2
    · have := Int.mul_nonneg h2 (Int.le_of_lt this); omega
  · intro h; exact Int.mul_neg_of_neg_of_pos h this
theorem eq_C72 (n : Int) : (n * C72 = 0) ↔ n = 0 := by
  have := C72_pos
  constructor
  · intro h
    rcases Int.mul_eq_zero.mp h with h2 | h2
    · exact h2
    · omega
  · intro h; rw [h, Int.zero_mul]
theorem fq_zero : FQ 0 = zero false := by decide +kernel

theorem fq_add {a b : Int} (ha : a.natAbs ≤ 2 ^ 53) (hb : b.natAbs ≤ 2 ^ 53) : add (FQ a) (FQ b) = FQ (a + b) := by
  obtain ⟨m, e, h1, _⟩ := fq_decode ha
  obtain ⟨k, f, h2, _⟩ := fq_decode hb
  have h := add_right h1 h2
  rw [fq_val ha, fq_val hb, ← Int.add_mul] at h
  by_cases h0 : a + b = 0
  · rw [h.1 (by rw [h0, Int.zero_mul]), h0, fq_zero]
    congr 1
    by_cases hn : a < 0
    · have : ¬ b < 0 := by omega
      simp [hn, this]
    · simp [hn]
  · refine fq_of_right (h.2 fun q => h0 ((eq_C72 _).mp q)) (by decide) ?_ ?_
    · exact decide_eq_decide.mpr (lt_C72 _)
    · rw [natAbs_C72, Nat.one_mul]

theorem fq_sub {a b : Int} (ha : a.natAbs ≤ 2 ^ 53) (hb : b.natAbs ≤ 2 ^ 53) : sub (FQ a) (FQ b) = FQ (a - b) := by
  obtain ⟨m, e, h1, _⟩ := fq_decode ha
  obtain ⟨k, f, h2, _⟩ := fq_decode hb
  have h := sub_right h1 h2
  rw [fq_val ha, fq_val hb, ← Int.sub_mul] at h
  by_cases h0 : a - b = 0
  · rw [h.1 (by rw [h0, Int.zero_mul]), h0, fq_zero]
    congr 1
    by_cases hn : a < 0
    · have : b < 0 := by omega
      simp [hn, this]
    · simp [hn]
  · refine fq_of_right (h.2 fun q => h0 ((eq_C72 _).mp q)) (by decide) ?_ ?_
    · exact decide_eq_decide.mpr (lt_C72 _)
    · rw [natAbs_C72, Nat.one_mul]

theorem natAbs_mul_dec (a b : Int) (h : 0 < b ∨ 0 ≤ a ∧ 0 ≤ b) : (decide (a < 0) != decide (b < 0)) = decide (a * b < 0) := by
  rcases h with h | ⟨h, h'⟩
  · have : ¬ b < 0 := by omega
    rw [decide_eq_false this, Bool.bne_false]
    apply decide_eq_decide.mpr
    constructor
    · intro q; exact Int.mul_neg_of_neg_of_pos q h
    · intro q
      rcases Int.lt_or_le a 0 with h2 | h2
      · exact h2
      · have := Int.mul_nonneg h2 (Int.le_of_lt h); omega
  · have h1 : ¬ a < 0 := by omega
    have h2 : ¬ b < 0 := by omega
    have h3 : ¬ a * b < 0 := by have := Int.mul_nonneg h h'; omega
    simp [h1, h2, h3]
/-- a quarters times b quarters, 4 c = a b -/
theorem fq_mul {a b c : Int} (ha : a.natAbs ≤ 2 ^ 53) (hb : b.natAbs ≤ 2 ^ 53) (h : 0 < b ∨ 0 ≤ a ∧ 0 ≤ b) (hc : a * b = 4 * c) : mul (FQ a) (FQ b) = FQ c := by
  obtain ⟨m, e, h1, _⟩ := fq_decode ha
  obtain ⟨k, f, h2, _⟩ := fq_decode hb
  have hr := mul_right h1 h2
  rw [fq_val ha, fq_val hb, natAbs_C72, natAbs_C72] at hr
  refine fq_of_right hr (Nat.two_pow_pos _) ?_ ?_
  · rw [natAbs_mul_dec a b h, hc]; apply decide_eq_decide.mpr; omega
  · have e1 : a.natAbs * b.natAbs = 4 * c.natAbs := by rw [← Int.natAbs_mul, hc, Int.natAbs_mul]; rfl
    rw [p1074]
    generalize (2 : Nat) ^ 1072 = K
    calc a.natAbs * K * (b.natAbs * K) = a.natAbs * b.natAbs * (K * K) := by ac_rfl
      _ = 4 * c.natAbs * (K * K) := by rw [e1]
      _ = K * 4 * (c.natAbs * K) := by ac_rfl

theorem fq_cmp {a b : Int} (ha : a.natAbs ≤ 2 ^ 53) (hb : b.natAbs ≤ 2 ^ 53) : cmp (FQ a) (FQ b) = some (compare a b) := by
  obtain ⟨m, e, h1, _⟩ := fq_decode ha
  obtain ⟨k, f, h2, _⟩ := fq_decode hb
  rw [cmp_right h1 h2, fq_val ha, fq_val hb]
  congr 1
  have := C72_pos
  rcases Int.lt_trichotomy a b with h | h | h
  · rw [Int.compare_eq_lt.mpr h, Int.compare_eq_lt.mpr (Int.mul_lt_mul_of_pos_right h this)]
  · subst h; simp
  · rw [Int.compare_eq_gt.mpr h, Int.compare_eq_gt.mpr (Int.mul_lt_mul_of_pos_right h this)]
theorem C74 : (2 : Int) ^ 1074 = 4 * C72 := by
  have : (2 : Int) ^ 1074 = ((2 ^ 1074 : Nat) : Int) := by simp
  rw [this, p1074, Nat.mul_comm]; rfl
theorem fq_cmpInt {a b : Int} (ha : a.natAbs ≤ 2 ^ 53) : cmpInt (FQ a) b = some (compare a (4 * b)) := by
  obtain ⟨m, e, h1, _⟩ := fq_decode ha
  rw [cmpInt_right h1, fq_val ha, C74]
  congr 1
  have := C72_pos
  have e : b * (4 * C72) = (4 * b) * C72 := by rw [Int.mul_left_comm, Int.mul_assoc]
  rw [e]
  generalize 4 * b = b'
  rcases Int.lt_trichotomy a b' with h | h | h
  · rw [Int.compare_eq_lt.mpr h, Int.compare_eq_lt.mpr (Int.mul_lt_mul_of_pos_right h this)]
  · subst h; simp
  · rw [Int.compare_eq_gt.mpr h, Int.compare_eq_gt.mpr (Int.mul_lt_mul_of_pos_right h this)]
theorem fq_isZero {a : Int} (ha : a.natAbs ≤ 2 ^ 53) : isZero (FQ a) = decide (a = 0) := by
  obtain ⟨m, e, h1, h2⟩ := fq_decode ha
  unfold isZero
  rw [h1]
  by_cases h : a = 0
  · subst h
    simp only [Int.natAbs_zero, Nat.zero_mul] at h2
    have := Nat.mul_eq_zero.mp h2
    have hp : (2 : Nat) ^ (e + 1074).toNat ≠ 0 := Nat.ne_of_gt (Nat.two_pow_pos _)
    have : m = 0 := by rcases this with h | h; exact h; exact absurd h hp
    subst this
    simp
  · have : m ≠ 0 := by
      intro h3
      subst h3
      rw [Nat.zero_mul] at h2
      have := Nat.mul_eq_zero.mp h2.symm
      have hp : (2 : Nat) ^ 1072 ≠ 0 := Nat.ne_of_gt (Nat.two_pow_pos _)
      rcases this with h4 | h4
      · omega
      · exact hp h4
    simp [h]
    cases m with
    | zero => exact absurd rfl this
    | succ m => rfl
end Mine
-- FR
set_option maxRecDepth 100000
namespace Mine
open PySem PySem.Float64 PySem.Flt

def M74 : Int := ((2 ^ 1074 : Nat) : Int)
theorem M74_pos : 0 < M74 := Int.ofNat_lt.mpr (Nat.two_pow_pos _)
theorem M74_eq : M74 = 4 * C72 := by unfold M74 C72; rw [p1074, Nat.mul_comm]; rfl
theorem castpow (n : Nat) : ((2 ^ n : Nat) : Int) = (2 : Int) ^ n := by simp

theorem floorOf_val {a : Bool} {m : Nat} {e : Int} (he : -1074 ≤ e) : floorOf a m e = sgn a (m * 2 ^ (e + 1074).toNat) / M74 := by
  have hp := M74_pos
  unfold floorOf
  rw [sgn_mul]
  split
  · have e1 : (e + 1074).toNat = e.toNat + 1074 := by omega
    rw [e1, pow_split, Int.natCast_mul, ← Int.mul_assoc, castpow]
    exact (Int.mul_ediv_cancel _ (by omega : M74 ≠ 0)).symm
  · have e1 : (1074 : Nat) = (e + 1074).toNat + (-e).toNat := by omega
    have h2 : M74 = ((2 ^ (e + 1074).toNat : Nat) : Int) * ((2 ^ (-e).toNat : Nat) : Int) := by
      rw [← Int.natCast_mul, ← pow_split, ← e1]; rfl
    have hq : (0 : Int) < ((2 ^ (e + 1074).toNat : Nat) : Int) := Int.ofNat_lt.mpr (Nat.two_pow_pos _)
    have hr : (0 : Int) < ((2 ^ (-e).toNat : Nat) : Int) := Int.ofNat_lt.mpr (Nat.two_pow_pos _)
    rw [h2, Int.mul_comm (sgn a m), Int.mul_ediv_mul_of_pos _ _ hq, ← castpow, Int.fdiv_eq_ediv_of_nonneg _ (Int.le_of_lt hr)]

theorem floor_val {x : UInt64} {a : Bool} {m : Nat} {e : Int} (h : decode x = .fin a m e) : toInt floorOf x = val x / M74 := by
  unfold toInt
  rw [h, val_eq h]
  exact floorOf_val (decode_ge h)
/-- towards nought -/
def tq (n d : Int) : Int := if n < 0 then -((-n) / d) else n / d
theorem trunc_val {x : UInt64} {a : Bool} {m : Nat} {e : Int} (h : decode x = .fin a m e) : toInt truncOf x = tq (val x) M74 := by
  have hp := M74_pos
  unfold toInt truncOf ceilOf tq
  rw [h, val_eq h]
  simp only
  cases a
  · have hn : ¬ sgn false (m * 2 ^ (e + 1074).toNat) < 0 := by unfold sgn; exact Int.not_lt.mpr (Int.natCast_nonneg _)
    rw [if_neg hn]
    exact floorOf_val (decode_ge h)
  · simp only [if_true, Bool.not_true]
    rw [floorOf_val (decode_ge h)]
    have e1 : sgn true (m * 2 ^ (e + 1074).toNat) = -sgn false (m * 2 ^ (e + 1074).toNat) := sgn_not false _
    rw [e1]
    have hn : 0 ≤ sgn false (m * 2 ^ (e + 1074).toNat) := by unfold sgn; exact Int.natCast_nonneg _
    generalize sgn false (m * 2 ^ (e + 1074).toNat) = z at *
    split
    · rw [Int.neg_neg]
    · have : z = 0 := by omega
      subst this
      simp

theorem fq_fin {n : Int} (hb : n.natAbs ≤ 2 ^ 53) : isFinite (FQ n) = true := by
  obtain ⟨m, e, h, _⟩ := fq_decode hb
  unfold isFinite; rw [h]
theorem scale_div (n d : Int) : n * C72 / (d * C72) = n / d := by
  rw [Int.mul_comm n, Int.mul_comm d]; exact Int.mul_ediv_mul_of_pos _ _ C72_pos
theorem fq_floor {n : Int} (hb : n.natAbs ≤ 2 ^ 53) : toInt floorOf (FQ n) = n / 4 := by
  obtain ⟨m, e, h, _⟩ := fq_decode hb
  rw [floor_val h, fq_val hb, M74_eq, scale_div]
theorem fq_trunc {n : Int} (hb : n.natAbs ≤ 2 ^ 53) : toInt truncOf (FQ n) = tq n 4 := by
  obtain ⟨m, e, h, _⟩ := fq_decode hb
  rw [trunc_val h, fq_val hb, M74_eq]
  unfold tq
  simp only [lt_C72]
  split
  · rw [← Int.neg_mul, scale_div]
  · rw [scale_div]

/-- n / d, rounded -/
def FR (n : Int) (d : Nat) : UInt64 := ofFrac (decide (n < 0)) n.natAbs d

theorem up_step {n d c k : Nat} (h : n < c * d) (hd : d ≤ 2 ^ k) (hk : k ≤ 1074) : n * 2 ^ 1074 ≤ d * ((c * 2 ^ k - 1) * 2 ^ (1074 - k)) := by
  have e : (1074 : Nat) = k + (1074 - k) := by omega
  have e2 : (2 : Nat) ^ 1074 = 2 ^ k * 2 ^ (1074 - k) := by rw [← pow_split, ← e]
  rw [e2]
  generalize (2 : Nat) ^ (1074 - k) = K
  generalize (2 : Nat) ^ k = P at *
  rw [← Nat.mul_assoc, ← Nat.mul_assoc]
  refine Nat.mul_le_mul_right K ?_
  have h1 : n + 1 ≤ c * d := h
  have h2 := Nat.mul_le_mul_right P h1
  have h3 : d * (c * P - 1) = c * d * P - d := by rw [Nat.mul_sub, Nat.mul_one, ← Nat.mul_assoc, Nat.mul_comm d c]
  rw [h3]
  have h4 : (n + 1) * P = n * P + P := by rw [Nat.add_mul, Nat.one_mul]
  omega
theorem down_step {n d c k : Nat} (h : c * d < n) (hd : d ≤ 2 ^ k) (hk : k ≤ 1074) : d * ((c * 2 ^ k + 1) * 2 ^ (1074 - k)) ≤ n * 2 ^ 1074 := by
  have e : (1074 : Nat) = k + (1074 - k) := by omega
  have e2 : (2 : Nat) ^ 1074 = 2 ^ k * 2 ^ (1074 - k) := by rw [← pow_split, ← e]
  rw [e2]
  generalize (2 : Nat) ^ (1074 - k) = K
  generalize (2 : Nat) ^ k = P at *
  rw [← Nat.mul_assoc, ← Nat.mul_assoc]
  refine Nat.mul_le_mul_right K ?_
  have h1 : c * d + 1 ≤ n := h
  have h2 := Nat.mul_le_mul_right P h1
  have h3 : d * (c * P + 1) = c * d * P + d := by rw [Nat.mul_add, Nat.mul_one, ← Nat.mul_assoc, Nat.mul_comm d c]
  rw [h3]
  have h4 : (c * d + 1) * P = c * d * P + P := by rw [Nat.add_mul, Nat.one_mul]
  omega

theorem fr_decode {n : Int} {d : Nat} (hd : 0 < d) (hs : n.natAbs < d * 2 ^ 52) : ∃ t m e, t < infMag ∧ decode (FR n d) = .fin (decide (n < 0)) m e ∧ val (FR n d) = sgn (decide (n < 0)) (V t) ∧ ∀ t', dist (n.natAbs * 2 ^ 1074) (d * V t) ≤ dist (n.natAbs * 2 ^ 1074) (d * V t') := by
  have hr : Right (FR n d) (decide (n < 0)) (n.natAbs * 2 ^ 1074) d := ofFrac_right hd (by rfl) hd
  obtain ⟨t, h1, h2, h3⟩ := right_small hr (by
    rw [p1074]
    have : 4 * n.natAbs < d * 2 ^ 54 := by omega
    have := Nat.mul_lt_mul_of_pos_right this (Nat.two_pow_pos 1072)
    generalize (2 : Nat) ^ 1072 = K at *
    calc n.natAbs * (K * 4) = 4 * n.natAbs * K := by ac_rfl
      _ < d * 2 ^ 54 * K := this
      _ = d * (2 ^ 54 * K) := by ac_rfl)
  obtain ⟨m, e, hd, he⟩ := decode_pack (decide (n < 0)) h2
  rw [← h1] at hd
  exact ⟨t, m, e, h2, hd, by rw [val_eq hd, he], h3⟩

theorem two20 : (2 : Nat) ^ 20 ≤ 2 ^ 1074 := Nat.pow_le_pow_right (by decide) (by decide)
theorem V_ge {n d c t : Nat} (hd : 0 < d) (h : ∀ t', dist (n * 2 ^ 1074) (d * V t) ≤ dist (n * 2 ^ 1074) (d * V t')) (hc : c * d ≤ n) (hb : c ≤ 2 ^ 53) : c * 2 ^ 1074 ≤ V t := by
  obtain ⟨t', _, h5⟩ := rep 1074 c hb (by omega)
  exact near_ge (h t') hd h5 (by rw [← Nat.mul_assoc, Nat.mul_comm d]; exact Nat.mul_le_mul_right _ hc)
theorem V_le {n d c t : Nat} (hd : 0 < d) (h : ∀ t', dist (n * 2 ^ 1074) (d * V t) ≤ dist (n * 2 ^ 1074) (d * V t')) (hc : n ≤ c * d) (hb : c ≤ 2 ^ 53) : V t ≤ c * 2 ^ 1074 := by
  obtain ⟨t', _, h5⟩ := rep 1074 c hb (by omega)
  exact near_le (h t') hd h5 (by rw [← Nat.mul_assoc, Nat.mul_comm d]; exact Nat.mul_le_mul_right _ hc)
theorem V_lt' {n d c t : Nat} (hd : 0 < d) (hd2 : d ≤ 2 ^ 20) (h : ∀ t', dist (n * 2 ^ 1074) (d * V t) ≤ dist (n * 2 ^ 1074) (d * V t')) (hc : n < c * d) (hb : c ≤ 2 ^ 33) : V t < c * 2 ^ 1074 := by
  have hc0 : 0 < c := by
    rcases Nat.eq_zero_or_pos c with h | h
    · rw [h, Nat.zero_mul] at hc; omega
    · exact h
  obtain ⟨t', _, h5⟩ := rep (1074 - 20) (c * 2 ^ 20 - 1) (by omega) (by omega)
  refine Nat.lt_of_le_of_lt (near_le (h t') hd h5 (up_step hc hd2 (by omega))) ?_
  have e2 : (2 : Nat) ^ 1074 = 2 ^ 20 * 2 ^ (1074 - 20) := by rw [← pow_split]
  rw [e2, ← Nat.mul_assoc]
  exact Nat.mul_lt_mul_of_pos_right (by omega) (Nat.two_pow_pos _)
theorem V_gt' {n d c t : Nat} (hd : 0 < d) (hd2 : d ≤ 2 ^ 20) (h : ∀ t', dist (n * 2 ^ 1074) (d * V t) ≤ dist (n * 2 ^ 1074) (d * V t')) (hc : c * d < n) (hb : c < 2 ^ 33) : c * 2 ^ 1074 < V t := by
  obtain ⟨t', _, h5⟩ := rep (1074 - 20) (c * 2 ^ 20 + 1) (by omega) (by omega)
  refine Nat.lt_of_lt_of_le ?_ (near_ge (h t') hd h5 (down_step hc hd2 (by omega)))
  have e2 : (2 : Nat) ^ 1074 = 2 ^ 20 * 2 ^ (1074 - 20) := by rw [← pow_split]
  rw [e2, ← Nat.mul_assoc]
  exact Nat.mul_lt_mul_of_pos_right (by omega) (Nat.two_pow_pos _)

/-- n / d lies below 2 ^ 33 -/
def Small (n : Int) (d : Nat) : Prop := 0 < d ∧ d ≤ 1048576 ∧ n.natAbs ≤ d * 8589934590

theorem fr_fin {n : Int} {d : Nat} (h : Small n d) : isFinite (FR n d) = true := by
  obtain ⟨h1, h2, h3⟩ := h
  obtain ⟨t, m, e, _, hd, _⟩ := fr_decode (n := n) h1 (by omega)
  unfold isFinite; rw [hd]

theorem pos_div {n d t : Nat} (hs : 0 < d ∧ d ≤ 1048576 ∧ n ≤ d * 8589934590) (h : ∀ t', dist (n * 2 ^ 1074) (d * V t) ≤ dist (n * 2 ^ 1074) (d * V t')) : ((V t : Nat) : Int) / M74 = (n : Int) / (d : Int) := by
  obtain ⟨h1, h2, h3⟩ := hs
  have hc : n / d ≤ 8589934590 := Nat.div_le_of_le_mul h3
  have l1 := V_ge h1 h (Nat.div_mul_le_self n d) (by omega)
  have l2 := V_lt' (c := n / d + 1) h1 (by omega) h (by rw [Nat.add_mul, Nat.one_mul]; exact Nat.lt_div_mul_add h1) (by omega)
  rw [← Int.natCast_ediv]
  unfold M74
  rw [← Int.natCast_ediv]
  congr 1
  exact Nat.div_eq_of_lt_le (by simpa using l1) (by simpa using l2)

theorem fr_floor {n : Int} {d : Nat} (hs : Small n d) : toInt floorOf (FR n d) = n / (d : Int) := by
  obtain ⟨h1, h2, h3⟩ := hs
  obtain ⟨t, m, e, _, hd, hv, h⟩ := fr_decode (n := n) h1 (by omega)
  rw [floor_val hd, hv]
  by_cases hn : n < 0
  · have e1 : sgn (decide (n < 0)) (V t) = -((V t : Nat) : Int) := by unfold sgn; simp [hn]
    rw [e1]
    have hz : n = -((n.natAbs : Nat) : Int) := by omega
    have hpos : 0 < n.natAbs := by omega
    rw [hz]
    have ha : (-((n.natAbs : Nat) : Int)).natAbs = n.natAbs := by omega
    generalize n.natAbs = N at *
    -- c = ceil (N / d)
    have hq : ∃ c, c * d < N ∧ N ≤ (c + 1) * d ∧ c ≤ 8589934590 := by
      refine ⟨(N - 1) / d, ?_, ?_, ?_⟩
      · have := Nat.div_mul_le_self (N - 1) d; omega
      · have := Nat.lt_div_mul_add (a := N - 1) h1; rw [Nat.add_mul, Nat.one_mul]; omega
      · exact Nat.div_le_of_le_mul (by omega)
    obtain ⟨c, q1, q2, q3⟩ := hq
    have l1 := V_gt' h1 (by omega) h q1 (by omega)
    have l2 := V_le h1 h q2 (by omega)
    have g1 : -((V t : Nat) : Int) / M74 = -((c + 1 : Nat) : Int) := by
      have hp := M74_pos
      have l1' : (c : Int) * M74 < ((V t : Nat) : Int) := by unfold M74; rw [← Int.natCast_mul]; exact Int.ofNat_lt.mpr l1
      have l2' : ((V t : Nat) : Int) ≤ ((c + 1 : Nat) : Int) * M74 := by unfold M74; rw [← Int.natCast_mul]; exact Int.ofNat_le.mpr l2
      refine Int.le_antisymm ?_ ?_
      · refine Int.le_of_lt_add_one (Int.ediv_lt_of_lt_mul hp ?_)
        have : (-((c + 1 : Nat) : Int) + 1) * M74 = -((c : Int) * M74) := by rw [← Int.neg_mul]; congr 1; omega
        rw [this]; omega
      · refine Int.le_ediv_of_mul_le hp ?_
        rw [Int.neg_mul]; omega
    rw [g1]
    symm
    have hp : (0 : Int) < (d : Int) := by omega
    have l1' : (c : Int) * (d : Int) < (N : Int) := by rw [← Int.natCast_mul]; exact Int.ofNat_lt.mpr q1
    have l2' : (N : Int) ≤ ((c + 1 : Nat) : Int) * (d : Int) := by rw [← Int.natCast_mul]; exact Int.ofNat_le.mpr q2
    refine Int.le_antisymm ?_ ?_
    · refine Int.le_of_lt_add_one (Int.ediv_lt_of_lt_mul hp ?_)
      have : (-((c + 1 : Nat) : Int) + 1) * (d : Int) = -((c : Int) * (d : Int)) := by rw [← Int.neg_mul]; congr 1; omega
      rw [this]; omega
    · refine Int.le_ediv_of_mul_le hp ?_
      rw [Int.neg_mul]; omega
  · have e1 : sgn (decide (n < 0)) (V t) = ((V t : Nat) : Int) := by unfold sgn; simp [hn]
    rw [e1, pos_div ⟨h1, h2, h3⟩ h]
    congr 1
    omega

theorem fr_trunc {n : Int} {d : Nat} (hs : Small n d) : toInt truncOf (FR n d) = tq n (d : Int) := by
  obtain ⟨h1, h2, h3⟩ := hs
  obtain ⟨t, m, e, _, hd, hv, h⟩ := fr_decode (n := n) h1 (by omega)
  rw [trunc_val hd, hv]
  unfold tq
  have hM := M74_pos
  by_cases hn : n < 0
  · have e1 : sgn (decide (n < 0)) (V t) = -((V t : Nat) : Int) := by unfold sgn; simp [hn]
    rw [e1, if_pos hn]
    have g := pos_div ⟨h1, h2, h3⟩ h
    have e2 : ((n.natAbs : Nat) : Int) = -n := by omega
    rw [e2] at g
    by_cases hv0 : -((V t : Nat) : Int) < 0
    · rw [if_pos hv0, Int.neg_neg, g]
    · rw [if_neg hv0]
      have : ((V t : Nat) : Int) = 0 := by omega
      rw [this] at g ⊢
      simp at g ⊢
      omega
  · have e1 : sgn (decide (n < 0)) (V t) = ((V t : Nat) : Int) := by unfold sgn; simp [hn]
    rw [e1, if_neg hn, if_neg (by omega), pos_div ⟨h1, h2, h3⟩ h]
    congr 1
    omega

theorem fr_of_ints {a b : Int} (hb : 0 < b) : ofFrac (decide (a < 0) != decide (b < 0)) a.natAbs b.natAbs = FR a b.natAbs := by
  have : ¬ b < 0 := by omega
  unfold FR
  rw [decide_eq_false this, Bool.bne_false]

theorem fr_of_div {a b : Int} (ha : a.natAbs ≤ 2 ^ 53) (hb : 0 < b) (hb2 : b ≤ 2 ^ 50) : div (FQ a) (ofInt b) = FR a (4 * b.natAbs) := by
  rw [int_fq]
  have hbb : (4 * b).natAbs ≤ 2 ^ 53 := by omega
  obtain ⟨m, e, h1, _⟩ := fq_decode ha
  obtain ⟨k, f, h2, h2'⟩ := fq_decode hbb
  have hk : k ≠ 0 := by
    intro h; subst h
    rw [Nat.zero_mul] at h2'
    rcases Nat.mul_eq_zero.mp h2'.symm with h | h
    · omega
    · exact absurd h (Nat.ne_of_gt (Nat.two_pow_pos _))
  have hr := div_right h1 h2 hk
  rw [fq_val ha, fq_val hbb, natAbs_C72, natAbs_C72] at hr
  have hD : 0 < (4 * b).natAbs * 2 ^ 1072 := Nat.mul_pos (by omega) (Nat.two_pow_pos _)
  refine right_unique hD hr ?_
  have : ¬ 4 * b < 0 := by omega
  rw [decide_eq_false this, Bool.bne_false]
  refine ofFrac_right (by omega) ?_ hD
  have e : (4 * b).natAbs = 4 * b.natAbs := by omega
  rw [e]
  generalize (2 : Nat) ^ 1074 = K
  generalize (2 : Nat) ^ 1072 = J
  ac_rfl

theorem lt_zero_fq {a : Int} (ha : a.natAbs ≤ 2 ^ 53) : lt (FQ a) (zero false) = decide (a < 0) := by
  unfold lt
  rw [← fq_zero, fq_cmp ha (by decide)]
  by_cases h : a < 0
  · rw [Int.compare_eq_lt.mpr h]; simp [h]
  · have : compare a 0 ≠ .lt := fun q => h (Int.compare_eq_lt.mp q)
    simp [h]
    exact this

theorem signBit_fq {a : Int} (ha : a.natAbs ≤ 2 ^ 53) (h0 : 0 ≤ a) : signBit (FQ a) = false := by
  obtain ⟨m, e, h1, _⟩ := fq_decode ha
  have hn : ¬ a < 0 := by omega
  rw [decide_eq_false hn] at h1
  unfold decode at h1
  unfold signBit
  simp only at h1
  split at h1
  · split at h1 <;> cases h1
  · split at h1
    · injection h1
    · injection h1

theorem fmod_right {x y : UInt64} {a b : Bool} {m k : Nat} {e f : Int} (hx : decode x = .fin a m e) (hy : decode y = .fin b k f) (hk : k ≠ 0) :
    Right (fmod x y) a ((val x).natAbs % (val y).natAbs) 1 := by
  have he := decode_ge hx
  have hf := decode_ge hy
  have hm : fmod x y = ofBin a ((m * 2 ^ (e - min e f).toNat) % (k * 2 ^ (f - min e f).toNat)) (min e f) := by
    unfold fmod
    rw [hx, hy]
    simp only
    rw [if_neg (by simpa using hk)]
    unfold align sgn
    simp only [Bool.false_eq_true, if_false, Int.toNat_natCast]
  rw [hm, val_natAbs hx, val_natAbs hy]
  have e1 : (e + 1074).toNat = (e - min e f).toNat + (min e f + 1074).toNat := by omega
  have e2 : (f + 1074).toNat = (f - min e f).toNat + (min e f + 1074).toNat := by omega
  rw [e1, e2, pow_split, pow_split, ← Nat.mul_assoc, ← Nat.mul_assoc, Nat.mul_mod_mul_right]
  unfold ofBin
  refine ofFrac_right (shift_pos _ _ _ (by decide)) ?_ (by decide)
  have := shift_one ((m * 2 ^ (e - min e f).toNat) % (k * 2 ^ (f - min e f).toNat)) (min e f) 1074 (by omega)
  rw [Nat.mul_one]
  exact this

theorem fq_mod {a b : Int} (ha : a.natAbs ≤ 2 ^ 53) (hb : 0 < b) (hb2 : b ≤ 2 ^ 50) : (divmod (FQ a) (ofInt b)).2 = FQ (a % (4 * b)) := by
  rw [int_fq]
  have hbb : (4 * b).natAbs ≤ 2 ^ 53 := by omega
  have hc0 : 0 < 4 * b := by omega
  generalize 4 * b = c at *
  obtain ⟨m, e, h1, _⟩ := fq_decode ha
  obtain ⟨k, f, h2, h2'⟩ := fq_decode hbb
  have hk : k ≠ 0 := by
    intro h; subst h
    rw [Nat.zero_mul] at h2'
    rcases Nat.mul_eq_zero.mp h2'.symm with h | h
    · omega
    · exact absurd h (Nat.ne_of_gt (Nat.two_pow_pos _))
  have hr := fmod_right h1 h2 hk
  rw [fq_val ha, fq_val hbb, natAbs_C72, natAbs_C72, Nat.mul_mod_mul_right] at hr
  have hd : (divmod (FQ a) (FQ c)).2 = if isZero (fmod (FQ a) (FQ c)) then copysign (zero false) (FQ c) else if lt (FQ c) (zero false) != lt (fmod (FQ a) (FQ c)) (zero false) then add (fmod (FQ a) (FQ c)) (FQ c) else fmod (FQ a) (FQ c) := by
    unfold divmod
    dsimp only
    split
    · rfl
    · split <;> rfl
  rw [hd]
  have hcs : copysign (zero false) (FQ c) = zero false := by
    unfold copysign
    rw [signBit_fq hbb (by omega)]
    decide +kernel
  by_cases hz : a.natAbs % c.natAbs = 0
  · rw [hz, Nat.zero_mul] at hr
    have hm0 : fmod (FQ a) (FQ c) = zero (decide (a < 0)) := by
      refine right_unique (by decide) hr ?_
      have hz0 : zero (decide (a < 0)) = ofFrac (decide (a < 0)) 0 1 := by cases decide (a < 0) <;> decide +kernel
      rw [hz0]
      exact ofFrac_right (W := 0) (D := 1) (by decide) (by simp) (by decide)
    have hz2 : isZero (fmod (FQ a) (FQ c)) = true := by
      rw [hm0]; cases decide (a < 0) <;> decide +kernel
    rw [if_pos hz2, hcs, ← fq_zero]
    congr 1
    have h3 : c.natAbs ∣ a.natAbs := Nat.dvd_of_mod_eq_zero hz
    exact (Int.emod_eq_zero_of_dvd (Int.natAbs_dvd_natAbs.mp h3)).symm
  · have hlt : a.natAbs % c.natAbs < c.natAbs := Nat.mod_lt _ (by omega)
    have hle : a.natAbs % c.natAbs ≤ a.natAbs := Nat.mod_le _ _
    by_cases hn : a < 0
    · have hm0 : fmod (FQ a) (FQ c) = FQ (-((a.natAbs % c.natAbs : Nat) : Int)) :=
        fq_of_right hr (by decide) (by apply decide_eq_decide.mpr; omega) (by rw [Nat.one_mul]; congr 1; omega)
      have hs : (-((a.natAbs % c.natAbs : Nat) : Int)).natAbs ≤ 2 ^ 53 := by omega
      rw [hm0, fq_isZero hs, lt_zero_fq hbb, lt_zero_fq hs, if_neg (by simp; omega)]
      have h1 : decide (c < 0) = false := decide_eq_false (by omega)
      have h2 : decide (-((a.natAbs % c.natAbs : Nat) : Int) < 0) = true := decide_eq_true (by omega)
      rw [h1, h2, if_pos (by decide), fq_add hs hbb]
      congr 1
      have e1 : ((a.natAbs % c.natAbs : Nat) : Int) = (-a) % c := by
        rw [Int.natCast_emod]
        congr 1 <;> omega
      rw [e1]
      have e2 : a = -((-a) % c) + c * (-((-a) / c)) := by
        have := Int.mul_ediv_add_emod (-a) c
        rw [Int.mul_neg]
        omega
      have e3 : a % c = (-((-a) % c) + c) % c := by
        rw [Int.add_emod_right]
        conv => lhs; rw [e2]
        rw [Int.add_mul_emod_self_left]
      rw [e3]
      refine (Int.emod_eq_of_lt ?_ ?_).symm
      · have := Int.emod_lt_of_pos (-a) hc0; omega
      · rw [← e1]; omega
    · have hm0 : fmod (FQ a) (FQ c) = FQ (((a.natAbs % c.natAbs : Nat) : Int)) :=
        fq_of_right hr (by decide) (by apply decide_eq_decide.mpr; omega) (by rw [Nat.one_mul]; congr 1)
      have hs : (((a.natAbs % c.natAbs : Nat) : Int)).natAbs ≤ 2 ^ 53 := by omega
      rw [hm0, fq_isZero hs, lt_zero_fq hbb, lt_zero_fq hs, if_neg (by simp; omega)]
      have h1 : decide (c < 0) = false := decide_eq_false (by omega)
      have h2 : decide ((((a.natAbs % c.natAbs : Nat) : Int)) < 0) = false := decide_eq_false (by omega)
      rw [h1, h2, if_neg (by decide)]
      congr 1
      rw [Int.natCast_emod]
      congr 1 <;> omega
end Mine
-- PL
set_option maxRecDepth 100000
namespace Mine
def isLeap (y : Int) : Bool := y % 4 == 0 && (y % 100 != 0 || y % 400 == 0)
def gday (y : Int) (b : Bool) (m d : Int) : Int := 1721425 + 365 * (y - 1) + (y - 1) / 4 - (y - 1) / 100 + (y - 1) / 400 + (367 * m - 362) / 12 + (if m ≤ 2 then 0 else if b = true then -1 else -2) + d
def mlen (b : Bool) (m : Int) : Int := if m = 2 then (if b = true then 29 else 28) else if m = 4 ∨ m = 6 ∨ m = 9 ∨ m = 11 then 30 else 31

theorem leap_iff (y : Int) : isLeap y = true ↔ (y % 4 = 0 ∧ (y % 100 ≠ 0 ∨ y % 400 = 0)) := by
  unfold isLeap
  simp only [beq_iff_eq, bne_iff_ne, Bool.and_eq_true, Bool.or_eq_true]
theorem leap_not (y : Int) : isLeap y = false ↔ ¬ (y % 4 = 0 ∧ (y % 100 ≠ 0 ∨ y % 400 = 0)) := by
  rw [← leap_iff]; simp

/-- a year's parts -/
theorem year_parts (y : Int) : ∃ q c e f : Int, y = 400 * q + 100 * c + 4 * e + f + 1 ∧ 0 ≤ c ∧ c ≤ 3 ∧ 0 ≤ e ∧ e ≤ 24 ∧ 0 ≤ f ∧ f ≤ 3 ∧ (isLeap y = true ↔ (f = 3 ∧ (e ≠ 24 ∨ c = 3))) := by
  refine ⟨(y - 1) / 400, (y - 1) % 400 / 100, (y - 1) % 100 / 4, (y - 1) % 4, by omega, by omega, by omega, by omega, by omega, by omega, by omega, ?_⟩
  rw [leap_iff]
  omega

theorem first_parts {y q c e f : Int} (b : Bool) (h : y = 400 * q + 100 * c + 4 * e + f + 1) (h1 : 0 ≤ c ∧ c ≤ 3 ∧ 0 ≤ e ∧ e ≤ 24 ∧ 0 ≤ f ∧ f ≤ 3) :
    gday y b 1 1 = 1721426 + 146097 * q + 36524 * c + 1461 * e + 365 * f := by
  have e1 : (y - 1) / 4 = 100 * q + 25 * c + e := by omega
  have e2 : (y - 1) / 100 = 4 * q + c := by omega
  have e3 : (y - 1) / 400 = q := by omega
  unfold gday
  rw [e1, e2, e3]
  have e4 : (if (1 : Int) ≤ 2 then (0 : Int) else if b = true then -1 else -2) = 0 := by simp
  rw [e4]
  omega

theorem cum_le (b : Bool) (m d : Int) (hm : 1 ≤ m ∧ m ≤ 12) (h1 : 1 ≤ d ∧ d ≤ mlen b m) :
    0 ≤ (367 * m - 362) / 12 + (if m ≤ 2 then 0 else if b = true then -1 else -2) + d - 1 ∧ (367 * m - 362) / 12 + (if m ≤ 2 then 0 else if b = true then -1 else -2) + d - 1 ≤ (if b = true then 365 else 364) := by
  unfold mlen at h1
  have : m = 1 ∨ m = 2 ∨ m = 3 ∨ m = 4 ∨ m = 5 ∨ m = 6 ∨ m = 7 ∨ m = 8 ∨ m = 9 ∨ m = 10 ∨ m = 11 ∨ m = 12 := by omega
  rcases this with h | h | h | h | h | h | h | h | h | h | h | h <;> subst h <;> cases b <;> simp at h1 ⊢ <;> omega

/-- the month out of the day's place in the year -/
theorem month_of (b : Bool) (m d k : Int) (hm : 1 ≤ m ∧ m ≤ 12) (h1 : 1 ≤ d ∧ d ≤ mlen b m) (hk : k = (367 * m - 362) / 12 + (if m ≤ 2 then 0 else if b = true then -1 else -2) + d - 1) :
    (b = true → k < 59 → (12 * k + 373) / 367 = m) ∧ (b = true → 59 ≤ k → (12 * (k + 1) + 373) / 367 = m) ∧ (b = false → k < 58 → (12 * k + 373) / 367 = m) ∧ (b = false → 58 ≤ k → (12 * (k + 2) + 373) / 367 = m) := by
  unfold mlen at h1
  have : m = 1 ∨ m = 2 ∨ m = 3 ∨ m = 4 ∨ m = 5 ∨ m = 6 ∨ m = 7 ∨ m = 8 ∨ m = 9 ∨ m = 10 ∨ m = 11 ∨ m = 12 := by omega
  subst hk
  rcases this with h | h | h | h | h | h | h | h | h | h | h | h <;> subst h <;> cases b <;> simp at h1 ⊢ <;> omega

/-- what from_jd reckons on the way -/
theorem from_parts {y q c e f k N P : Int} (h : y = 400 * q + 100 * c + 4 * e + f + 1) (h1 : 0 ≤ c ∧ c ≤ 3 ∧ 0 ≤ e ∧ e ≤ 24 ∧ 0 ≤ f ∧ f ≤ 3) (hk : 0 ≤ k ∧ k ≤ 365)
    (hN : N = 1721426 + 146097 * q + 36524 * c + 1461 * e + 365 * f + k) (hP : P = 4 * ((4 * N - 2 - 2) / 4) + 2 - 6885702) (hl : k = 365 → (f = 3 ∧ (e ≠ 24 ∨ c = 3))) :
    ((k = 365 ∧ P % (4 * 146097) / (4 * 36524) = 4 ∧ P / (4 * 146097) * 400 + P % (4 * 146097) / (4 * 36524) * 100 + P % (4 * 146097) % (4 * 36524) / (4 * 1461) * 4 + P % (4 * 146097) % (4 * 36524) % (4 * 1461) / (4 * 365) = y) ∨
     (k = 365 ∧ P % (4 * 146097) / (4 * 36524) ≠ 4 ∧ P % (4 * 146097) % (4 * 36524) % (4 * 1461) / (4 * 365) = 4 ∧ P / (4 * 146097) * 400 + P % (4 * 146097) / (4 * 36524) * 100 + P % (4 * 146097) % (4 * 36524) / (4 * 1461) * 4 + P % (4 * 146097) % (4 * 36524) % (4 * 1461) / (4 * 365) = y) ∨
     (k ≤ 364 ∧ P % (4 * 146097) / (4 * 36524) ≠ 4 ∧ P % (4 * 146097) % (4 * 36524) % (4 * 1461) / (4 * 365) ≠ 4 ∧ P / (4 * 146097) * 400 + P % (4 * 146097) / (4 * 36524) * 100 + P % (4 * 146097) % (4 * 36524) / (4 * 1461) * 4 + P % (4 * 146097) % (4 * 36524) % (4 * 1461) / (4 * 365) + 1 = y)) := by
  have hP' : P = 4 * (146097 * q + (36524 * c + (1461 * e + (365 * f + k)))) := by omega
  clear hP
  have e1 : P / (4 * 146097) = q := by omega
  have e2 : P % (4 * 146097) = 4 * (36524 * c + (1461 * e + (365 * f + k))) := by omega
  rw [e1, e2]
  clear e1 e2 hP'
  by_cases hx : e = 24 ∧ f = 3 ∧ k = 365
  · obtain ⟨rfl, rfl, rfl⟩ := hx
    have hc : c = 3 := by omega
    subst hc
    left
    refine ⟨rfl, by omega, by omega⟩
  · have hT : 1461 * e + (365 * f + k) < 36524 := by omega
    have e3 : 4 * (36524 * c + (1461 * e + (365 * f + k))) / (4 * 36524) = c := by omega
    have e4 : 4 * (36524 * c + (1461 * e + (365 * f + k))) % (4 * 36524) = 4 * (1461 * e + (365 * f + k)) := by omega
    rw [e3, e4]
    have e5 : 4 * (1461 * e + (365 * f + k)) / (4 * 1461) = e := by omega
    have e6 : 4 * (1461 * e + (365 * f + k)) % (4 * 1461) = 4 * (365 * f + k) := by omega
    rw [e5, e6]
    right
    by_cases hk5 : k = 365
    · left
      have hf : f = 3 := by omega
      subst hk5; subst hf
      refine ⟨rfl, by omega, by omega, by omega⟩
    · right
      have e7 : 4 * (365 * f + k) / (4 * 365) = f := by omega
      rw [e7]
      refine ⟨by omega, by omega, by omega, by omega⟩
end Mine
-- PD
set_option maxRecDepth 100000
namespace Mine

def Valid (y m d : Int) : Prop := (1 ≤ m ∧ m ≤ 12) ∧ 1 ≤ d ∧ d ≤ mlen (isLeap y) m

def cumd (b : Bool) (m : Int) : Int := (367 * m - 362) / 12 + (if m ≤ 2 then 0 else if b = true then -1 else -2)
theorem gday_cum (y : Int) (b : Bool) (m d : Int) : gday y b m d = gday y b 1 1 + (cumd b m + d - 1) := by
  have hu1 : gday y b 1 1 = 1721425 + 365 * (y - 1) + (y - 1) / 4 - (y - 1) / 100 + (y - 1) / 400 + 1 := by unfold gday; simp
  rw [hu1]; unfold gday cumd; omega

theorem month_exists (b : Bool) (k : Int) (h0 : 0 ≤ k) (h1 : k ≤ 364 ∨ (k = 365 ∧ b = true)) : ∃ m d, (1 ≤ m ∧ m ≤ 12) ∧ (1 ≤ d ∧ d ≤ mlen b m) ∧ k = cumd b m + d - 1 := by
  unfold mlen cumd
  cases b
  · simp at h1
    by_cases g2 : k < 31
    · exact ⟨1, k + 1, by omega, by simp; omega, by simp⟩
    by_cases g3 : k < 59
    · exact ⟨2, k - 30, by omega, by simp; omega, by simp; omega⟩
    by_cases g4 : k < 90
    · exact ⟨3, k - 58, by omega, by simp; omega, by simp; omega⟩
    by_cases g5 : k < 120
    · exact ⟨4, k - 89, by omega, by simp; omega, by simp; omega⟩
    by_cases g6 : k < 151
    · exact ⟨5, k - 119, by omega, by simp; omega, by simp; omega⟩
    by_cases g7 : k < 181
    · exact ⟨6, k - 150, by omega, by simp; omega, by simp; omega⟩
    by_cases g8 : k < 212
    · exact ⟨7, k - 180, by omega, by simp; omega, by simp; omega⟩
    by_cases g9 : k < 243
    · exact ⟨8, k - 211, by omega, by simp; omega, by simp; omega⟩
    by_cases g10 : k < 273
    · exact ⟨9, k - 242, by omega, by simp; omega, by simp; omega⟩
    by_cases g11 : k < 304
    · exact ⟨10, k - 272, by omega, by simp; omega, by simp; omega⟩
    by_cases g12 : k < 334
    · exact ⟨11, k - 303, by omega, by simp; omega, by simp; omega⟩
    · exact ⟨12, k - 333, by omega, by simp; omega, by simp; omega⟩
  · simp at h1
    by_cases g2 : k < 31
    · exact ⟨1, k + 1, by omega, by simp; omega, by simp⟩
    by_cases g3 : k < 60
    · exact ⟨2, k - 30, by omega, by simp; omega, by simp; omega⟩
    by_cases g4 : k < 91
    · exact ⟨3, k - 59, by omega, by simp; omega, by simp; omega⟩
    by_cases g5 : k < 121
    · exact ⟨4, k - 90, by omega, by simp; omega, by simp; omega⟩
    by_cases g6 : k < 152
    · exact ⟨5, k - 120, by omega, by simp; omega, by simp; omega⟩
    by_cases g7 : k < 182
    · exact ⟨6, k - 151, by omega, by simp; omega, by simp; omega⟩
    by_cases g8 : k < 213
    · exact ⟨7, k - 181, by omega, by simp; omega, by simp; omega⟩
    by_cases g9 : k < 244
    · exact ⟨8, k - 212, by omega, by simp; omega, by simp; omega⟩
    by_cases g10 : k < 274
    · exact ⟨9, k - 243, by omega, by simp; omega, by simp; omega⟩
    by_cases g11 : k < 305
    · exact ⟨10, k - 273, by omega, by simp; omega, by simp; omega⟩
    by_cases g12 : k < 335
    · exact ⟨11, k - 304, by omega, by simp; omega, by simp; omega⟩
    · exact ⟨12, k - 334, by omega, by simp; omega, by simp; omega⟩

theorem date_exists (N : Int) : ∃ y m d, Valid y m d ∧ N = gday y (isLeap y) m d := by
  obtain ⟨q, R, hR, h0, h1⟩ : ∃ q R, N = 1721426 + 146097 * q + R ∧ 0 ≤ R ∧ R < 146097 := ⟨(N - 1721426) / 146097, (N - 1721426) % 146097, by omega, by omega, by omega⟩
  obtain ⟨c, S, hS, c0, c1, s0, s1⟩ : ∃ c S, R = 36524 * c + S ∧ 0 ≤ c ∧ c ≤ 3 ∧ 0 ≤ S ∧ (S < 36524 ∨ (c = 3 ∧ S = 36524)) := by
    by_cases h : R = 146096
    · exact ⟨3, 36524, by omega, by omega, by omega, by omega, by omega⟩
    · exact ⟨R / 36524, R % 36524, by omega, by omega, by omega, by omega, by omega⟩
  obtain ⟨e, T, hT, e0, e1, t0, t1⟩ : ∃ e T, S = 1461 * e + T ∧ 0 ≤ e ∧ e ≤ 24 ∧ 0 ≤ T ∧ T < 1461 := ⟨S / 1461, S % 1461, by omega, by omega, by omega, by omega, by omega⟩
  obtain ⟨f, k, hk, f0, f1, k0, k1⟩ : ∃ f k, T = 365 * f + k ∧ 0 ≤ f ∧ f ≤ 3 ∧ 0 ≤ k ∧ (k < 365 ∨ (f = 3 ∧ k = 365)) := by
    by_cases h : T = 1460
    · exact ⟨3, 365, by omega, by omega, by omega, by omega, by omega⟩
    · exact ⟨T / 365, T % 365, by omega, by omega, by omega, by omega, by omega⟩
  obtain ⟨y, hy⟩ : ∃ y, y = 400 * q + 100 * c + 4 * e + f + 1 := ⟨_, rfl⟩
  have hl : k = 365 → isLeap y = true := fun h => by rw [leap_iff]; omega
  obtain ⟨m, d, hm, hd, hkm⟩ := month_exists (isLeap y) k k0 (by
    by_cases h : k = 365
    · exact .inr ⟨h, hl h⟩
    · left; omega)
  refine ⟨y, m, d, ⟨hm, hd⟩, ?_⟩
  rw [gday_cum, first_parts (isLeap y) hy (by omega), ← hkm]
  omega

def pq (N : Int) : Int := 4 * ((4 * N - 2 - 2) / 4) + 2 - 6885702
def dY (N : Int) : Int :=
  if pq N % (4 * 146097) / (4 * 36524) = 4 ∨ pq N % (4 * 146097) % (4 * 36524) % (4 * 1461) / (4 * 365) = 4 then
    pq N / (4 * 146097) * 400 + pq N % (4 * 146097) / (4 * 36524) * 100 + pq N % (4 * 146097) % (4 * 36524) / (4 * 1461) * 4 + pq N % (4 * 146097) % (4 * 36524) % (4 * 1461) / (4 * 365)
  else pq N / (4 * 146097) * 400 + pq N % (4 * 146097) / (4 * 36524) * 100 + pq N % (4 * 146097) % (4 * 36524) / (4 * 1461) * 4 + pq N % (4 * 146097) % (4 * 36524) % (4 * 1461) / (4 * 365) + 1
def dK (N : Int) : Int := N - gday (dY N) (isLeap (dY N)) 1 1
def dM (N : Int) : Int := if isLeap (dY N) = true then (if dK N < 59 then (12 * dK N + 373) / 367 else (12 * (dK N + 1) + 373) / 367) else (if dK N < 58 then (12 * dK N + 373) / 367 else (12 * (dK N + 2) + 373) / 367)
def dD (N : Int) : Int := N - gday (dY N) (isLeap (dY N)) (dM N) 1 + 1

theorem date_unique {y m d N : Int} (hv : Valid y m d) (hN : N = gday y (isLeap y) m d) : dY N = y ∧ dM N = m ∧ dD N = d := by
  obtain ⟨hm, h1⟩ := hv
  obtain ⟨q, c, e, f, p1, p2, p3, p4, p5, p6, p7, p8⟩ := year_parts y
  have hcum := cum_le (isLeap y) m d hm h1
  have hF1 := first_parts (isLeap y) p1 (by omega)
  have hmo := month_of (isLeap y) m d _ hm h1 rfl
  have hg := gday_cum y (isLeap y) m d
  obtain ⟨k, hk⟩ : ∃ k, k = (367 * m - 362) / 12 + (if m ≤ 2 then 0 else if isLeap y = true then -1 else -2) + d - 1 := ⟨_, rfl⟩
  have hkc : cumd (isLeap y) m + d - 1 = k := by rw [hk]; rfl
  rw [hkc] at hg
  rw [← hk] at hcum hmo
  clear hk
  have hk5 : k ≤ 365 := by have := hcum.2; split at this <;> omega
  have hl5 : k = 365 → isLeap y = true := fun h5 => by
    have := hcum.2
    cases hb : isLeap y
    · rw [hb] at this; simp at this; omega
    · rfl
  have hyr := from_parts p1 (by omega) ⟨hcum.1, hk5⟩ (N := N) (P := pq N) (by omega) rfl (fun h5 => p8.mp (hl5 h5))
  have hY : dY N = y := by
    unfold dY
    rcases hyr with ⟨a1, a2, a3⟩ | ⟨a1, a2, a3, a4⟩ | ⟨a1, a2, a3, a4⟩
    · rw [if_pos (.inl a2)]; exact a3
    · rw [if_pos (.inr a3)]; exact a4
    · rw [if_neg (by intro h; rcases h with h | h; exact a2 h; exact a3 h)]; exact a4
  have hK : dK N = k := by unfold dK; rw [hY]; omega
  have hM : dM N = m := by
    obtain ⟨g1, g2, g3, g4⟩ := hmo
    unfold dM
    rw [hY, hK]
    cases hb : isLeap y
    · simp only [Bool.false_eq_true, if_false]
      split
      · exact g3 hb (by assumption)
      · exact g4 hb (by omega)
    · simp only [if_true]
      split
      · exact g1 hb (by assumption)
      · exact g2 hb (by omega)
  refine ⟨hY, hM, ?_⟩
  unfold dD
  rw [hY, hM]
  have := gday_cum y (isLeap y) m d
  have := gday_cum y (isLeap y) m 1
  omega

theorem date_spec (N : Int) : Valid (dY N) (dM N) (dD N) ∧ N = gday (dY N) (isLeap (dY N)) (dM N) (dD N) := by
  obtain ⟨y, m, d, hv, hN⟩ := date_exists N
  obtain ⟨h1, h2, h3⟩ := date_unique hv hN
  rw [h1, h2, h3]
  exact ⟨hv, hN⟩
theorem first_le (y : Int) (b : Bool) : 365 * y + y / 4 - y / 100 + y / 400 + 1721060 ≤ gday y b 1 1 + 1 ∧ gday y b 1 1 ≤ 365 * y + y / 4 - y / 100 + y / 400 + 1721060 + 1 := by
  have hu1 : gday y b 1 1 = 1721425 + 365 * (y - 1) + (y - 1) / 4 - (y - 1) / 100 + (y - 1) / 400 + 1 := by unfold gday; simp
  omega
theorem valid_day {y m d : Int} (hv : Valid y m d) : 1 ≤ d ∧ d ≤ 31 := by
  obtain ⟨hm, h1, h2⟩ := hv
  refine ⟨h1, ?_⟩
  unfold mlen at h2
  (repeat' split at h2) <;> omega
/-- the year lies where it has to -/
theorem dY_bound (N : Int) (h : -3500000000000 ≤ N ∧ N ≤ 3500000000000) : -10000000000 ≤ dY N ∧ dY N ≤ 10000000000 := by
  obtain ⟨hv, hN⟩ := date_spec N
  have hc := cum_le (isLeap (dY N)) (dM N) (dD N) hv.1 hv.2
  have hg := gday_cum (dY N) (isLeap (dY N)) (dM N) (dD N)
  have hu1 : gday (dY N) (isLeap (dY N)) 1 1 = 1721425 + 365 * (dY N - 1) + (dY N - 1) / 4 - (dY N - 1) / 100 + (dY N - 1) / 400 + 1 := by unfold gday; simp
  have e : cumd (isLeap (dY N)) (dM N) + dD N - 1 = (367 * dM N - 362) / 12 + (if dM N ≤ 2 then 0 else if isLeap (dY N) = true then -1 else -2) + dD N - 1 := rfl
  have hk5 : cumd (isLeap (dY N)) (dM N) + dD N - 1 ≤ 365 := by rw [e]; have := hc.2; split at this <;> omega
  have hk0 := hc.1
  rw [← e] at hk0
  omega

-- the western Easter
def epact (y : Int) : Int := (11 * (y % 19 + 1) + 20 + (8 * (y / 100 + 1) + 5) / 25 - 5 - (3 * (y / 100 + 1) / 4 - 12)) % 30
def epactM (y : Int) : Int := if epact y = 24 then 25 else if epact y = 25 ∧ y % 19 > 10 then 26 else epact y
def westN (y : Int) : Int := gday (y + 1) (isLeap (y + 1)) 1 1 - 307 + (if epactM y < 24 then 44 - epactM y else 74 - epactM y)
def westS (y : Int) : Int := westN y + 1 + (5 - westN y) % 7

def wX (y : Int) : Int := (y / 100 - y / 100 / 4 - (y / 100 - max (y / 100 - 17) 0 / 25) / 3 + 19 * (y % 19) + 15) % 30
def wI (y : Int) : Int := wX y - (if wX y < 28 then 0 else if wX y = 28 then (if y % 19 ≤ 10 then 0 else 1) else 1)
def wL (y : Int) : Int := wI y - (y + y / 4 + wI y + 2 - y / 100 + y / 100 / 4) % 7

theorem lunar (c n : Int) (hc : 16 ≤ c) (hn : 0 ≤ n ∧ n ≤ 18) :
    (c - c / 4 - (c - max (c - 17) 0 / 25) / 3 + 19 * n + 15) % 30 = (23 - (11 * (n + 1) + 20 + (8 * (c + 1) + 5) / 25 - 5 - (3 * (c + 1) / 4 - 12)) % 30) % 30 := by
  have e1 : c - c / 4 = 3 * (c + 1) / 4 := by omega
  have e2 : (c - max (c - 17) 0 / 25) / 3 = (8 * (c + 1) + 5) / 25 := by
    by_cases h : c = 16
    · subst h; decide
    · rw [Int.max_eq_left (by omega)]
      omega
  rw [e1, e2]
  generalize 3 * (c + 1) / 4 = u
  generalize (8 * (c + 1) + 5) / 25 = v
  omega

theorem west_i (y : Int) (hy : 1600 ≤ y) : wI y = (if epactM y < 24 then 44 - epactM y else 74 - epactM y) - 21 := by
  have h := lunar (y / 100) (y % 19) (by omega) (by omega)
  have hX : wX y = (23 - epact y) % 30 := h
  have he : 0 ≤ epact y ∧ epact y < 30 := by unfold epact; omega
  unfold wI epactM
  rw [hX]
  generalize epact y = p at *
  have hp : p ≤ 23 ∨ p = 24 ∨ p = 25 ∨ 26 ≤ p := by omega
  rcases hp with hp | hp | hp | hp
  · have e : (23 - p) % 30 = 23 - p := by omega
    have g1 : ¬ p = 24 := by omega
    have g2 : ¬ (p = 25 ∧ y % 19 > 10) := by omega
    have g3 : 23 - p < 28 := by omega
    have g4 : p < 24 := by omega
    rw [e, if_neg g1, if_neg g2, if_pos g3, if_pos g4]
    omega
  · subst hp; simp
  · subst hp
    by_cases hn : y % 19 > 10
    · have : ¬ y % 19 ≤ 10 := by omega
      simp [hn, this]
    · have : y % 19 ≤ 10 := by omega
      simp [hn, this]
  · have e : (23 - p) % 30 = 53 - p := by omega
    have g1 : ¬ p = 24 := by omega
    have g2 : ¬ (p = 25 ∧ y % 19 > 10) := by omega
    have g3 : 53 - p < 28 := by omega
    have g4 : ¬ p < 24 := by omega
    rw [e, if_neg g1, if_neg g2, if_pos g3, if_neg g4]
    omega

theorem wX_bound (y : Int) : 0 ≤ wX y ∧ wX y < 30 := by unfold wX; omega
theorem wI_bound (y : Int) : 0 ≤ wI y ∧ wI y ≤ 28 := by
  have := wX_bound y
  unfold wI
  (repeat' split) <;> omega
theorem wL_bound (y : Int) : -6 ≤ wL y ∧ wL y ≤ 28 := by
  have := wI_bound y
  unfold wL
  omega

theorem march (y : Int) (b b' : Bool) (hb : isLeap y = b) : gday (y + 1) b' 1 1 - 306 = gday y b 3 1 := by
  have hu1 : gday (y + 1) b' 1 1 = 1721425 + 365 * (y + 1 - 1) + (y + 1 - 1) / 4 - (y + 1 - 1) / 100 + (y + 1 - 1) / 400 + 1 := by unfold gday; simp
  rw [hu1]
  unfold gday
  cases b
  · rw [leap_not] at hb; simp; omega
  · rw [leap_iff] at hb; simp; omega

theorem west_law (y : Int) (hy : 1600 ≤ y) : gday y (isLeap y) 3 (wL y + 28) = westS y := by
  have hm := march y (isLeap y) (isLeap (y + 1)) rfl
  have h3 : gday y (isLeap y) 3 (wL y + 28) = gday y (isLeap y) 3 1 + wL y + 27 := by unfold gday; omega
  have hu1 : gday (y + 1) (isLeap (y + 1)) 1 1 = 1721425 + 365 * y + y / 4 - y / 100 + y / 400 + 1 := by unfold gday; simp
  have hi := west_i y hy
  have hw : westN y = gday y (isLeap y) 3 1 + 20 + wI y := by unfold westN; omega
  have hq : y / 400 = y / 100 / 4 := by omega
  have hN : westN y = 1721140 + 365 * y + y / 4 - y / 100 + y / 100 / 4 + wI y := by omega
  unfold westS
  rw [h3]
  unfold wL
  have hb := wI_bound y
  generalize y / 100 / 4 = g at *
  generalize y / 100 = c at *
  generalize y / 4 = a at *
  omega
theorem west_valid (y : Int) (hy : 1600 ≤ y) : dY (westS y) = y ∧ dM (westS y) = 3 + (wL y + 40) / 44 ∧ dD (westS y) = wL y + 28 - 31 * ((3 + (wL y + 40) / 44) / 4) := by
  have hb := wL_bound y
  have hw := west_law y hy
  by_cases h : wL y ≤ 3
  · have e : 3 + (wL y + 40) / 44 = 3 := by omega
    rw [e]
    refine date_unique ⟨by omega, by omega, ?_⟩ ?_
    · unfold mlen; simp; omega
    · rw [← hw]; congr 1; omega
  · have e : 3 + (wL y + 40) / 44 = 4 := by omega
    rw [e]
    refine date_unique ⟨by omega, by omega, ?_⟩ ?_
    · unfold mlen; simp; omega
    · rw [← hw]
      unfold gday
      cases isLeap y <;> simp <;> omega

-- the old Easter
def jE (y : Int) (x : Int) : Int := 113 + ((19 * (y % 19) + 15) % 30 + x) + (2 * (y % 4) + 4 * (y % 7) - ((19 * (y % 19) + 15) % 30 + x) + 6) % 7 + 1
def oldN (y x : Int) : Int := 1461 * ((y + 4712) / 4) + 365 * ((y + 4712) % 4) + 80 + 15 + x
def oldS (y x : Int) : Int := oldN y x + 1 + (5 - oldN y x) % 7
theorem old_law (y x : Int) (h19 : y % 19 = 0) (hx : x = 0 ∨ x = 1) : (1461 * (y + 4716)) / 4 + 306001 * (jE y x / 31 + 1) / 10000 + (jE y x % 31 + 1) - 1524 = oldS y x ∧ (jE y x / 31 = 3 ∨ jE y x / 31 = 4) ∧ jE y x % 31 + 1 ≤ 30 := by
  have hj : jE y x = 129 + x + (2 * (y % 4) + 4 * (y % 7) - 15 - x + 6) % 7 := by
    unfold jE; rw [h19]
    have : (19 * (0 : Int) + 15) % 30 = 15 := by decide
    rw [this]
    have : 2 * (y % 4) + 4 * (y % 7) - (15 + x) + 6 = 2 * (y % 4) + 4 * (y % 7) - 15 - x + 6 := by omega
    rw [this]; omega
  obtain ⟨r, p, hr, p0, p1⟩ : ∃ r p, y + 4712 = 4 * r + p ∧ 0 ≤ p ∧ p ≤ 3 := ⟨(y + 4712) / 4, (y + 4712) % 4, by omega, by omega, by omega⟩
  have e1 : (y + 4712) / 4 = r := by omega
  have e2 : (y + 4712) % 4 = p := by omega
  have e3 : (1461 * (y + 4716)) / 4 = 1461 * r + 1461 + 365 * p := by omega
  have e4 : y % 4 = p := by omega
  have e5 : (2 * (y % 4) + 4 * (y % 7) - 15 - x + 6) % 7 = (5 - oldN y x) % 7 := by
    unfold oldN
    rw [e1, e2, e4]
    have : y = 4 * r + p - 4712 := by omega
    subst this
    omega
  rw [e5] at hj
  have hb : 0 ≤ (5 - oldN y x) % 7 ∧ (5 - oldN y x) % 7 ≤ 6 := by omega
  unfold oldS
  rw [e3]
  have hO : oldN y x = 1461 * r + 365 * p + 95 + x := by unfold oldN; rw [e1, e2]; omega
  generalize (5 - oldN y x) % 7 = z at *
  rw [hO]
  by_cases h : jE y x ≤ 123
  · omega
  · have hq : jE y x / 31 = 4 := by omega
    rw [hq]
    have : jE y x % 31 = jE y x - 124 := by omega
    rw [this]
    omega
end Mine
-- PI
set_option maxRecDepth 100000
namespace Mine
open PySem.Builtin._datetime PySem.Builtin.Time

theorem days_before (b : Bool) (m : Int) (hm : 1 ≤ m ∧ m ≤ 12) : timeDaysBefore b m = cumd b m := by
  have : m = 1 ∨ m = 2 ∨ m = 3 ∨ m = 4 ∨ m = 5 ∨ m = 6 ∨ m = 7 ∨ m = 8 ∨ m = 9 ∨ m = 10 ∨ m = 11 ∨ m = 12 := by omega
  rcases this with h | h | h | h | h | h | h | h | h | h | h | h <;> subst h <;> cases b <;> decide
theorem days_in (y m : Int) (hm : 1 ≤ m ∧ m ≤ 12) : daysInMonth y m = mlen (isLeap y) m := by
  have e : timeIsLeap y = isLeap y := by unfold isLeap; rfl
  unfold daysInMonth
  rw [e]
  have : m = 1 ∨ m = 2 ∨ m = 3 ∨ m = 4 ∨ m = 5 ∨ m = 6 ∨ m = 7 ∨ m = 8 ∨ m = 9 ∨ m = 10 ∨ m = 11 ∨ m = 12 := by omega
  rcases this with h | h | h | h | h | h | h | h | h | h | h | h <;> subst h <;> cases isLeap y <;> decide
theorem ord_gday (y m d : Int) (hm : 1 ≤ m ∧ m ≤ 12) : toOrdinal y m d = gday y (isLeap y) m d - 1721425 := by
  have e : timeIsLeap y = isLeap y := by unfold isLeap; rfl
  unfold toOrdinal
  rw [e, days_before _ _ hm, gday_cum]
  have hu1 : gday y (isLeap y) 1 1 = 1721425 + 365 * (y - 1) + (y - 1) / 4 - (y - 1) / 100 + (y - 1) / 400 + 1 := by unfold gday; simp
  rw [hu1]
  dsimp only
  omega

theorem first_mono (y : Int) : gday y (isLeap y) 1 1 + 365 ≤ gday (y + 1) (isLeap (y + 1)) 1 1 ∧ gday (y + 1) (isLeap (y + 1)) 1 1 ≤ gday y (isLeap y) 1 1 + 366 := by
  have hu1 : ∀ z b, gday z b 1 1 = 1721425 + 365 * (z - 1) + (z - 1) / 4 - (z - 1) / 100 + (z - 1) / 400 + 1 := fun z b => by unfold gday; simp
  rw [hu1, hu1]; omega
theorem first_mono' (y : Int) : gday (y - 1) (isLeap (y - 1)) 1 1 + 365 ≤ gday y (isLeap y) 1 1 ∧ gday y (isLeap y) 1 1 ≤ gday (y - 1) (isLeap (y - 1)) 1 1 + 366 := by
  have := first_mono (y - 1)
  have e : y - 1 + 1 = y := by omega
  rw [e] at this; exact this
theorem year_len (y : Int) : gday (y + 1) (isLeap (y + 1)) 1 1 - gday y (isLeap y) 1 1 - 337 = mlen (isLeap y) 2 := by
  have hu1 : ∀ z b, gday z b 1 1 = 1721425 + 365 * (z - 1) + (z - 1) / 4 - (z - 1) / 100 + (z - 1) / 400 + 1 := fun z b => by unfold gday; simp
  rw [hu1, hu1]
  unfold mlen
  cases hb : isLeap y
  · rw [leap_not] at hb; simp; omega
  · rw [leap_iff] at hb; simp; omega
theorem year_span (y : Int) : gday (y + 1) (isLeap (y + 1)) 1 1 = gday y (isLeap y) 1 1 + (if isLeap y = true then 366 else 365) := by
  have h1 := year_len y
  have e : mlen (isLeap y) 2 = (if isLeap y = true then 29 else 28) := by unfold mlen; simp
  rw [e] at h1
  by_cases h : isLeap y = true
  · rw [if_pos h] at h1 ⊢; omega
  · rw [if_neg h] at h1 ⊢; omega
theorem dY_of {y T : Int} (h1 : gday y (isLeap y) 1 1 ≤ T) (h2 : T < gday (y + 1) (isLeap (y + 1)) 1 1) : dY T = y := by
  have hs := year_span y
  obtain ⟨m, d, hm, hd, hk⟩ := month_exists (isLeap y) (T - gday y (isLeap y) 1 1) (by omega) (by
    by_cases h : isLeap y = true
    · rw [if_pos h] at hs
      by_cases h5 : T - gday y (isLeap y) 1 1 = 365
      · exact .inr ⟨h5, h⟩
      · left; omega
    · rw [if_neg h] at hs
      left; omega)
  exact (date_unique ⟨hm, hd⟩ (by rw [gday_cum]; omega)).1
/-- a date lies in its year -/
theorem in_year {y m d N : Int} (hv : Valid y m d) (hN : N = gday y (isLeap y) m d) : gday y (isLeap y) 1 1 ≤ N ∧ N < gday (y + 1) (isLeap (y + 1)) 1 1 := by
  have hc := cum_le (isLeap y) m d hv.1 hv.2
  have hg := gday_cum y (isLeap y) m d
  have hs := year_span y
  have e : cumd (isLeap y) m + d - 1 = (367 * m - 362) / 12 + (if m ≤ 2 then 0 else if isLeap y = true then -1 else -2) + d - 1 := rfl
  rw [← e] at hc
  obtain ⟨c1, c2⟩ := hc
  by_cases h : isLeap y = true
  · rw [if_pos h] at hs c2; omega
  · rw [if_neg h] at hs c2; omega

/-- the Monday of the first week -/
def mon1 (y : Int) : Int := if gday y (isLeap y) 1 1 % 7 > 3 then gday y (isLeap y) 1 1 - gday y (isLeap y) 1 1 % 7 + 7 else gday y (isLeap y) 1 1 - gday y (isLeap y) 1 1 % 7
theorem mon1_iso (y : Int) : isoWeek1Monday y = mon1 y - 1721425 := by
  unfold isoWeek1Monday mon1 weekdayOf
  dsimp only
  rw [ord_gday y 1 1 (by omega)]
  generalize gday y (isLeap y) 1 1 = F
  have e : (F - 1721425 + 6) % 7 = F % 7 := by omega
  rw [e]
  split <;> omega
theorem mon1_spec (y : Int) : mon1 y % 7 = 0 ∧ gday y (isLeap y) 1 1 - 3 ≤ mon1 y ∧ mon1 y ≤ gday y (isLeap y) 1 1 + 3 := by
  unfold mon1
  split <;> omega

theorem iso_law {y m d N : Int} (hv : Valid y m d) (hN : N = gday y (isLeap y) m d) :
    (isoCalendarOf y m d).1 = dY (N - N % 7 + 3) ∧
    (isoCalendarOf y m d).2.1 = (N - N % 7 + 3 - gday (dY (N - N % 7 + 3)) (isLeap (dY (N - N % 7 + 3))) 1 1) / 7 + 1 ∧
    (isoCalendarOf y m d).2.2 = N % 7 + 1 := by
  obtain ⟨i1, i2⟩ := in_year hv hN
  have a0 := mon1_spec y
  have a1 := mon1_spec (y + 1)
  have a2 := mon1_spec (y - 1)
  have b0 := first_mono y
  have b1 := first_mono (y + 1)
  have b2 := first_mono' y
  have e2 : y - 1 + 1 = y := by omega
  unfold isoCalendarOf
  dsimp only
  rw [mon1_iso, mon1_iso, mon1_iso, ord_gday y m d hv.1, ← hN]
  have hday : (N - 1721425 - (mon1 y - 1721425)).fmod 7 = N % 7 := by
    rw [Int.fmod_eq_emod_of_nonneg _ (by decide)]; omega
  rw [hday]
  simp only [Int.fdiv_eq_ediv_of_nonneg _ (show (0 : Int) ≤ 7 by decide)]
  by_cases h1 : (N - 1721425 - (mon1 y - 1721425)) / 7 < 0
  · rw [if_pos h1]
    have hT : dY (N - N % 7 + 3) = y - 1 := dY_of (by omega) (by rw [e2]; omega)
    rw [hT]
    refine ⟨rfl, ?_, rfl⟩
    dsimp only
    omega
  · rw [if_neg h1]
    by_cases h2 : N ≥ mon1 (y + 1)
    · have c : (decide ((N - 1721425 - (mon1 y - 1721425)) / 7 ≥ 52) && decide (N - 1721425 ≥ mon1 (y + 1) - 1721425)) = true := by
        simp only [Bool.and_eq_true, decide_eq_true_eq]; omega
      rw [if_pos c]
      have hT : dY (N - N % 7 + 3) = y + 1 := dY_of (by omega) (by omega)
      rw [hT]
      refine ⟨rfl, ?_, rfl⟩
      dsimp only
      omega
    · have c : ¬ (decide ((N - 1721425 - (mon1 y - 1721425)) / 7 ≥ 52) && decide (N - 1721425 ≥ mon1 (y + 1) - 1721425)) = true := by
        simp only [Bool.and_eq_true, decide_eq_true_eq]; omega
      rw [if_neg c]
      have hT : dY (N - N % 7 + 3) = y := dY_of (by omega) (by omega)
      rw [hT]
      refine ⟨rfl, ?_, rfl⟩
      dsimp only
      omega

/-- and back -/
theorem iso_back {z w k N : Int} (hz : z = dY (N - N % 7 + 3)) (hw : w = (N - N % 7 + 3 - gday z (isLeap z) 1 1) / 7 + 1) (hk : k = N % 7 + 1) :
    4 * k + (28 * w + (4 * gday (z - 1) (isLeap (z - 1)) 12 28 - 2) - 4 - 4 * ((4 * gday (z - 1) (isLeap (z - 1)) 12 28 - 2 - 4 - 4 * 6 + 2) / 4 % 7)) = 4 * N - 2 ∧ 1 ≤ w ∧ w ≤ 53 := by
  obtain ⟨hv, hT⟩ := date_spec (N - N % 7 + 3)
  rw [← hz] at hv hT
  obtain ⟨i1, i2⟩ := in_year hv hT
  have b0 := first_mono z
  have hs := year_span (z - 1)
  have e2 : z - 1 + 1 = z := by omega
  rw [e2] at hs
  have hg := gday_cum (z - 1) (isLeap (z - 1)) 12 28
  have hl : gday (z - 1) (isLeap (z - 1)) 12 28 = gday z (isLeap z) 1 1 - 4 := by
    rw [hg, hs]
    cases isLeap (z - 1)
    · have : cumd false 12 = 334 := by decide
      rw [this]; simp; omega
    · have : cumd true 12 = 335 := by decide
      rw [this]; simp; omega
  rw [hl]
  omega
end Mine
-- FW
set_option maxRecDepth 100000
namespace Mine
open PySem PySem.W PyProof.Rows PySem.Flt

theorem fq_mul' {a n : Int} (ha : a.natAbs ≤ 2 ^ 53) (hn : (4 * n).natAbs ≤ 2 ^ 53) (h : 0 < n ∨ 0 < a) : Float64.mul (FQ a) (Float64.ofInt n) = FQ (a * n) := by
  obtain ⟨m, e, h1, _⟩ := fq_decode ha
  rw [int_fq]
  obtain ⟨k, f, h2, _⟩ := fq_decode hn
  have hr := Float64.mul_right h1 h2
  rw [fq_val ha, fq_val hn, natAbs_C72, natAbs_C72] at hr
  refine fq_of_right hr (Nat.two_pow_pos _) ?_ ?_
  · have e1 : decide (4 * n < 0) = decide (n < 0) := decide_eq_decide.mpr (by omega)
    rw [e1]
    rcases h with h | h
    · exact natAbs_mul_dec a n (.inl h)
    · have h2 : ¬ a < 0 := by omega
      rw [decide_eq_false h2, Bool.false_bne]
      apply decide_eq_decide.mpr
      constructor
      · intro q; exact Int.mul_neg_of_pos_of_neg h q
      · intro q
        rcases Int.lt_or_le n 0 with h3 | h3
        · exact h3
        · have := Int.mul_nonneg (Int.le_of_lt h) h3; omega
  · have e1 : a.natAbs * (4 * n).natAbs = 4 * (a * n).natAbs := by rw [Int.natAbs_mul, Int.natAbs_mul]; show a.natAbs * (4 * n.natAbs) = _; rw [Nat.mul_left_comm]
    rw [p1074]
    generalize (2 : Nat) ^ 1072 = K
    calc a.natAbs * K * ((4 * n).natAbs * K) = a.natAbs * (4 * n).natAbs * (K * K) := by ac_rfl
      _ = 4 * (a * n).natAbs * (K * K) := by rw [e1]
      _ = K * 4 * ((a * n).natAbs * K) := by ac_rfl

/-- below 2 ^ 51 -/
def B (a : Int) : Prop := -2000000000000000 ≤ a ∧ a ≤ 2000000000000000
theorem B.n {a : Int} (h : B a) : a.natAbs ≤ 2 ^ 53 := by unfold B at h; omega
theorem B.n4 {a : Int} (h : B a) : (4 * a).natAbs ≤ 2 ^ 53 := by unfold B at h; omega
theorem B.fit {a : Int} (h : B a) : a.natAbs < 2 ^ 1023 := by
  have : (2 : Nat) ^ 53 < 2 ^ 1023 := by decide +kernel
  exact Nat.lt_of_le_of_lt h.n this

def FI (n d : Int) : UInt64 := FR n d.natAbs
def S33 (n d : Int) : Prop := 0 < d ∧ d ≤ 1048576 ∧ -(d * 8589934590) ≤ n ∧ n ≤ d * 8589934590
theorem S33.small {n d : Int} (h : S33 n d) : Small n d.natAbs := by
  obtain ⟨h1, h2, h3, h4⟩ := h
  have e : ((d.natAbs : Nat) : Int) = d := by omega
  refine ⟨by omega, by omega, ?_⟩
  have : ((n.natAbs : Nat) : Int) ≤ ((d.natAbs * 8589934590 : Nat) : Int) := by
    rw [Int.natCast_mul, e]
    show _ ≤ d * 8589934590
    omega
  omega

section
variable {prog : Program} {w : World} {A : Around} {E : Value → Shared → Prop} {s : Shared} {x y : UInt64} {n k a b : Int} {t u : Tok} {Q : Value → Shared → Prop}
theorem r_add_if (hx : x = FQ a) (hn : B n) (ha : B a) (h : Q (.float (FQ (4 * n + a)) s.toks) { s with toks := s.toks + 1 }) : wpAny (model prog w) A (binaryOp .Add (.int n u) (.float x t)) Q E s := by
  subst hx
  refine add_if_fits hn.fit ?_
  rw [int_fq, fq_add hn.n4 ha.n]; exact h
theorem r_add_fi (hx : x = FQ a) (hn : B n) (ha : B a) (h : Q (.float (FQ (a + 4 * n)) s.toks) { s with toks := s.toks + 1 }) : wpAny (model prog w) A (binaryOp .Add (.float x t) (.int n u)) Q E s := by
  subst hx
  refine add_fi_fits hn.fit ?_
  rw [int_fq, fq_add ha.n hn.n4]; exact h
theorem r_iadd_if (hx : x = FQ a) (hn : B n) (ha : B a) (h : Q (.float (FQ (4 * n + a)) s.toks) { s with toks := s.toks + 1 }) : wpAny (model prog w) A (inplaceOp .Add (.int n u) (.float x t)) Q E s := by
  subst hx
  refine iadd_if_1 (Float64.ofInt_fits hn.fit) ?_
  rw [int_fq, fq_add hn.n4 ha.n]; exact h
theorem r_sub_if (hx : x = FQ a) (hn : B n) (ha : B a) (h : Q (.float (FQ (4 * n - a)) s.toks) { s with toks := s.toks + 1 }) : wpAny (model prog w) A (binaryOp .Sub (.int n u) (.float x t)) Q E s := by
  subst hx
  refine sub_if_fits hn.fit ?_
  rw [int_fq, fq_sub hn.n4 ha.n]; exact h
theorem r_sub_fi (hx : x = FQ a) (hn : B n) (ha : B a) (h : Q (.float (FQ (a - 4 * n)) s.toks) { s with toks := s.toks + 1 }) : wpAny (model prog w) A (binaryOp .Sub (.float x t) (.int n u)) Q E s := by
  subst hx
  refine sub_fi_fits hn.fit ?_
  rw [int_fq, fq_sub ha.n hn.n4]; exact h
theorem r_add_ff (hx : x = FQ a) (hy : y = FQ b) (ha : B a) (hb : B b) (h : Q (.float (FQ (a + b)) s.toks) { s with toks := s.toks + 1 }) : wpAny (model prog w) A (binaryOp .Add (.float x t) (.float y u)) Q E s := by
  subst hx; subst hy
  refine add_float ?_
  rw [fq_add ha.n hb.n]; exact h
theorem r_sub_ff (hx : x = FQ a) (hy : y = FQ b) (ha : B a) (hb : B b) (h : Q (.float (FQ (a - b)) s.toks) { s with toks := s.toks + 1 }) : wpAny (model prog w) A (binaryOp .Sub (.float x t) (.float y u)) Q E s := by
  subst hx; subst hy
  refine sub_float ?_
  rw [fq_sub ha.n hb.n]; exact h
theorem r_mul_fi (hx : x = FQ a) (hn : B n) (ha : B a) (hs : 0 < n ∨ 0 < a) (h : Q (.float (FQ (a * n)) s.toks) { s with toks := s.toks + 1 }) : wpAny (model prog w) A (binaryOp .Mult (.float x t) (.int n u)) Q E s := by
  subst hx
  refine mul_fi_fits hn.fit ?_
  rw [fq_mul' ha.n hn.n4 hs]; exact h
theorem r_div_ii (hk : 0 < k) (hn : B n) (h : Q (.float (FI n k) s.toks) { s with toks := s.toks + 1 }) : wpAny (model prog w) A (binaryOp .Div (.int n t) (.int k u)) Q E s := by
  have hq : ¬ Float64.isInf (Float64.ofFrac (decide (n < 0) != decide (k < 0)) n.natAbs k.natAbs) = true := quot_fits (by omega) hn.fit
  refine AutoIntOps.truediv_2 (by simp; omega) hq ?_
  rw [fr_of_ints hk]; exact h
theorem r_div_fi (hx : x = FQ a) (hk : 0 < k ∧ k ≤ 1000000) (ha : B a) (h : Q (.float (FI a (4 * k)) s.toks) { s with toks := s.toks + 1 }) : wpAny (model prog w) A (binaryOp .Div (.float x t) (.int k u)) Q E s := by
  subst hx
  have hB : B k := by unfold B; omega
  refine AutoFloatOps.truediv_fi_2 (Float64.ofInt_fits hB.fit) (fun q => ?_) ?_
  · have := (isZero_ofInt k).mp q; omega
  · rw [fr_of_div ha.n hk.1 (by omega)]
    have e : 4 * k.natAbs = (4 * k).natAbs := by omega
    rw [e]; exact h
theorem r_mod_fi (hx : x = FQ a) (hk : 0 < k ∧ k ≤ 1000000) (ha : B a) (h : Q (.float (FQ (a % (4 * k))) s.toks) { s with toks := s.toks + 1 }) : wpAny (model prog w) A (binaryOp .Mod (.float x t) (.int k u)) Q E s := by
  subst hx
  have hB : B k := by unfold B; omega
  refine AutoFloatOps.mod_fi_2 (Float64.ofInt_fits hB.fit) (fun q => ?_) ?_
  · have := (isZero_ofInt k).mp q; omega
  · rw [fq_mod ha.n hk.1 (by omega)]; exact h
theorem via_floor (hf : Float64.isFinite x = true) (h : Q (.int (toInt Float64.floorOf x) s.toks) { s with toks := s.toks + 1 }) (hA : A.handled = none) : wpAny (model prog w) A (call (.builtin "math.floor") [.float x t]) Q E s :=
  call_floor_float hA (fun q => absurd (not_nan_of_finite hf) (by rw [q]; decide)) (fun q => absurd (not_inf_of_finite hf) (by rw [q]; decide)) (fun _ => h)
theorem via_trunc (hf : Float64.isFinite x = true) (h : Q (.int (toInt Float64.truncOf x) s.toks) { s with toks := s.toks + 1 }) (hA : A.handled = none) : wpAny (model prog w) A (call (.builtin "math.trunc") [.float x t]) Q E s :=
  call_trunc_float hA (fun q => absurd (not_nan_of_finite hf) (by rw [q]; decide)) (fun q => absurd (not_inf_of_finite hf) (by rw [q]; decide)) (fun _ => h)
theorem via_int (hf : Float64.isFinite x = true) (h : Q (.int (toInt Float64.truncOf x) s.toks) { s with toks := s.toks + 1 }) (hA : A.handled = none) : wpAny (model prog w) A (call (.type "int") [.float x t]) Q E s :=
  call_int_float3 hA (fun q => absurd (not_nan_of_finite hf) (by rw [q]; decide)) (fun q => absurd (not_inf_of_finite hf) (by rw [q]; decide)) (fun _ => h)
theorem r_floor_q (hx : x = FQ a) (ha : B a) (h : Q (.int (a / 4) s.toks) { s with toks := s.toks + 1 }) (hA : A.handled = none) : wpAny (model prog w) A (call (.builtin "math.floor") [.float x t]) Q E s := by
  subst hx
  refine via_floor (fq_fin ha.n) ?_ hA
  rw [fq_floor ha.n]; exact h
theorem r_floor_i (hs : S33 n k) (h : Q (.int (n / k) s.toks) { s with toks := s.toks + 1 }) (hA : A.handled = none) : wpAny (model prog w) A (call (.builtin "math.floor") [.float (FI n k) t]) Q E s := by
  refine via_floor (fr_fin hs.small) ?_ hA
  unfold FI
  rw [fr_floor hs.small]
  have e : ((k.natAbs : Nat) : Int) = k := by have := hs.1; omega
  rw [e]; exact h
theorem tq_nonneg {n d : Int} (h : 0 ≤ n) : tq n d = n / d := if_neg (by omega)
theorem tq_above {n d : Int} (hd : 0 < d) (h : -d < n) : tq n d = max n 0 / d := by
  unfold tq
  split
  · rename_i hn
    rw [Int.ediv_eq_zero_of_lt (by omega) (by omega), Int.max_eq_right (by omega)]
    simp
  · rw [Int.max_eq_left (by omega)]
theorem r_trunc_q (hx : x = FQ a) (ha : B a) (h0 : 0 ≤ a) (h : Q (.int (a / 4) s.toks) { s with toks := s.toks + 1 }) (hA : A.handled = none) : wpAny (model prog w) A (call (.builtin "math.trunc") [.float x t]) Q E s := by
  subst hx
  refine via_trunc (fq_fin ha.n) ?_ hA
  rw [fq_trunc ha.n, tq_nonneg h0]; exact h
theorem r_trunc_i (hs : S33 n k) (h0 : 0 ≤ n) (h : Q (.int (n / k) s.toks) { s with toks := s.toks + 1 }) (hA : A.handled = none) : wpAny (model prog w) A (call (.builtin "math.trunc") [.float (FI n k) t]) Q E s := by
  refine via_trunc (fr_fin hs.small) ?_ hA
  unfold FI
  rw [fr_trunc hs.small, tq_nonneg h0]
  have e : ((k.natAbs : Nat) : Int) = k := by have := hs.1; omega
  rw [e]; exact h
theorem r_trunc_m (hs : S33 n k) (h0 : -k < n) (h : Q (.int (max n 0 / k) s.toks) { s with toks := s.toks + 1 }) (hA : A.handled = none) : wpAny (model prog w) A (call (.builtin "math.trunc") [.float (FI n k) t]) Q E s := by
  refine via_trunc (fr_fin hs.small) ?_ hA
  unfold FI
  have e : ((k.natAbs : Nat) : Int) = k := by have := hs.1; omega
  rw [fr_trunc hs.small, e, tq_above hs.1 h0]
  exact h
theorem r_int_q (hx : x = FQ a) (ha : B a) (h0 : 0 ≤ a) (h : Q (.int (a / 4) s.toks) { s with toks := s.toks + 1 }) (hA : A.handled = none) : wpAny (model prog w) A (call (.type "int") [.float x t]) Q E s := by
  subst hx
  refine via_int (fq_fin ha.n) ?_ hA
  rw [fq_trunc ha.n, tq_nonneg h0]; exact h

theorem cmp_lt_b (a b : Int) : (some (compare a b) == some Ordering.lt) = decide (a < b) := by
  by_cases h : a < b
  · rw [Int.compare_eq_lt.mpr h]; simp [h]
  · have : compare a b ≠ .lt := fun q => h (Int.compare_eq_lt.mp q)
    simp [h]; exact this
theorem cmp_eq_b (a b : Int) : (some (compare a b) == some Ordering.eq) = decide (a = b) := by
  by_cases h : a = b
  · subst h; simp
  · have : compare a b ≠ .eq := fun q => h (Int.compare_eq_eq.mp q)
    simp [h]
theorem cmp_gt_b (a b : Int) : (some (compare a b) == some Ordering.gt) = decide (b < a) := by
  by_cases h : b < a
  · rw [Int.compare_eq_gt.mpr h]; simp [h]
  · have : compare a b ≠ .gt := fun q => h (Int.compare_eq_gt.mp q)
    simp [h]; exact this
theorem r_lt_fi (hx : x = FQ a) (ha : B a) (h : Q (.bool (decide (a < 4 * n))) s) : wpAny (model prog w) A (compareOp .Lt (.float x t) (.int n u)) Q E s := by
  subst hx
  refine lt_fi ?_
  rw [fq_cmpInt ha.n, cmp_lt_b]; exact h
theorem r_ge_ff (hx : x = FQ a) (hy : y = FQ b) (ha : B a) (hb : B b) (h : Q (.bool (decide (b ≤ a))) s) : wpAny (model prog w) A (compareOp .GtE (.float x t) (.float y u)) Q E s := by
  subst hx; subst hy
  refine AutoFloatOps.ge_0 ?_
  rw [fq_cmp ha.n hb.n, cmp_gt_b, cmp_eq_b]
  have : (decide (b < a) || decide (a = b)) = decide (b ≤ a) := by
    rw [← Bool.decide_or]; exact decide_eq_decide.mpr (by omega)
  rw [this]; exact h
theorem r_ne_ff (hx : x = FQ a) (hy : y = FQ b) (ha : B a) (hb : B b) (h : Q (.bool (a != b)) s) : wpAny (model prog w) A (compareOp .NotEq (.float x t) (.float y u)) Q E s := by
  subst hx; subst hy
  refine AutoFloatOps.ne_0 ?_
  rw [fq_cmp ha.n hb.n]
  have : (some (compare a b) != some Ordering.eq) = (a != b) := by
    unfold bne
    rw [cmp_eq_b]
    by_cases h : a = b <;> simp [h]
  rw [this]; exact h
theorem r_mod_ii (hk : 0 < k) (h : Q (.int (n % k) s.toks) { s with toks := s.toks + 1 }) : wpAny (model prog w) A (binaryOp .Mod (.int n t) (.int k u)) Q E s := by
  refine mod_int (by omega) ?_
  rw [Int.fmod_eq_emod_of_nonneg _ (Int.le_of_lt hk)]; exact h
theorem r_fdiv_ii (hk : 0 < k ∧ k ≤ 1000000) (h : Q (.int (n / k) s.toks) { s with toks := s.toks + 1 }) : wpAny (model prog w) A (binaryOp .FloorDiv (.int n t) (.int k u)) Q E s := by
  refine floordiv_int (by omega) ?_ (Or.inl (PyProof.noPylong_small (by omega)))
  rw [Int.fdiv_eq_ediv_of_nonneg _ (Int.le_of_lt hk.1)]; exact h
end

-- the text's float constants
theorem lit_half : (4602678819172646912 : UInt64) = FQ 2 := by decide +kernel
theorem lit_epoch : (4700144277945057280 : UInt64) = FQ 6885702 := by decide +kernel
theorem lit_epochP : (4702353567246188544 : UInt64) = FQ 9497918 := by decide +kernel
theorem lit_365 : (0x4076d40000000000 : UInt64) = FQ 1461 := by decide +kernel
theorem lit_1524 : (0x4097d20000000000 : UInt64) = FQ 6098 := by decide +kernel
theorem lit_58 : (0x404d400000000000 : UInt64) = FQ 234 := by decide +kernel
theorem lit_15 : (0x3ff8000000000000 : UInt64) = FQ 6 := by decide +kernel
end Mine
-- HD
namespace Mine
open PySem PySem.W PyProof.Rows
set_option maxHeartbeats 8000000 in
open_top hd for PySem.Challenge.rw_ak5021_01
end Mine
-- CT
set_option maxRecDepth 100000
namespace Mine
open PySem PySem.W PyProof.Rows

abbrev PostT := (Value → Shared → Prop) → Heap → Addr → (Str → Option Value) → List (Addr × Obj) → Shared → Prop

/-- what a call hands on: a value without an object behind it -/
def RetV (v : Tok → Value) : PostT := fun Q h₀ L m news s =>
  ∀ (t : Tok) (h' : Heap) (tk : Nat), Fr h₀ L h' m → News h₀ L h' news → Q (v t) { s with heap := h', toks := tk }
abbrev RetI (x : Int) : PostT := RetV (fun t => .int x t)
abbrev RetF (x : Int) : PostT := RetV (fun t => .float (FQ x) t)
abbrev RetB (x : Bool) : PostT := RetV (fun _ => .bool x)

def tup3 (a b c : Int) (t1 t2 t3 : Tok) (n : Nat) : Obj := { cls := .type "tuple", data := .seq #[.int a t1, .int b t2, .int c t3] n }
/-- a new tuple of three ints -/
def RetT (a b c : Int) : PostT := fun Q h₀ L m news s =>
  ∀ (D : Addr) (t1 t2 t3 : Tok) (n : Nat) (h' : Heap) (tk : Nat), Fr h₀ L h' m →
    News h₀ L h' ((D, ({ cls := .type "tuple", data := .seq #[.int a t1, .int b t2, .int c t3] n } : Obj)) :: news) → Q (.ref D) { s with heap := h', toks := tk }

/-- a call of the def at f with the arguments vs, wherever it stands -/
def Ct (f : Addr) (d : Nat) (vs : List Value) (P : PostT) : Prop :=
  ∀ (w : World) (loose : List Str) (mean : ExcName → Option Value) (mg mb : Str → Option Value) (dp un : Nat) (gd : Option (List Code)) (cn : Str) (cs : Scope) (a : Addr) (ccd : Value) (cl : List (Str × Addr)) (outer : List Env) (A₀ : Around) (base h₀ : Heap) (L : Addr) (m : Str → Option Value) (news : List (Addr × Obj)) (s : Shared) (Q E : Value → Shared → Prop),
    Below A₀ base outer h₀ → Fr h₀ L s.heap m → (hd.heap_39 w.params).In h₀ → News h₀ L s.heap news → Top hd.view_39 loose mean mg mb h₀ → cs.kind = .function →
    dp + d < recursionLimit → un + 8 * d < cLine → P Q h₀ L m news s →
      wpAny (model PySem.Challenge.rw_ak5021_01.row.prog w) (ktrTop dp un gd cn cs L a ccd cl outer) (call (.ref f) vs) Q E s

theorem Ct.use {f : Addr} {d : Nat} {vs : List Value} {P : PostT} (C : Ct f d vs P) {w : World} {loose : List Str} {mean : ExcName → Option Value} {mg mb : Str → Option Value} {dp un : Nat} {gd : Option (List Code)} {cn : Str} {cs : Scope} {a : Addr} {ccd : Value} {cl : List (Str × Addr)} {outer : List Env} {A₀ : Around} {base h₀ : Heap} {L : Addr} {m : Str → Option Value} {news : List (Addr × Obj)} {s : Shared} {Q E : Value → Shared → Prop}
    (B : Below A₀ base outer h₀) (F : Fr h₀ L s.heap m) (X : (hd.heap_39 w.params).In h₀) (N : News h₀ L s.heap news) (T : Top hd.view_39 loose mean mg mb h₀) (hk : cs.kind = .function)
    (hd : dp + d < recursionLimit) (hu : un + 8 * d < cLine) (ret : P Q h₀ L m news s) :
    wpAny (model PySem.Challenge.rw_ak5021_01.row.prog w) (ktrTop dp un gd cn cs L a ccd cl outer) (call (.ref f) vs) Q E s :=
  C _ _ _ _ _ _ _ _ _ _ _ _ _ _ _ _ _ _ _ _ _ _ _ B F X N T hk hd hu ret

section
variable {h₀ h' : Heap} {L : Addr} {m : Str → Option Value} {news news' : List (Addr × Obj)} {s : Shared} {Q : Value → Shared → Prop} {t t1 t2 t3 : Tok} {tk n : Nat} {D : Addr}
theorem endV {v : Tok → Value} {y : Value} (hret : RetV v Q h₀ L m news s) (F : Fr h₀ L h' m) (N : News h₀ L h' news') (hs : ∀ p ∈ news, p ∈ news') (t : Tok) (e : y = v t) : Q y { s with heap := h', toks := tk } := by
  subst e
  exact hret t h' tk F fun p hp => N p (hs p hp)
theorem endI {x y : Int} (hret : RetI x Q h₀ L m news s) (F : Fr h₀ L h' m) (N : News h₀ L h' news') (hs : ∀ p ∈ news, p ∈ news') (e : y = x) : Q (.int y t) { s with heap := h', toks := tk } :=
  endV hret F N hs t (by rw [e])
theorem endF {x y : Int} {f : UInt64} (hret : RetF x Q h₀ L m news s) (F : Fr h₀ L h' m) (N : News h₀ L h' news') (hs : ∀ p ∈ news, p ∈ news') (hf : f = FQ y) (e : y = x) : Q (.float f t) { s with heap := h', toks := tk } :=
  endV hret F N hs t (by rw [hf, e])
theorem endB {x y : Bool} (hret : RetB x Q h₀ L m news s) (F : Fr h₀ L h' m) (N : News h₀ L h' news') (hs : ∀ p ∈ news, p ∈ news') (e : y = x) : Q (.bool y) { s with heap := h', toks := tk } :=
  endV hret F N hs 0 (by rw [e])
theorem endT {a b c a' b' c' : Int} (hret : RetT a b c Q h₀ L m news s) (F : Fr h₀ L h' m) (N : News h₀ L h' news') (hm : (D, ({ cls := .type "tuple", data := .seq #[.int a' t1, .int b' t2, .int c' t3] n } : Obj)) ∈ news') (hs : ∀ p ∈ news, p ∈ news')
    (e1 : a' = a) (e2 : b' = b) (e3 : c' = c) : Q (.ref D) { s with heap := h', toks := tk } := by
  subst e1; subst e2; subst e3
  refine hret D t1 t2 t3 n h' tk F fun p hp => ?_
  rcases List.mem_cons.mp hp with rfl | hp
  · exact N _ hm
  · exact N p (hs p hp)
end
theorem sub0 {α : Type} {l : List α} : ∀ p ∈ l, p ∈ l := fun _ h => h
theorem subS {α : Type} {l l' : List α} {a : α} (h : ∀ p ∈ l, p ∈ l') : ∀ p ∈ l, p ∈ a :: l' := fun p hp => .tail _ (h p hp)
end Mine
namespace Mine
open PySem PySem.W PyProof.Rows
theorem r_in_top {prog : Program} {w : World} {A : Around} {E : Value → Shared → Prop} {s : Shared} {K : Frag} {h₀ : Heap} {L a : Addr} {m : Str → Option Value} {l : List Value} {ns : List Int} {dd : Option Addr} {sl : Array (Option Value)} {n : Nat} {x : Int} {u : Tok} {Q : Value → Shared → Prop}
    (F : Fr h₀ L s.heap m) (X₀ : K.In h₀) (hl : K.lookup a = some ⟨.type "tuple", dd, .seq l.toArray n, sl⟩) (hi : IntsAre l ns) (h : Q (.bool (ns.any (· == x))) s) :
    wpAny (model prog w) A (compareOp .In (.int x u) (.ref a)) Q E s := in_tuple_ints (tupK (X₀.keeps F.keep) hl) (by simpa using hi) h
end Mine
namespace Mine
open PySem PySem.W PyProof.Rows
/-- the same with keywords -/
def Ctk (f : Addr) (d : Nat) (vs : List Value) (kw : List (Str × Value)) (P : PostT) : Prop :=
  ∀ (w : World) (loose : List Str) (mean : ExcName → Option Value) (mg mb : Str → Option Value) (dp un : Nat) (gd : Option (List Code)) (cn : Str) (cs : Scope) (a : Addr) (ccd : Value) (cl : List (Str × Addr)) (outer : List Env) (A₀ : Around) (base h₀ : Heap) (L : Addr) (m : Str → Option Value) (news : List (Addr × Obj)) (s : Shared) (Q E : Value → Shared → Prop),
    Below A₀ base outer h₀ → Fr h₀ L s.heap m → (hd.heap_39 w.params).In h₀ → News h₀ L s.heap news → Top hd.view_39 loose mean mg mb h₀ → cs.kind = .function →
    dp + d < recursionLimit → un + 8 * d < cLine → P Q h₀ L m news s →
      wpAny (model PySem.Challenge.rw_ak5021_01.row.prog w) (ktrTop dp un gd cn cs L a ccd cl outer) (call (.ref f) vs kw) Q E s
theorem Ctk.use {f : Addr} {d : Nat} {vs : List Value} {kw : List (Str × Value)} {P : PostT} (C : Ctk f d vs kw P) {w : World} {loose : List Str} {mean : ExcName → Option Value} {mg mb : Str → Option Value} {dp un : Nat} {gd : Option (List Code)} {cn : Str} {cs : Scope} {a : Addr} {ccd : Value} {cl : List (Str × Addr)} {outer : List Env} {A₀ : Around} {base h₀ : Heap} {L : Addr} {m : Str → Option Value} {news : List (Addr × Obj)} {s : Shared} {Q E : Value → Shared → Prop}
    (B : Below A₀ base outer h₀) (F : Fr h₀ L s.heap m) (X : (hd.heap_39 w.params).In h₀) (N : News h₀ L s.heap news) (T : Top hd.view_39 loose mean mg mb h₀) (hk : cs.kind = .function)
    (hd : dp + d < recursionLimit) (hu : un + 8 * d < cLine) (ret : P Q h₀ L m news s) :
    wpAny (model PySem.Challenge.rw_ak5021_01.row.prog w) (ktrTop dp un gd cn cs L a ccd cl outer) (call (.ref f) vs kw) Q E s :=
  C _ _ _ _ _ _ _ _ _ _ _ _ _ _ _ _ _ _ _ _ _ _ _ B F X N T hk hd hu ret
end Mine

namespace Mine
open PySem PySem.W PyProof.Rows
structure Mark (k : Nat) (x : Int) : Prop where
  intro ::
theorem re_store {M : Model} {A : Around} {E : Value → Shared → Prop} {s : Shared} {env : Env} {nm : Str} {k : Nat} {x y : Int} {t : Tok} {Q : Unit → Shared → Prop} (mk : Mark k y) (e : x = y) (h : wpAny M A (storeName env nm (.int y t)) Q E s) : wpAny M A (storeName env nm (.int x t)) Q E s := e ▸ h
end Mine
-- FX
set_option maxRecDepth 100000
namespace Mine
open PySem PySem.W PyProof.Rows PySem.Flt

def monTab (i : Fin 12) (j : Fin 3) (k : Fin 2) : Bool :=
  let x := Float64.add (Float64.add (FI (367 * ((i.val : Int) + 1) - 362) 12) (Float64.ofInt (-(j.val : Int)))) (Float64.ofInt (1 + 27 * (k.val : Int)))
  Float64.isFinite x && toInt Float64.floorOf x == (367 * ((i.val : Int) + 1) - 362) / 12 + -(j.val : Int) + (1 + 27 * (k.val : Int))
theorem monTab_all : ∀ i j k, monTab i j k = true := by decide +kernel
theorem mon_floor {m a d : Int} (hm : 1 ≤ m ∧ m ≤ 12) (ha : -2 ≤ a ∧ a ≤ 0) (hd : d = 1 ∨ d = 28) :
    Float64.isFinite (Float64.add (Float64.add (FI (367 * m - 362) 12) (Float64.ofInt a)) (Float64.ofInt d)) = true ∧
    toInt Float64.floorOf (Float64.add (Float64.add (FI (367 * m - 362) 12) (Float64.ofInt a)) (Float64.ofInt d)) = (367 * m - 362) / 12 + a + d := by
  have h := monTab_all ⟨(m - 1).toNat, by omega⟩ ⟨(-a).toNat, by omega⟩ ⟨((d - 1) / 27).toNat, by omega⟩
  unfold monTab at h
  have e1 : (((m - 1).toNat : Nat) : Int) + 1 = m := by omega
  have e2 : -(((-a).toNat : Nat) : Int) = a := by omega
  have e3 : 1 + 27 * ((((d - 1) / 27).toNat : Nat) : Int) = d := by omega
  simp only [e1, e2, e3, Bool.and_eq_true, beq_iff_eq] at h
  exact h
theorem c306 : (Float64.isFinite (Float64.mul 0x403e99a027525461 (Float64.ofInt 4)) = true ∧ toInt Float64.floorOf (Float64.mul 0x403e99a027525461 (Float64.ofInt 4)) = 122) ∧
    (Float64.isFinite (Float64.mul 0x403e99a027525461 (Float64.ofInt 5)) = true ∧ toInt Float64.floorOf (Float64.mul 0x403e99a027525461 (Float64.ofInt 5)) = 153) := by decide +kernel

section
variable {prog : Program} {w : World} {A : Around} {E : Value → Shared → Prop} {s : Shared} {n k m a d : Int} {t u : Tok} {Q : Value → Shared → Prop}
theorem x_mon1 (ha : B a) (h : Q (.float (Float64.add (FI n 12) (Float64.ofInt a)) s.toks) { s with toks := s.toks + 1 }) : wpAny (model prog w) A (binaryOp .Add (.float (FI n 12) t) (.int a u)) Q E s :=
  add_fi_fits ha.fit h
theorem x_mon2 (ha : B d) (h : Q (.float (Float64.add (Float64.add (FI n 12) (Float64.ofInt a)) (Float64.ofInt d)) s.toks) { s with toks := s.toks + 1 }) : wpAny (model prog w) A (binaryOp .Add (.float (Float64.add (FI n 12) (Float64.ofInt a)) t) (.int d u)) Q E s :=
  add_fi_fits ha.fit h
theorem x_mon3 (hm : 1 ≤ m ∧ m ≤ 12) (ha : -2 ≤ a ∧ a ≤ 0) (hd : d = 1 ∨ d = 28) (h : Q (.int ((367 * m - 362) / 12 + a + d) s.toks) { s with toks := s.toks + 1 }) (hA : A.handled = none) :
    wpAny (model prog w) A (call (.builtin "math.floor") [.float (Float64.add (Float64.add (FI (367 * m - 362) 12) (Float64.ofInt a)) (Float64.ofInt d)) t]) Q E s := by
  refine via_floor (mon_floor hm ha hd).1 ?_ hA
  rw [(mon_floor hm ha hd).2]; exact h
theorem x_306a (ha : B n) (h : Q (.float (Float64.mul 0x403e99a027525461 (Float64.ofInt n)) s.toks) { s with toks := s.toks + 1 }) : wpAny (model prog w) A (binaryOp .Mult (.float 0x403e99a027525461 t) (.int n u)) Q E s :=
  mul_fi_fits ha.fit h
theorem x_306b (ha : n = 4 ∨ n = 5) (h : Q (.int (306001 * n / 10000) s.toks) { s with toks := s.toks + 1 }) (hA : A.handled = none) :
    wpAny (model prog w) A (call (.builtin "math.floor") [.float (Float64.mul 0x403e99a027525461 (Float64.ofInt n)) t]) Q E s := by
  rcases ha with rfl | rfl
  · refine via_floor c306.1.1 ?_ hA
    rw [c306.1.2]; exact h
  · refine via_floor c306.2.1 ?_ hA
    rw [c306.2.2]; exact h
end

theorem om1 (y : Int) (b : Bool) (x : Int) (h : x = if b = true then 1 else 2) : x ≤ 2 := by omega
theorem om2 (y x : Int) (h : x = max y 0) : x ≥ 0 := by omega
end Mine
-- XR
set_option maxRecDepth 100000
namespace Mine
open PySem PySem.W PyProof.Rows PySem.Calls

/-- an exception at e with its note T, seen from what stands in B; fl: where it flies -/
structure XAt (B : Heap) (l : List Env) (e T : Addr) (oe : Obj) (vs : Array Value) (fl : Value) (h : Heap) : Prop where
  stays : B.StaysIn h
  frames : h.FunFrames B l
  new : B.get? e = none
  he : h.get? e = some oe
  hd : oe.data = .fields vs
  h1 : vs[1]? = some (.ref T)
  nT : B.get? T = none
  ne : T ≠ e
  hT : ∃ oT ts, h.get? T = some oT ∧ oT.data = .fields ts ∧ ts[3]? = some fl

section
variable {M : Model} {A : Around} {E : Value → Shared → Prop} {s : Shared} {B : Heap} {env : Env} {outer l : List Env} {L e T : Addr} {oe : Obj} {vs : Array Value} {fl : Value}

theorem x_note {Q : Unit → Shared → Prop} (hfr : A.frames = some (env :: outer)) (hl : s.heap.FunFrames B (env :: outer)) (hf : env.frame = some L)
    (he : s.heap.get? e = some oe) (hkb : B.StaysIn s.heap) (hen : B.get? e = none) (hd : oe.data = .fields vs) (h1 : vs[1]? = some .none)
    (h : ∀ h' T, XAt B (env :: outer) e T (Obj.mapFields (·.setIfInBounds 1 (.ref T)) oe) (vs.setIfInBounds 1 (.ref T)) (rawInt L) h' → s.heap.UpToSlots h' → Q () { s with heap := h' }) :
    wpAny M A (noteFrame (.ref e) env) Q E s := by
  have hsz : 1 < vs.size := (Array.getElem?_eq_some_iff.mp h1).1
  have hene : e ∉ (env :: outer).filterMap (·.frame) := fun hm => by
    obtain ⟨_, o, ho, hnf⟩ := hl.mem hm
    rw [he] at ho; injection ho with ho; subst ho; exact hnf vs hd
  unfold noteFrame
  simp only [hf]
  refine wpAny_bind (wpAny_field he hd h1 ?_)
  rw [if_neg (by decide)]
  refine wpAny_bind (wpAny_frameOf_fun hfr hl hf fun h₁ hs₁ => ?_)
  refine wpAny_bind (wpAny_entryPlaceOf fun pl hpl => ?_)
  unfold EntryCells.newEntry newFields
  refine wpAny_bind (wpAny_newObj_type ?_ (hpl.sizeOk5 _ _ _ _ _))
  have he₁ : h₁.get? e = some oe := (hs₁.2.1 e hene).trans he
  have kb₁ : B.StaysIn h₁ := fun b o hbo => (hs₁.2.1 b fun hm => by rw [(hl.mem hm).1] at hbo; cases hbo).trans (hkb b o hbo)
  obtain ⟨oT, hoT⟩ : ∃ oT : Obj, oT = { cls := .type "traceback", dict := none, data := .fields ([Value.none, .ref L, .none, rawInt L, .none] ++ (if pl.isEmpty then List.replicate 6 Value.none else pl)).toArray } := ⟨_, rfl⟩
  have hT3 : ∃ ts, oT.data = .fields ts ∧ ts[3]? = some (rawInt L) := ⟨_, by rw [hoT], by first | (simp; done) | (rcases hpl with rfl | ⟨_, _, _, _, _, _, _, rfl⟩ <;> simp)⟩
  rw [← hoT]
  have he₂ := Heap.get?_push_of_some (h := h₁) oT he₁
  refine wpAny_setField he₂ hd hsz (h _ h₁.objs.size ?_ ?_)
  all_goals
    have hTe : h₁.objs.size ≠ e := Nat.ne_of_gt (Heap.lt_size he₁)
    have hd₃ := Obj.data_mapFields hd (·.setIfInBounds 1 (Value.ref h₁.objs.size))
    have keep : ∀ b o, b ≠ e → h₁.get? b = some o → ((h₁.push oT).update e (Obj.mapFields (·.setIfInBounds 1 (Value.ref h₁.objs.size)))).get? b = some o :=
      fun b o hbe hb => by
        rw [Heap.get?_update_other _ _ (Ne.symm hbe)]
        exact Heap.get?_push_of_some _ hb
    have noRecord : ∀ b o, s.heap.get? b = some o → (∀ vs, o.data ≠ .fields vs) → b ≠ e := fun b o hb hnf q => by
      rw [q, he] at hb; injection hb with hb; subst hb; exact hnf vs hd
  · have hfree : oT.isFreed = false := by
      obtain ⟨ts, h8, _⟩ := hT3
      exact Obj.isFreed_of_fields h8
    have he₃ := Heap.get?_update_self (Obj.mapFields (·.setIfInBounds 1 (Value.ref h₁.objs.size))) he₂ (Obj.isFreed_of_fields hd₃)
    have hT₃ := (Heap.get?_update_other (h₁.push oT) (Obj.mapFields (·.setIfInBounds 1 (Value.ref h₁.objs.size))) (Ne.symm hTe)).trans (Heap.get?_push_size h₁ hfree)
    obtain ⟨ts, h8, h9⟩ := hT3
    refine ⟨fun b o hbo => keep b o (fun q => by rw [q, hen] at hbo; cases hbo) (kb₁ b o hbo), hl.of_keeps fun b o hb hnf => ?_, hen, he₃, hd₃, by simp [hsz], kb₁.fresh, hTe, oT, ts, hT₃, h8, h9⟩
    obtain ⟨sl, hs⟩ := hs₁.2.2 b o hb
    exact ⟨_, keep b _ (noRecord b o hb hnf) hs, rfl⟩
  · intro b o hb hnf
    obtain ⟨sl, hs⟩ := hs₁.2.2 b o hb
    exact ⟨sl, keep b _ (noRecord b o hb hnf) hs⟩

theorem x_flight {Q : Unit → Shared → Prop} (X : XAt B l e T oe vs fl s.heap) (frame : Option Addr) (h : ∀ h', XAt B l e T oe vs (frame.elim .none fun f => rawInt f) h' → s.heap.UpToSlots h' → Q () { s with heap := h' }) :
    wpAny M A (setFlight (.ref e) frame) Q E s := by
  obtain ⟨k1, k2, k3, he, hd, h1, k4, hTe, oT, ts, hT, hdT, h3⟩ := X
  have hsz3 : 3 < ts.size := (Array.getElem?_eq_some_iff.mp h3).1
  have other : ∀ b, b ≠ T → (s.heap.update T (Obj.mapFields (·.setIfInBounds 3 (frame.elim .none fun f => rawInt f)))).get? b = s.heap.get? b := fun b hb => Heap.get?_update_other _ _ (Ne.symm hb)
  have noRecord : ∀ b o, s.heap.get? b = some o → (∀ vs, o.data ≠ .fields vs) → b ≠ T := fun b o hb hnf q => by
    rw [q, hT] at hb; injection hb with hb; subst hb; exact hnf ts hdT
  unfold setFlight
  refine wpAny_bind (wpAny_field he hd h1 ?_)
  rw [if_pos (show (Value.ref T != Value.none) = true from by simp)]
  refine wpAny_setField hT hdT hsz3 (h _ ⟨fun b o hbo => (other b fun q => by rw [q, k4] at hbo; cases hbo).trans (k1 b o hbo), k2.of_keeps fun b o hb hnf => ⟨o, (other b (noRecord b o hb hnf)).trans hb, rfl⟩, k3, (other e (Ne.symm hTe)).trans he, hd, h1, k4, hTe, _, _, Heap.get?_update_self _ hT (Obj.isFreed_of_fields (Obj.data_mapFields hdT _)), Obj.data_mapFields hdT _, by simp [hsz3]⟩
    fun b o hb hnf => ⟨o.slots, (other b (noRecord b o hb hnf)).trans hb⟩)

theorem x_again {Q : Unit → Shared → Prop} (hf : env.frame = some L) (X : XAt B l e T oe vs (rawInt L) s.heap) (h : Q () s) : wpAny M A (noteFrame (.ref e) env) Q E s := by
  obtain ⟨k1, k2, k3, he, hd, h1, k4, hTe, oT, ts, hT, hdT, h3⟩ := X
  unfold noteFrame
  simp only [hf]
  refine wpAny_bind (wpAny_field he hd h1 ?_)
  rw [if_pos (show (Value.ref T != Value.none) = true from by simp)]
  refine wpAny_bind (wpAny_field hT hdT h3 ?_)
  rw [if_pos (show (rawInt L == rawInt L) = true from by simp)]
  exact wpAny_pure h

theorem x_passOn {what : String} {N : Value → Shared → Prop} (X : XAt B l e T oe vs fl s.heap)
    (h : ∀ h', XAt B l e T oe vs (env.frame.elim .none fun f => rawInt f) h' → s.heap.UpToSlots h' → N (.ref e) { s with heap := h' }) : wpAny M A (PySem.passOn what (.ref e) env : Sem Flow) (fun _ _ => False) N s := by
  unfold PySem.passOn
  refine wpAny_bind (wpAny_field X.he X.hd X.h1 ?_)
  rw [if_neg (show ¬ ((Value.ref T == Value.none) = true) from by simp)]
  exact wpAny_bind (x_flight X _ fun h' X' U => wpAny_throw (h h' X' U))

theorem x_cameBack {E' : Value → Shared → Prop} (X : XAt B l e T oe vs fl s.heap)
    (h : ∀ h', XAt B l e T oe vs (env.frame.elim .none fun f => rawInt f) h' → s.heap.UpToSlots h' → E' (.ref e) { s with heap := h' }) : cameBackBy M A env E' (.ref e) s := by
  unfold cameBackBy
  refine wpAny_bind (wpAny_field X.he X.hd X.h1 ?_)
  rw [if_neg (show ¬ ((Value.ref T == Value.none) = true) from by simp)]
  exact x_flight X _ h
end

theorem XAt.flying {B : Heap} {l : List Env} {e T : Addr} {oe : Obj} {vs : Array Value} {h : Heap} {X : Value} (x : XAt B l e T oe vs .none h) (hc : oe.cls = X) : ∃ a0, Heap.FlyingW B l e X a0 h := by
  obtain ⟨k1, k2, k3, he, hd, h1, k4, hTe, oT, ts, hT, hdT, h3⟩ := x
  have hsz : 1 < vs.size := (Array.getElem?_eq_some_iff.mp h1).1
  exact ⟨vs[0], k1, k3, k2, oe, vs, T, oT, ts, he, ⟨hc, Array.getElem?_eq_getElem (by omega)⟩, hd, h1, k4, hTe, hT, hdT, h3⟩

theorem frames_same {h h' B : Heap} {L : Addr} (same : ∀ b, b ≠ L → h'.get? b = h.get? b) : ∀ {l : List Env}, h.FunFrames B l → L ∉ l.filterMap (·.frame) → h'.FunFrames B l
  | [], _, _ => trivial
  | env :: r, ⟨hk, ⟨b, o, hf, hn, ho, hd⟩, hr⟩, hL => by
    rw [List.filterMap_cons, hf] at hL
    exact ⟨hk, ⟨b, o, hf, hn, (same b fun q => hL (q ▸ .head _)).trans ho, hd⟩, frames_same same hr fun q => hL (.tail _ q)⟩

/-- after the exception's own frame has let go of the name -/
theorem XAt.named {B h h' : Heap} {env : Env} {outer : List Env} {L e T : Addr} {oe : Obj} {vs : Array Value} {fl : Value} {m m' : Str → Option Value} (x : XAt B (env :: outer) e T oe vs fl h) (hf : env.frame = some L) (hn : h.Ns L m)
    (hL : B.get? L = none) (hLo : L ∉ outer.filterMap (·.frame)) (hn' : h'.Ns L m') (hs : Heap.SameBut L h h') : XAt B (env :: outer) e T oe vs fl h' := by
  obtain ⟨k1, k2, k3, he, hd, h1, k4, hTe, oT, ts, hT, hdT, h3⟩ := x
  have notL : ∀ b o, h.get? b = some o → (∃ ws, o.data = .fields ws) → b ≠ L := fun b o hb ⟨ws, hw⟩ q => by
    obtain ⟨oL, es, ep, hoL, hdL, _⟩ := hn
    rw [q, hoL] at hb
    cases hb
    rw [hdL] at hw
    cases hw
  have hsame : ∀ b, b ≠ L → h'.get? b = h.get? b := fun b hb => hs.2 b hb
  refine ⟨fun b o hb => (hsame b fun q => by rw [q, hL] at hb; cases hb).trans (k1 b o hb), ?_, k3, (hsame e (notL e oe he ⟨_, hd⟩)).trans he, hd, h1, k4, hTe, oT, ts, (hsame T (notL T oT hT ⟨_, hdT⟩)).trans hT, hdT, h3⟩
  exact Heap.FunFrames.cons k2.1 hf hn' hL (frames_same hsame k2.2.2 hLo)

section
variable {prog : Program} {w : World} {A₀ : Around} {E : Value → Shared → Prop} {s' : Shared} {base g h : Heap} {outer : List Env} {L a e : Addr} {m : Str → Option Value} {name : Str} {scope : Scope} {cd : Value}
  {n : Str} {b₀ : Stmt} {suite : List Stmt} {pos np : Pos} {rest : List ExceptHandler} {Q : Flow → Shared → Prop} {KF : Frag}
  {p : Program} {loose : List Str} {mean : ExcName → Option Value} {mg mb : Str → Option Value} {x : Str} {X T' : String}
theorem x_caught (K : Below A₀ base outer g) (F : Fr g L h m) (hx : Heap.NewExc h s'.heap e X) (XB : KF.In base) (TB : Top p loose mean mg mb base)
    (hni : nsIn KF mainGlobals x = some none) (hv : bootBuiltins x = some (.type T')) (hxn : x ≠ "__name__")
    (hexc : isSubtype (.type T') (.type "BaseException") = pure true) (hnt : isSubtype (.type ((Manifest.find? T').elim "type" fun y => y.metatype)) (.type "tuple") = pure false) (hsub : isSubtype (.type X) (.type T') = pure true)
    (k : ∀ h' g' tk oe vs, KtsTurn (outer.filterMap (·.frame)) g g' → Fr g' L h' (fun y => if y = n then some (.ref e) else m y) → News g' L h' [(e, oe)] → Below A₀ base outer g' → KF.In g' → Top p loose mean mg mb g' → oe.cls = .type X → oe.data = .fields vs → vs[2]? = some .none →
      wpAny (model prog w) ((A₀.deeper (envOf name scope L a cd)).mark (some (.ref e))) (execs (b₀ :: suite) (envOf name scope L a cd))
        (fun f s₄ => wpAny (model prog w) (A₀.deeper (envOf name scope L a cd)) (do bindName (envOf name scope L a cd) n .none; unbindBehindTheSuite (envOf name scope L a cd) n pos) (fun _ s₅ => Q f s₅) E s₄)
        (AsSuiteRaised (model prog w) ((A₀.deeper (envOf name scope L a cd)).mark (some (.ref e))) (envOf name scope L a cd) n pos (notedBy (model prog w) ((A₀.deeper (envOf name scope L a cd)).mark (some (.ref e))) (envOf name scope L a cd) (cameBackBy (model prog w) (A₀.deeper (envOf name scope L a cd)) (envOf name scope L a cd) E)))
        { s' with heap := h', toks := tk })
    (hk : scope.kind = .function := by rfl) (hlo : (envOf name scope L a cd).kindOf n = some .local := by rfl) (hxk : (envOf name scope L a cd).kindOf x = some .globalImplicit := by rfl) (hdb : (x == ("__debug__" : Str)) = false := by decide) :
    wpAny (model prog w) (A₀.deeper (envOf name scope L a cd)) (noteFrame (.ref e) (envOf name scope L a cd))
      (fun _ s₂ => wpAny (model prog w) (A₀.deeper (envOf name scope L a cd)) (setFlight (.ref e) none) (fun _ s₃ =>
        wpAny (model prog w) (A₀.deeper (envOf name scope L a cd)) (handleBy (.ref e) (envOf name scope L a cd) (.ExceptHandler (some (.Name x np)) (some n) (b₀ :: suite) pos :: rest)) Q E s₃) E s₂) E s' := by
  have K' := K.push (name := name) (a := a) (cd := cd) F hk
  have hin : ∀ env ∈ (envOf name scope L a cd :: outer), ∀ b, env.frame = some b → b ∈ (envOf name scope L a cd :: outer).filterMap (·.frame) := fun env he b hb => List.mem_filterMap.mpr ⟨env, he, hb⟩
  have hBG : ∀ b o, h.get? b = some o → b ∉ (envOf name scope L a cd :: outer).filterMap (·.frame) → (hideAll h ((envOf name scope L a cd :: outer).filterMap (·.frame))).get? b = some o := fun b o q nm => hideAll_get _ q nm
  obtain ⟨ob, tp, he, hcls, hd⟩ := hx.there
  have hen : (hideAll h ((envOf name scope L a cd :: outer).filterMap (·.frame))).get? e = none := by
    cases q : (hideAll h ((envOf name scope L a cd :: outer).filterMap (·.frame))).get? e with
    | none => rfl
    | some o => have := of_hideAll _ q; rw [hx.new] at this; cases this
  refine x_note K'.stack ((funFrames_hide K'.frames hin).of_keeps fun b o hb _ => ⟨o, hx.keeps b o hb, rfl⟩) rfl he (fun b o hb => hx.keeps b o (of_hideAll _ hb)) hen hd rfl fun h₁ T X₁ U₁ => ?_
  refine x_flight X₁ none fun h₂ X₂ U₂ => ?_
  have hsm₂ : h.UpToSlots h₂ := (Heap.UpToSlots.of_keeps hx.keeps).trans (U₁.trans U₂)
  obtain ⟨g₂, T₂, F₂, K₂⟩ := kts_ground K F hBG X₂.stays hsm₂
  have hcls₂ : (Obj.mapFields (·.setIfInBounds 1 (Value.ref T)) ob).cls = .type X := (Obj.cls_mapFields _ _).trans hcls
  refine wpAny_handleBy_builtin_as (X := X) (T := T') (b := true) hexc hnt hsub (name_B F₂ (XB.keeps K₂.stays) (topRead_of (TB.keeps K₂.stays)) hni hv hxn ⟨rfl, ⟨_, X₂.he, hcls₂⟩, ?_⟩ hk hxk hdb)
  rw [if_pos rfl]
  refine x_flight X₂ none fun h₃ X₃ U₃ => ?_
  obtain ⟨g₃, T₃, F₃, K₃⟩ := kts_ground K F hBG X₃.stays (hsm₂.trans U₃)
  have heL : e ≠ L := fun q => by
    obtain ⟨oL, es, ep, hoL, hdL, _⟩ := F₃.ns
    have h9 := X₃.he
    rw [q, hoL] at h9
    cases h9
    have h8 := X₃.hd
    rw [hdL] at h8
    cases h8
  have N₃ : News g₃ L h₃ [(e, _)] := fun q hq => by
    rcases List.mem_cons.mp hq with rfl | hq
    · exact ⟨X₃.he, heL, T₃.none_ _ (kts_none F.keep hx.new)⟩
    · exact nomatch hq
  exact stN F₃ N₃ (fun h₄ F₄ N₄ => k h₄ g₃ _ _ _ T₃ F₄ N₄ K₃ (XB.keeps K₃.stays) (TB.keeps K₃.stays) hcls₂ X₃.hd rfl) hk hlo
end
end Mine
-- XS
set_option maxRecDepth 100000
set_option maxHeartbeats 2000000
namespace Mine
open PySem PySem.W PyProof.Rows PySem.Calls
theorem entry_unchain : entryFor table "proto.unchain" = some Builtin.«proto.unchain» := entryFor_of_tree (by kernel_rfl)
theorem ve_isExc : isSubtype (.type "ValueError") (.type "BaseException") = pure true := PySem.F.isExc_ValueError
def HoldX (P : Prop) : Prop := P
theorem HoldX.mk {P : Prop} (h : HoldX P) : P := h
section
variable {prog : Program} {w : World} {A : Around} {E : Value → Shared → Prop} {s : Shared} {env : Env}
/-- the last steps of a raise with a cause, of a new exception e, while e1 is held -/
theorem x_raiseNew {α : Type} {e e1 : Addr} {oe o1 : Obj} {vs ws : Array Value} {Q : α → Shared → Prop} (hh : A.handled = some (.ref e1)) (hne : e1 ≠ e) (he : s.heap.get? e = some oe) (hd : oe.data = .fields vs) (hsz : 2 < vs.size)
    (h1 : s.heap.get? e1 = some o1) (hd1 : o1.data = .fields ws) (h12 : ws[2]? = some .none) (h : E (.ref e) { s with heap := s.heap.update e (Obj.mapFields (·.setIfInBounds 2 (.ref e1))) }) :
    wpAny (model prog w) A (raiseNew (.ref e) : Sem α) Q E s := by
  unfold raiseNew
  refine wpAny_bind (wpAny_handled ?_)
  rw [hh]
  dsimp only
  rw [if_pos (show (Value.ref e1 != Value.ref e) = true from by simp [hne])]
  refine wpAny_bind (wpAny_holding (wpAny_runValue (codeAny_builtin entry_unchain ?_)))
  unfold Builtin.«proto.unchain»
  dsimp only
  refine wpAny_bind (wpAny_field h1 hd1 h12 ?_)
  rw [if_pos (by decide)]
  show wpAny _ _ (pure (Fin.done (Flow.ret Value.none))) _ _ _
  refine wpAny_pure ?_
  dsimp only
  refine wpAny_bind (show wpAny _ _ (setField (.ref e) 2 (.ref e1)) _ _ _ from wpAny_setField he hd hsz ?_)
  exact wpAny_throw h
theorem x_raiseStmt {cls : String} (FR : ExcRaiseFacts cls) {X : String} {e1 : Addr} {x c : Sem Value} {Q : Flow → Shared → Prop} (hX : isSubtype (.type X) (.type "BaseException") = pure true) (hh : A.handled = some (.ref e1))
    (h : wpAny (model prog w) A x (fun v s₁ => wpAny (model prog w) A c (fun cv s₂ => ∃ e t o1 ws, v = .ref e ∧ cv = .ref e1 ∧ e1 ≠ e ∧ s₂.heap.get? e = some { cls := .type cls, data := .fields #[.ref t, .none, .none, .none, .bool false, .none] } ∧
      s₂.heap.get? e1 = some o1 ∧ o1.cls = .type X ∧ o1.data = .fields ws ∧ ws[2]? = some .none ∧
      ∀ h'', (∀ b, b ≠ e → h''.get? b = s₂.heap.get? b) → h''.get? e = some { cls := .type cls, data := .fields #[.ref t, .none, .ref e1, .ref e1, .bool true, .none] } → E (.ref e) { s₂ with heap := h'' }) E s₁) E s) :
    wpAny (model prog w) A (raiseStmt env (some x) (some c)) Q E s := by
  unfold raiseStmt
  refine wpAny_bind (wpAny_mono h (fun v s₁ h₁ => ?_) fun _ _ x => x)
  refine wpAny_bind (wpAny_holding (wpAny_mono h₁ (fun cv s₂ h₂ => wpAny_bind (wpAny_pure ?_)) fun _ _ x => x))
  dsimp only
  obtain ⟨e, t, o1, ws, rfl, rfl, hne, he, h1, hc1, hd1, h12, hE⟩ := h₂
  obtain ⟨hp, g, d, tk, os⟩ := s₂
  have hsub := FR.isExc
  have hmeta := FR.plainMeta
  obtain ⟨oc, od, odt, osl⟩ := o1
  simp only at hc1 hd1
  subst hc1
  subst hd1
  repeat (first | refine wpAny_loadPart he ?_ | refine wpAny_loadPart h1 ?_ | wp_step)
  have ha := Heap.get?_update_self (Obj.mapFields (·.setIfInBounds 3 (Value.ref e1))) he rfl
  have hb := Heap.get?_update_self (Obj.mapFields (·.setIfInBounds 4 (Value.bool true))) ha rfl
  have hc := Heap.get?_update_self (Obj.mapFields (·.setIfInBounds 2 (Value.ref e1))) hb rfl
  have o1' : ((hp.update e (Obj.mapFields (·.setIfInBounds 3 (Value.ref e1)))).update e (Obj.mapFields (·.setIfInBounds 4 (Value.bool true)))).get? e1 = hp.get? e1 :=
    (Heap.get?_update_other _ _ (Ne.symm hne)).trans (Heap.get?_update_other _ _ (Ne.symm hne))
  refine x_raiseNew hh hne hb rfl (by simp) (o1'.trans h1) rfl h12 ?_
  refine hE _ (fun b hbe => ?_) hc
  exact (Heap.get?_update_other _ _ (Ne.symm hbe)).trans ((Heap.get?_update_other _ _ (Ne.symm hbe)).trans (Heap.get?_update_other _ _ (Ne.symm hbe)))

theorem x_Raise_from {cls newId initId : String} (FC : ExcCallFacts cls newId initId) (FR : ExcRaiseFacts cls) {X : String} {e1 : Addr} {x : Str} {np cpos pos : Pos} {e₀ c : PySem.Expr} {rest : List PySem.Expr} {Q : Flow → Shared → Prop}
    (hX : isSubtype (.type X) (.type "BaseException") = pure true) (hh : A.handled = some (.ref e1))
    (h : wpAny (model prog w) A (eval (.Name x np) env) (fun f s₁ => f = .type cls ∧ wpAny (model prog w) A (spliced (backTo cpos (starEach (e₀ :: rest) env)))
      (fun vs s₂ => vs.length ≤ sizeLine ∧ HoldX (∀ h' e t, (∀ b o, s₂.heap.get? b = some o → h'.get? b = some o) → s₂.heap.get? e = none → h'.get? e = some { cls := .type cls, data := .fields #[.ref t, .none, .none, .none, .bool false, .none] } →
        wpAny (model prog w) A (eval c env) (fun cv s₃ => cv = .ref e1 ∧ s₃.heap = h' ∧ e1 ≠ e ∧ ∃ o1 ws, h'.get? e1 = some o1 ∧ o1.cls = .type X ∧ o1.data = .fields ws ∧ ws[2]? = some .none ∧
          ∀ h'', (∀ b, b ≠ e → h''.get? b = h'.get? b) → h''.get? e = some { cls := .type cls, data := .fields #[.ref t, .none, .ref e1, .ref e1, .bool true, .none] } → E (.ref e) { s₃ with heap := h'' }) E { s₂ with heap := h' })) E s₁) E s)
    (he : starEach (e₀ :: rest) env = (false, eval e₀ env) :: starEach rest env := by rfl) (hplain : (backTo cpos (starEach rest env)).any (·.1) = false := by rfl) :
    wpAny (model prog w) A (exec (.Raise (some (.Call (.Name x np) (e₀ :: rest) [] cpos)) (some c) pos) env) Q E s := by
  rw [arm_exec_Raise]
  show wpAny (model prog w) A (do standAt pos; raiseStmt env (some (do let v ← eval (.Call (.Name x np) (e₀ :: rest) [] cpos) env; standAt pos; pure v)) (some (do let v ← eval c env; standAt pos; pure v))) Q E s
  refine wpAny_bind (wpAny_standAt (x_raiseStmt FR hX hh ?_))
  refine wpAny_bind (wpAny_Call_ofName (wpAny_mono h (fun f s₁ h₁ => ?_) fun _ _ x => x))
  obtain ⟨rfl, h₁⟩ := h₁
  refine callWith_excType (by rw [he]; show (false || (backTo cpos (starEach rest env)).any (·.1)) = false; rw [hplain]; rfl) ?_
  rw [he] at h₁ ⊢
  refine Calls.evalArgs_plain (wpAny_mono h₁ (fun vs s₂ h₂ => ?_) fun _ _ y => y)
  obtain ⟨hlen, h₂⟩ := h₂
  obtain ⟨hp, g, d, tk, os⟩ := s₂
  refine wpAny_call_exc FC (hrest := hlen) fun h' e hm => ?_
  obtain ⟨t, ht, _, _⟩ := hm.there
  refine wpAny_bind (wpAny_standAt (wpAny_pure ?_))
  refine wpAny_bind (wpAny_mono (h₂ h' e t hm.keeps hm.new ht) (fun cv s₃ h₃ => wpAny_bind (wpAny_standAt (wpAny_pure ?_))) fun _ _ x => x)
  obtain ⟨rfl, hs, hne, o1, ws, k1, k2, k3, k4, k5⟩ := h₃
  subst hs
  exact ⟨e, t, o1, ws, rfl, rfl, hne, ht, k1, k2, k3, k4, k5⟩
end

theorem x_leave {prog : Program} {w : World} {A₀ : Around} {E' E'' : Value → Shared → Prop} {s : Shared} {base g : Heap} {outer : List Env} {L a e : Addr} {m : Str → Option Value} {name : Str} {scope : Scope} {cd : Value} {n : Str} {pos : Pos} {o2 : Obj} {vs : Array Value} {X : Value} {hh : Option Value}
    (K : Below A₀ base outer g) (F : Fr g L s.heap m) (he : s.heap.get? e = some o2) (hg : g.get? e = none) (hc : o2.cls = X) (hd : o2.data = .fields vs) (h1 : vs[1]? = some .none)
    (hE : ∀ h' tk a0, Heap.FlyingW base outer e X a0 h' → g.UpToSlots h' → E' (.ref e) { s with heap := h', toks := tk })
    (hk : scope.kind = .function := by rfl) (hlo : (envOf name scope L a cd).kindOf n = some .local := by rfl) :
    AsSuiteRaised (model prog w) ((A₀.deeper (envOf name scope L a cd)).mark hh) (envOf name scope L a cd) n pos
      (notedBy (model prog w) ((A₀.deeper (envOf name scope L a cd)).mark hh) (envOf name scope L a cd) (cameBackBy (model prog w) (A₀.deeper (envOf name scope L a cd)) (envOf name scope L a cd)
        (fun x s' => wpAny (model prog w) (A₀.deeper (envOf name scope L a cd)) (leaving (envOf name scope L a cd) x) (fun _ s'' => E' x s'') (fun x' s'' => E'' x' s'') s'))) (.ref e) s := by
  have K' := K.push (name := name) (a := a) (cd := cd) F hk
  have hen : base.get? e = none := kts_none K.stays hg
  have hL0 : g.get? L = none := kts_self F
  have hL : base.get? L = none := kts_none K.stays hL0
  have hLo : L ∉ outer.filterMap (·.frame) := fun hm => by
    obtain ⟨_, o, ho, _⟩ := K.frames.mem hm
    rw [hL0] at ho; cases ho
  refine x_note (A := (A₀.deeper (envOf name scope L a cd)).mark hh) K'.stack K'.frames rfl he K'.stays hen hd h1 fun h₁ T X₁ U₁ => ?_
  have hn₁ : h₁.Ns L m := U₁.ns F.ns
  refine wpAny_nameGoes hlo hn₁ (by show (scope.kind == .class || (scope.kind == .module && L != mainGlobals)) = false; rw [hk]; rfl) fun h₂ m₂ hn₂ hs₂ => ?_
  have X₂ := X₁.named rfl hn₁ hL hLo hn₂ hs₂
  have U₂ : g.UpToSlots h₂ := fun b o hb hnf => by
    obtain ⟨sl, hsl⟩ := ((Heap.UpToSlots.of_keeps F.keep).trans U₁) b o hb hnf
    exact ⟨sl, (hs₂.2 b fun (q : b = L) => by rw [q, hL0] at hb; cases hb).trans hsl⟩
  refine x_passOn X₂ fun h₃ X₃ U₃ => ?_
  refine x_again rfl X₃ ?_
  refine x_cameBack X₃ fun h₄ X₄ U₄ => ?_
  show wpAny _ _ (leaving _ _) _ _ _
  unfold leaving
  refine wpAny_bind (x_again rfl X₄ ?_)
  refine x_flight X₄ none fun h₅ X₅ U₅ => ?_
  obtain ⟨a0, k1, k2, ⟨_, _, k3⟩, k4⟩ := X₅.flying (X := X) ((Obj.cls_mapFields _ _).trans hc)
  exact hE h₅ _ a0 ⟨k1, k2, k3, k4⟩ (U₂.trans (U₃.trans (U₄.trans U₅)))

theorem x_raised {prog : Program} {w : World} {A₀ : Around} {E' E'' EE : Value → Shared → Prop} {hp : Heap} {gs : Array GenState} {dr : Drawn} {tk₀ : Nat} {os : OsState} {base h₀ g₀ g : Heap} {outer : List Env} {L₀ L a e1 : Addr} {m₀ m : Str → Option Value} {name : Str} {scope : Scope} {cd : Value} {n : Str} {np pos : Pos} {oe : Obj} {ws : Array Value} {X cls : String} {hh : Option Value} {news : List (Addr × Obj)}
    (K : Below A₀ base outer g) (T : KtsTurn (outer.filterMap (·.frame)) g₀ g) (FG : Fr h₀ L₀ g₀ m₀) (F : Fr g L hp m) (N : News g L hp news) (hm : m n = some (.ref e1)) (hN : (e1, oe) ∈ news) (hc : oe.cls = .type X) (hd : oe.data = .fields ws) (h2 : ws[2]? = some .none)
    (hE : ∀ e a0 h' tk, Heap.FlyingW base outer e (.type cls) a0 h' → h₀.UpToSlots h' → h'.Ns L₀ m₀ → E' (.ref e) ⟨h', gs, dr, tk, os⟩)
    (hk : scope.kind = .function := by rfl) (hlo : (envOf name scope L a cd).kindOf n = some .local := by rfl) (hdb : (n == ("__debug__" : Str)) = false := by decide) :
    ∀ h' e t, (∀ b o, hp.get? b = some o → h'.get? b = some o) → hp.get? e = none → h'.get? e = some { cls := .type cls, data := .fields #[.ref t, .none, .none, .none, .bool false, .none] } →
      wpAny (model prog w) ((A₀.deeper (envOf name scope L a cd)).mark hh) (eval (.Name n np) (envOf name scope L a cd)) (fun cv s₃ => cv = .ref e1 ∧ s₃.heap = h' ∧ e1 ≠ e ∧ ∃ o1 ws, h'.get? e1 = some o1 ∧ o1.cls = .type X ∧ o1.data = .fields ws ∧ ws[2]? = some .none ∧
        ∀ h'', (∀ b, b ≠ e → h''.get? b = h'.get? b) → h''.get? e = some { cls := .type cls, data := .fields #[.ref t, .none, .ref e1, .ref e1, .bool true, .none] } →
          AsSuiteRaised (model prog w) ((A₀.deeper (envOf name scope L a cd)).mark hh) (envOf name scope L a cd) n pos
            (notedBy (model prog w) ((A₀.deeper (envOf name scope L a cd)).mark hh) (envOf name scope L a cd) (cameBackBy (model prog w) (A₀.deeper (envOf name scope L a cd)) (envOf name scope L a cd)
              (fun x s' => wpAny (model prog w) (A₀.deeper (envOf name scope L a cd)) (leaving (envOf name scope L a cd) x) (fun _ s'' => E' x s'') (fun x' s'' => E'' x' s'') s'))) (.ref e) { s₃ with heap := h'' }) EE ⟨h', gs, dr, tk₀, os⟩ := by
  intro h' e t kp hnew he
  have F' : Fr g L h' m := ⟨F.ns.keeps kp, fun b o q => kp b o (F.keep b o q), F.above⟩
  refine wpAny_Name (wpAny_loadName_local hk hlo F'.ns hm ?_) hdb
  have h1 := N.get hN
  have hne : e1 ≠ e := fun q => by rw [q, hnew] at h1; cases h1
  have hg : g.get? e = none := kts_none F.keep hnew
  refine ⟨rfl, rfl, hne, oe, ws, kp _ _ h1, hc, hd, h2, fun h'' hs he' => ?_⟩
  have U : h'.UpToSlots h'' := fun b o hb hnf => ⟨o.slots, (hs b fun q => by
    rw [q, he] at hb
    cases hb
    exact hnf _ rfl).trans hb⟩
  have F'' : Fr g L h'' m := ⟨U.ns F'.ns, fun b o q => (hs b fun z => by rw [z, hg] at q; cases q).trans (F'.keep b o q), F'.above⟩
  refine x_leave K F'' he' hg rfl rfl rfl (fun h3 tk a0 fl up => ?_) hk hlo
  have up0 : g₀.UpToSlots h3 := Heap.UpToSlots.trans (fun b o hb _ => T.up hb) up
  exact hE e a0 h3 tk fl ((Heap.UpToSlots.of_keeps FG.keep).trans up0) (up0.ns FG.ns)

theorem x_topcatch {prog : Program} {w : World} {A : Around} {E : Value → Shared → Prop} {s : Shared} {base : Heap} {outer : List Env} {L a e : Addr} {m : Str → Option Value} {cn : Str} {cs : Scope} {ccd a0 : Value} {cl : List (Str × Addr)} {x : Str} {X T' : String} {np pos : Pos} {b₀ : Stmt} {suite : List Stmt} {rest : List ExceptHandler} {Q : Flow → Shared → Prop} {KF : Frag}
    {p : Program} {loose : List Str} {mean : ExcName → Option Value} {mg mb : Str → Option Value}
    (hfr : A.frames = some (envX cn cs L a ccd cl :: outer)) (fl : Heap.FlyingW base (envX cn cs L a ccd cl :: outer) e (.type X) a0 s.heap) (ns : s.heap.Ns L m) (above : base.objs.size ≤ L) (XB : KF.In base) (TB : Top p loose mean mg mb base)
    (hni : nsIn KF mainGlobals x = some none) (hv : bootBuiltins x = some (.type T')) (hxn : x ≠ "__name__")
    (hexc : isSubtype (.type T') (.type "BaseException") = pure true) (hnt : isSubtype (.type ((Manifest.find? T').elim "type" fun y => y.metatype)) (.type "tuple") = pure false) (hsub : isSubtype (.type X) (.type T') = pure true)
    (k : ∀ h', Fr base L h' m → wpAny (model prog w) (A.mark (some (.ref e))) (execs (b₀ :: suite) (envX cn cs L a ccd cl)) Q (notedBy (model prog w) (A.mark (some (.ref e))) (envX cn cs L a ccd cl) (cameBackBy (model prog w) A (envX cn cs L a ccd cl) E)) { s with heap := h' })
    (hk : cs.kind = .function) (hx : (envX cn cs L a ccd cl).kindOf x = some .globalImplicit) (hdb : (x == ("__debug__" : Str)) = false) :
    wpAny (model prog w) A (noteFrame (.ref e) (envX cn cs L a ccd cl))
      (fun _ s₂ => wpAny (model prog w) A (setFlight (.ref e) none) (fun _ s₃ => wpAny (model prog w) A (handleBy (.ref e) (envX cn cs L a ccd cl) (.ExceptHandler (some (.Name x np)) none (b₀ :: suite) pos :: rest)) Q E s₃) E s₂) E s := by
  refine wpAny_looks_onW hfr rfl fl fun h₄ held U₄ => ?_
  refine wpAny_landsW held fun h₅ fl₅ U₅ => ?_
  have U45 := U₄.trans U₅
  have F₅ : Fr base L h₅ m := ⟨U45.ns ns, fl₅.1, above⟩
  refine wpAny_handleBy_builtin (X := X) (T := T') (b := true) hexc hnt hsub (nameX_B F₅ XB (topRead_of TB) hni hv hxn ⟨rfl, fl₅.there, ?_⟩ hk hx hdb)
  rw [if_pos rfl]
  refine lands_againW fl₅ fun h₆ fl₆ U₆ => ?_
  exact k h₆ ⟨(U45.trans U₆).ns ns, fl₆.1, above⟩
end Mine
-- DT
set_option maxRecDepth 100000
namespace Mine
open PySem PySem.Calls PySem.Spec PyProof.Rows
open Sem (wp)

theorem mro_date : mroOf (.type "datetime.date") = pure [.type "datetime.date", .type "object"] := by rw [mroOf_type]; kernel_rfl
theorem lookup_date_new : typeLookup (.type "datetime.date") "__new__" = pure (some (.builtin "datetime.date.__new__")) := by rw [typeLookup_type, builtinLookup_eq_fast]; kernel_rfl
theorem sub_date : isSubtype (.type "datetime.date") (.type "datetime.date") = pure true := by rw [isSubtype_type]; kernel_rfl
theorem sub_date_datetime : isSubtype (.type "datetime.date") (.type "datetime.datetime") = pure false := by rw [isSubtype_type]; kernel_rfl
theorem sub_date_object : isSubtype (.type "datetime.date") (.type "object") = pure true := by rw [isSubtype_type]; kernel_rfl
theorem lookup_date_init : typeLookup (.type "datetime.date") "__init__" = pure (some (.builtin "object.__init__")) := by rw [typeLookup_type, builtinLookup_eq_fast]; kernel_rfl
theorem entry_date_new : entryFor table "datetime.date.__new__" = some Builtin.«datetime.date.__new__» := entryFor_of_tree (by kernel_rfl)
theorem entry_date_iso : entryFor table "datetime.date.isocalendar" = some Builtin.«datetime.date.isocalendar» := entryFor_of_tree (by kernel_rfl)
theorem lookup_date_iso : typeLookup (.type "datetime.date") "isocalendar" = pure (some (.builtin "datetime.date.isocalendar")) := by rw [typeLookup_type, builtinLookup_eq_fast]; kernel_rfl
end Mine
namespace Mine
open PySem PySem.Calls PySem.Spec PyProof.Rows
open Sem (wp)
theorem slot_date_init : Slot "datetime.date" "__init__" "object.__init__" :=
  .of (owner := "object") (n := "__init__") lookup_date_init (by decide +kernel) (by decide +kernel) (by decide +kernel)
    (by first | exact .inl (by decide +kernel) | exact .inr (by decide +kernel)) sub_date_object
theorem slot_date_iso : Slot "datetime.date" "isocalendar" "datetime.date.isocalendar" :=
  .of (owner := "datetime.date") (n := "isocalendar") lookup_date_iso (by decide +kernel) (by decide +kernel) (by decide +kernel)
    (by first | exact .inl (by decide +kernel) | exact .inr (by decide +kernel)) sub_date
theorem plainAttrs_date : PlainAttrs "datetime.date" :=
  ⟨⟨"object.__getattribute__", by rw [typeLookup_type, builtinLookup_eq_fast]; kernel_rfl, by decide +kernel⟩, by rw [typeLookup_type, builtinLookup_eq_fast]; kernel_rfl⟩
theorem type_date_iso : typeOf (.builtin "datetime.date.isocalendar") = pure (.type "method_descriptor") := by show builtinType _ = _; rw [builtinType_eq_fast]; kernel_rfl
theorem called_date : TypeCalled "datetime.date" "datetime.date.__new__" "object.__init__" :=
  ⟨by decide +kernel, by decide +kernel, ⟨_, _, mro_date⟩, madeBy_type mro_date lookup_date_new (by decide +kernel), by decide +kernel, sub_date, slot_date_init⟩
theorem typeCall_date (a b c : Value) : checkTypeCall "datetime.date" ⟨[a, b, c], []⟩ = pure () := by kernel_rfl
theorem newCall_date (a b c : Value) : checkBuiltinCall "datetime.date.__new__" ⟨[.type "datetime.date", a, b, c], []⟩ = pure () := by kernel_rfl
theorem newNe_date : (some "datetime.date.__new__" != some "object.__new__") = true := by decide +kernel
theorem args_object_init_4 (o a b c : Value) : argsOk "object.__init__" ⟨[o, a, b, c], []⟩ := by
  unfold argsOk; rw [signature?_of (id := "object.__init__") (n := ['_', '_', 't', 'i', 'n', 'i', '_', '_']) (o := ['t', 'c', 'e', 'j', 'b', 'o']) (by kernel_rfl) F.owner_object]; kernel_rfl
theorem args_iso (a : Value) : argsOk "datetime.date.isocalendar" ⟨[a], []⟩ := by
  unfold argsOk; kernel_rfl
end Mine
-- DT2
set_option maxRecDepth 100000
namespace Mine
open PySem PySem.Calls PyProof.Rows
open Sem (wp)
open PySem.Builtin PySem.Builtin._datetime

def dateObj (y m d : Int) : Obj := { cls := .type "datetime.date", data := .fields #[rawInt y, rawInt m, rawInt d] }
def dateSpec (y m d : Int) : PySem.Spec := fun _ R s => R (.ok (.ret (.ref s.heap.objs.size))) { s with heap := s.heap.push (dateObj y m d) }

theorem ite_no {c : Prop} [Decidable c] {α : Type} {a b : Sem α} {M : Model} {A : Around} {E : Value → Shared → Prop} {s : Shared} {Q : α → Shared → Prop} (hc : ¬ c) (h : wpAny M A b Q E s) : wpAny M A (if c then a else b) Q E s := by rw [if_neg hc]; exact h
theorem bind_ints (y m d : Int) (t u v : Tok) (hy : 1 ≤ y ∧ y ≤ 9999) (hm : 1 ≤ m ∧ m ≤ 12) (hd : 1 ≤ d ∧ d ≤ 31) {M : Model} {A : Around} {E : Value → Shared → Prop} {s : Shared} {Q : List (Option Int) → Shared → Prop}
    (h : Q [some y, some m, some d] s) :
    wpAny M A (dtBindInts "datetime.date.__new__" "function" ["year", "month", "day"] 3 [.int y t, .int m u, .int d v] []) Q E s := by
  unfold dtBindInts
  obtain ⟨hp, g, dr, tk, os⟩ := s
  repeat (any_goals (first | assumption | wp_step | (refine ite_no (by first | omega | (simp only [Bool.or_eq_true, decide_eq_true_eq]; omega)) ?_)))
end Mine
namespace Mine
open PySem PySem.Calls PyProof.Rows
open Sem (wp)
open PySem.Builtin PySem.Builtin._datetime

set_option maxHeartbeats 8000000 in
theorem meets_date_new (y m d : Int) (t u v : Tok) (hy : 1 ≤ y ∧ y ≤ 9999) (hm : 1 ≤ m ∧ m ≤ 12) (hd : 1 ≤ d ∧ d ≤ 31) (hdm : d ≤ daysInMonth y m) :
    Meets (Builtin.«datetime.date.__new__» ⟨[.type "datetime.date", .int y t, .int m u, .int d v], []⟩) (dateSpec y m d) := by
  refine Meets.of_wp fun prog w A R s hs => ?_
  obtain ⟨hp, g, dr, tk, os⟩ := s
  have f1 := sub_date
  have f2 := sub_date_datetime
  repeat (any_goals (first | assumption | (refine bind_ints y m d t u v hy hm hd ?_) | wp_step | (refine ite_no (by first | omega | (simp only [Bool.or_eq_true, decide_eq_true_eq]; omega)) ?_)))
  all_goals exact ⟨_, rfl, hs⟩

set_option maxHeartbeats 8000000 in
theorem meets_date_iso (a : Addr) (y m d : Int) :
    Meets (Builtin.«datetime.date.isocalendar» ⟨[.ref a], []⟩) (fun A R s => s.heap.get? a = some (dateObj y m d) ∧
      R (.ok (.ret (.ref s.heap.objs.size))) { s with heap := s.heap.push { cls := .type "datetime.IsoCalendarDate", data := .seq #[.int (isoCalendarOf y m d).1 s.toks, .int (isoCalendarOf y m d).2.1 (s.toks + 1), .int (isoCalendarOf y m d).2.2 (s.toks + 2)] }, toks := s.toks + 3 }) := by
  refine Meets.of_wp fun prog w A R s hs => ?_
  obtain ⟨h0, hs⟩ := hs
  unfold dateObj at h0
  obtain ⟨hp, g, dr, tk, os⟩ := s
  have f1 := sub_date
  repeat (any_goals (first | assumption | wp_step | (refine ite_no (by first | omega | (simp only [Bool.or_eq_true, decide_eq_true_eq]; omega)) ?_)))
  all_goals exact ⟨_, rfl, hs⟩
end Mine
namespace Mine
open PySem PySem.Calls PyProof.Rows
open PySem.Builtin PySem.Builtin._datetime
def isoObj (a b c : Int) (t u v : Tok) : Obj := { cls := .type "datetime.IsoCalendarDate", data := .seq #[.int a t, .int b u, .int c v] }
section
variable {prog : Program} {w : World} {A : Around} {E : Value → Shared → Prop} {s : Shared} {h₀ : Heap} {L : Addr} {mm : Str → Option Value} {news : List (Addr × Obj)} {y m d : Int} {t u v : Tok} {Q : Value → Shared → Prop}
theorem r_date (F : Fr h₀ L s.heap mm) (N : News h₀ L s.heap news) (hy : 1 ≤ y ∧ y ≤ 9999) (hm : 1 ≤ m ∧ m ≤ 12) (hd : 1 ≤ d ∧ d ≤ 31) (hdm : d ≤ daysInMonth y m)
    (h : ∀ D h', Fr h₀ L h' mm → News h₀ L h' ((D, dateObj y m d) :: news) → Q (.ref D) { s with heap := h' }) :
    wpAny (model prog w) A (call (.type "datetime.date") [.int y t, .int m u, .int d v]) Q E s := by
  refine callType_new called_date newNe_date (typeCall_date _ _ _) (newCall_date _ _ _) (fun obj => args_object_init_4 obj _ _ _) entry_date_new (meets_date_new y m d t u v hy hm hd hdm) ?_
  refine ⟨?_, h _ _ (F.push _) (N.push F _)⟩
  exact ⟨_, Heap.get?_push_size _ rfl, rfl⟩
theorem r_date_method {D : Addr} {pl : Sem Bool} {Q : Value × List Value → Shared → Prop} (N : News h₀ L s.heap news) (hq : (D, dateObj y m d) ∈ news)
    (h : Q (.builtin "datetime.date.isocalendar", [.ref D]) s) {M : Model} : wpAny M A (getMethod (.ref D) "isocalendar" pl) Q E s :=
  getMethod_builtin (T := "datetime.date") ⟨_, N.get hq, rfl⟩ plainAttrs_date slot_date_iso type_date_iso (fun a e => by cases e; exact ⟨_, N.get hq, rfl⟩) h
theorem r_isocal {D : Addr} (F : Fr h₀ L s.heap mm) (N : News h₀ L s.heap news) (hq : (D, dateObj y m d) ∈ news)
    (h : ∀ D' h', Fr h₀ L h' mm → News h₀ L h' ((D', isoObj (isoCalendarOf y m d).1 (isoCalendarOf y m d).2.1 (isoCalendarOf y m d).2.2 s.toks (s.toks + 1) (s.toks + 2)) :: news) → Q (.ref D') { s with heap := h', toks := s.toks + 3 }) :
    wpAny (model prog w) A (call (.builtin "datetime.date.isocalendar") [.ref D]) Q E s := by
  refine call_meets slot_date_iso ⟨_, N.get hq, rfl⟩ entry_date_iso (args_iso _) (meets_date_iso D y m d) ⟨N.get hq, ?_⟩
  exact h _ _ (F.push _) (N.push F _)
end
end Mine
-- DT3
set_option maxRecDepth 100000
namespace Mine
open PySem PySem.Calls PyProof.Rows PySem.MeetsSeq PySem.SeqAt
open Sem (wp)
open PySem.Builtin PySem.Builtin._datetime

theorem sub_tuple_iso : isSubtype (.type "tuple") (.type "datetime.IsoCalendarDate") = pure false := by rw [isSubtype_type]; kernel_rfl
theorem sub_iso_tuple : isSubtype (.type "datetime.IsoCalendarDate") (.type "tuple") = pure true := by rw [isSubtype_type]; kernel_rfl
theorem slot_iso_ne : Slot "datetime.IsoCalendarDate" (cmpInfo .NotEq).2.1 "tuple.__ne__" :=
  .of (owner := "tuple") (n := "__ne__") (by rw [typeLookup_type, builtinLookup_eq_fast]; kernel_rfl) (by decide +kernel) (by decide +kernel) (by decide +kernel)
    (by first | exact .inl (by decide +kernel) | exact .inr (by decide +kernel)) sub_iso_tuple

theorem eqb_same {prog : Program} {w : World} {A : Around} {E : Value → Shared → Prop} {s : Shared} {x : Int} {t t' : Tok} {Q : Bool → Shared → Prop} (h : Q true s) : wpAny (model prog w) A (eqBool (.int x t) (.int x t')) Q E s := by
  have := EqAt.int_int (A := A) (s := s) x t x t' prog w E Q
  rw [beq_self_eq_true] at this
  exact this h
set_option maxHeartbeats 8000000 in
theorem meets_iso_ne (l b : Addr) (x y z x' y' z' : Int) (t u v t' u' v' : Tok) (n : Nat) (h1 : x = x') (h2 : y = y') (h3 : z = z') :
    Meets (Builtin.«tuple.__ne__» ⟨[.ref l, .ref b], []⟩)
      (fun _ R s => s.heap.get? l = some (isoObj x y z t u v) ∧ s.heap.get? b = some { cls := .type "tuple", data := .seq #[.int x' t', .int y' u', .int z' v'] n } ∧ R (.ok (.ret (.bool false))) s) := by
  refine Meets.of_wp fun prog w A R s hs => ?_
  obtain ⟨hl, hb, hs⟩ := hs
  subst h1; subst h2; subst h3
  unfold isoObj at hl
  obtain ⟨hp, g, dr, tk, os⟩ := s
  have f2 := AutoSeq1.sub_tuple_tuple
  repeat (any_goals (first | assumption | ((with_reducible show wpAny _ _ (eqBool _ _) _ _ _); refine eqb_same ?_) | wp_step))
  all_goals exact ⟨_, rfl, hs⟩
end Mine

namespace Mine
open PySem PySem.Calls PyProof.Rows PySem.MeetsSeq PySem.SeqAt
open PySem.Builtin PySem.Builtin._datetime
theorem r_iso_ne {prog : Program} {w : World} {A : Around} {E : Value → Shared → Prop} {s : Shared} {h₀ : Heap} {L D D' : Addr} {news : List (Addr × Obj)} {x y z x' y' z' : Int} {t u v t' u' v' : Tok} {n : Nat} {Q : Value → Shared → Prop}
    (N : News h₀ L s.heap news) (hd : (D, isoObj x y z t u v) ∈ news) (hd' : (D', ({ cls := .type "tuple", data := .seq #[.int x' t', .int y' u', .int z' v'] n } : Obj)) ∈ news)
    (h1 : x = x') (h2 : y = y') (h3 : z = z') (hu : A.units < cLine) (h : Q (.bool false) s) : wpAny (model prog w) A (compareOp .NotEq (.ref D) (.ref D')) Q E s := by
  show wpAny _ A (richCompare .NotEq _ _) Q E s
  refine rc_left_or (Ta := "datetime.IsoCalendarDate") (Tb := "tuple") ⟨_, N.get hd, rfl⟩ ⟨_, N.get hd', rfl⟩ (by decide) sub_tuple_iso slot_iso_ne ?_ (.inr hu)
  exact call_meets slot_iso_ne ⟨_, N.get hd, rfl⟩ F.entry_tuple_ne (F.args_tuple_ne_2 _ _) (meets_iso_ne D D' x y z x' y' z' t u v t' u' v' n h1 h2 h3) ⟨N.get hd, N.get hd', nofun, h⟩
end Mine
-- CF
set_option maxRecDepth 100000
namespace Mine
open PySem PySem.W PyProof.Rows PyProof.Rows.LCg PyProof.Rows.LCt

def Hold (P : Prop) : Prop := P
theorem Hold.mk {P : Prop} (h : Hold P) : P := h
theorem holdT {S P : Prop} {x : Int} {t : Tok} (hs : S) (hp : P) : Hold (S ∧ P ∧ ∃ t', Value.int x t = .int x t') := ⟨hs, hp, t, rfl⟩
theorem holdF {S P : Prop} (hs : S) (hp : P) : Hold (S ∧ P) := ⟨hs, hp⟩

/-- the ints that a comprehension with a test takes -/
def picks (f : Int → Bool) (g : Int → Int) (a : Int) : Nat → Nat → List Int
  | _, 0 => []
  | i, k + 1 => if f (a + (i : Int)) = true then g (a + (i : Int)) :: picks f g a (i + 1) k else picks f g a (i + 1) k

theorem ints_snoc {ys : List Value} {ns : List Int} {n : Int} {t : Tok} (h : IntsAre ys ns) : IntsAre (ys ++ [.int n t]) (ns ++ [n]) := by
  induction h with
  | nil => exact .cons _ _ .nil
  | cons a b _ ih => exact .cons _ _ ih

theorem compEnd_mono {h₀ : Heap} {L : Addr} {m : Str → Option Value} {s₁ : Shared} {I C D : Addr} {oI oC oD : Obj} {news : List (Addr × Obj)} {r r' : Value → List (Addr × Obj) → Prop} {y : Value} {s₂ : Shared}
    (h : CompEnd h₀ L m s₁ I oI C oC D oD (fun _ => True) r y s₂) (off : Off3 I C D news) (hr : ∀ news', r y news' → (∀ p ∈ news, p ∈ news') ∧ r' y news) : CompEnd h₀ L m s₁ I oI C oC D oD (fun _ => True) r' y s₂ := by
  obtain ⟨h', tk, news', rfl, F, N, o, hS, hq⟩ := h
  obtain ⟨sub, hq'⟩ := hr _ hq
  refine ⟨h', tk, news, rfl, F, fun p hp => N p ?_, off, trivial, hq'⟩
  rcases List.mem_cons.mp hp with rfl | hp
  · exact .head _
  rcases List.mem_cons.mp hp with rfl | hp
  · exact .tail _ (.head _)
  rcases List.mem_cons.mp hp with rfl | hp
  · exact .tail _ (.tail _ (.head _))
  exact .tail _ (.tail _ (.tail _ (sub p hp)))

section
variable {prog : Program} {w : World} {A : Around} {s : Shared} {h₀ : Heap} {L : Addr} {m : Str → Option Value} {env : Env} {ct elt : PySem.Expr} {x : Str} {scope : Scope} {cl : List (Str × Addr)}
theorem comp_fold {f : Int → Bool} {g : Int → Int} {a : Int} {n : Nat} {news : List (Addr × Obj)} {Fin : List Value → List (Addr × Obj) → Prop}
    (turn : ∀ (i : Nat) (t : Tok) (ys : List Value) I oI C oC D m₂ h tk (E' : Value → Shared → Prop), i < n → NsObj oC m₂ → m₂ x = some (.int (a + (i : Int)) t) → Fr h₀ L h m → News h₀ L h ((I, oI) :: (C, oC) :: (D, lst ys) :: news) → Off3 I C D news → ((@Ne Nat I C) ∧ (@Ne Nat I D) ∧ (@Ne Nat C D)) →
      wpAny (model prog w) A (isTrue ct (compEnvC scope cl C env) (eval ct (compEnvC scope cl C env))) (fun ok s' => if ok = true then
        wpAny (model prog w) A (eval elt (compEnvC scope cl C env)) (CompEnd h₀ L m { s with heap := h, toks := tk } I oI C oC D (lst ys) (fun _ => True) (fun y news' => Hold ((∀ p ∈ news, p ∈ news') ∧ f (a + (i : Int)) = true ∧ ∃ t, y = .int (g (a + (i : Int))) t))) E' s'
        else CompEnd h₀ L m { s with heap := h, toks := tk } I oI C oC D (lst ys) (fun _ => True) (fun _ news' => Hold ((∀ p ∈ news, p ∈ news') ∧ f (a + (i : Int)) = false)) Value.none s') E' { s with heap := h, toks := tk })
    (fin : ∀ ys, IntsAre ys (picks f g a 0 n) → Fin ys news) :
    CompRestT prog w A h₀ L m env ct elt x scope cl s (fun _ => True) (fun i v => ∃ t, v = .int (a + (i : Int)) t) Fin n 0 [] news := by
  have key : ∀ (k i : Nat) (ys : List Value) (pre : List Int), i + k = n → IntsAre ys pre → (∀ zs, IntsAre zs (pre ++ picks f g a i k) → Fin zs news) →
      CompRestT prog w A h₀ L m env ct elt x scope cl s (fun _ => True) (fun i v => ∃ t, v = .int (a + (i : Int)) t) Fin k i ys news := by
    intro k
    induction k with
    | zero => intro i ys pre _ hy hf; exact CompRestT.zero (hf ys (by simpa [picks] using hy))
    | succ k ih =>
      intro i ys pre hik hy hf
      refine CompRestT.succ ?_
      intro v I oI C oC D m₂ h tk E' hv hC hx F N off ne
      obtain ⟨t, rfl⟩ := hv
      refine wpAny_mono (turn i t ys I oI C oC D m₂ h tk E' (by omega) hC hx F N off ne) (fun ok s' hq => ?_) fun _ _ e => e
      cases ok with
      | true =>
        simp only [if_true] at hq ⊢
        refine wpAny_mono hq (fun y s₂ hc => ?_) fun _ _ e => e
        refine compEnd_mono hc off fun news' hr => ?_
        obtain ⟨sub, hft, t', rfl⟩ := hr
        refine ⟨sub, ?_⟩
        refine ih (i + 1) _ (pre ++ [g (a + (i : Int))]) (by omega) (ints_snoc hy) fun zs hz => hf zs ?_
        simp only [picks, hft, if_true]
        simpa using hz
      | false =>
        simp only [Bool.false_eq_true, if_false] at hq ⊢
        refine compEnd_mono hq off fun news' hr => ?_
        obtain ⟨sub, hff⟩ := hr
        refine ⟨sub, ?_⟩
        refine ih (i + 1) ys pre (by omega) hy fun zs hz => hf zs ?_
        simp only [picks, hff, Bool.false_eq_true, if_false]
        exact hz
  exact key n 0 [] [] (by omega) .nil (by simpa using fin)
end

theorem picks_mem {f : Int → Bool} {g : Int → Int} {a : Int} : ∀ {k i : Nat} {z : Int}, z ∈ picks f g a i k → ∃ j : Nat, i ≤ j ∧ j < i + k ∧ f (a + (j : Int)) = true ∧ z = g (a + (j : Int))
  | 0, i, z, h => by simp [picks] at h
  | k + 1, i, z, h => by
    unfold picks at h
    by_cases hf : f (a + (i : Int)) = true
    · rw [if_pos hf] at h
      rcases List.mem_cons.mp h with h | h
      · exact ⟨i, by omega, by omega, hf, h⟩
      · obtain ⟨j, h1, h2, h3, h4⟩ := picks_mem h
        exact ⟨j, by omega, by omega, h3, h4⟩
    · rw [if_neg hf] at h
      obtain ⟨j, h1, h2, h3, h4⟩ := picks_mem h
      exact ⟨j, by omega, by omega, h3, h4⟩
theorem picks_ne {f : Int → Bool} {g : Int → Int} {a : Int} : ∀ {k i : Nat} (j : Nat), i ≤ j → j < i + k → f (a + (j : Int)) = true → picks f g a i k ≠ []
  | 0, i, j, h1, h2, _ => by omega
  | k + 1, i, j, h1, h2, h3 => by
    unfold picks
    by_cases hf : f (a + (i : Int)) = true
    · rw [if_pos hf]; simp
    · rw [if_neg hf]
      refine picks_ne j ?_ (by omega) h3
      rcases Nat.lt_or_ge i j with h | h
      · omega
      · have : i = j := by omega
        subst this
        exact absurd h3 hf
theorem picks_len {f : Int → Bool} {g : Int → Int} {a : Int} : ∀ (k i : Nat), (picks f g a i k).length ≤ k
  | 0, i => by simp [picks]
  | k + 1, i => by
    unfold picks
    have := picks_len (f := f) (g := g) (a := a) k (i + 1)
    split
    · simp only [List.length_cons]; omega
    · omega
end Mine
namespace Mine
open PySem
theorem range_size (B : Int) : Builtin.Range.rangeSize B (B + 100) 1 = ((100 : Nat) : Int) := by
  unfold Builtin.Range.rangeSize
  rw [if_pos (by decide), if_pos (by omega)]
  omega
theorem fits_long {x : Int} (h : -200000000000 ≤ x ∧ x ≤ 200000000000) : Builtin.Range.rangeFitsLong x = true := by
  unfold Builtin.Range.rangeFitsLong; simp; omega
theorem range_small (B : Int) (h : -100000000000 ≤ B ∧ B ≤ 100000000000) : Builtin.Range.small B (B + 100) 1 = true := by
  have h1 := fits_long (x := B) (by omega)
  have h2 := fits_long (x := B + 100) (by omega)
  have h3 := fits_long (x := 1) (by omega)
  have h4 := fits_long (x := Builtin.Range.rangeSize B (B + 100) 1) (by rw [range_size]; omega)
  have h5 := fits_long (x := B + 100 + (1 - 1)) (by omega)
  unfold Builtin.Range.small
  simp only [h1, h2, h3, h4, h5, Bool.and_true, Bool.true_and, if_true, gt_iff_lt, Int.zero_lt_one, Bool.or_true]
end Mine
namespace Mine
open PySem PySem.W PyProof.Rows PyProof.Rows.LCg PySem.Calls
def AllP (rs : List Int) (P : Int → Prop) : Prop := ∀ z ∈ rs, P z
theorem ints_at {ys : List Value} {rs : List Int} (h : IntsAre ys rs) : ∀ (j : Nat), j < rs.length → ∃ y t, ys[j]? = some (.int y t) ∧ y ∈ rs := by
  induction h with
  | nil => intro j hj; exact absurd hj (Nat.not_lt_zero _)
  | cons a b _ ih =>
    intro j hj
    cases j with
    | zero => exact ⟨_, _, rfl, .head _⟩
    | succ j =>
      obtain ⟨y, t, h1, h2⟩ := ih j (by simpa using hj)
      exact ⟨y, t, by simpa using h1, .tail _ h2⟩
section
variable {prog : Program} {w : World} {A : Around} {E : Value → Shared → Prop} {s : Shared} {h₀ : Heap} {L D : Addr} {news : List (Addr × Obj)} {ys : List Value} {rs : List Int} {k : Int} {u : Tok} {Q : Value → Shared → Prop}
theorem r_len_lst (N : News h₀ L s.heap news) (hm : (D, lst ys) ∈ news) (hi : IntsAre ys rs) (hf : rs.length ≤ 1000) (h : Q (.int rs.length (s.toks + 1)) { s with toks := s.toks + 1 + 1 }) : wpAny (model prog w) A (call (.builtin "len") [.ref D]) Q E s := by
  have e : (List.toArray ys).size = rs.length := by rw [List.size_toArray]; exact hi.length
  exact call_len_list (News.isList N hm) (by rw [e]; omega) (by rw [e]; exact h)
theorem r_item_lst {value slice : PySem.Expr} {P : Int → Prop} (N : News h₀ L s.heap news) (hm : (D, lst ys) ∈ news) (hi : IntsAre ys rs) (hP : AllP rs P) (hf : rs.length ≤ 1000) (h0 : 0 ≤ k) (h1 : k < (rs.length : Int))
    (h : ∀ y t, P y → Q (.int y t) s) (hs : subscripted slice false (.ref D) (.int k u) = operate [.ref D, .int k u] (getItem (.ref D) (.int k u)) := by with_unfolding_all rfl) :
    wpAny (model prog w) A (subscriptTail value slice (.ref D) (.int k u)) Q E s := by
  obtain ⟨y, t, hy, hmem⟩ := ints_at hi k.toNat (by omega)
  have hl := News.isList N hm
  exact tail_any hl.typeIs slot_list_getitem.lookup (wpAny_getItem_list hl h0 (by omega) (by simpa using hy) (h y t (hP y hmem))) hs
end

theorem gold_hit : ∀ r : Fin 30, ∃ g : Fin 19, (11 * (g.val + 1) + r.val) % 30 = 24 ∨ (11 * (g.val + 1) + r.val) % 30 = 25 := by decide
theorem epact_hit (B : Int) (hB : B % 100 = 0) : ∃ j : Nat, j < 100 ∧ ([24, 25].any (· == epact (B + (j : Int)))) = true := by
  obtain ⟨g, hg⟩ := gold_hit ⟨((20 + (8 * (B / 100 + 1) + 5) / 25 - 5 - (3 * (B / 100 + 1) / 4 - 12)) % 30).toNat, by omega⟩
  dsimp only at hg
  have hg19 := g.isLt
  refine ⟨(((g.val : Int) - B) % 19).toNat, by omega, ?_⟩
  have e1 : (B + ((((g.val : Int) - B) % 19).toNat : Int)) % 19 = g.val := by omega
  have e2 : (B + ((((g.val : Int) - B) % 19).toNat : Int)) / 100 = B / 100 := by omega
  have e3 : epact (B + ((((g.val : Int) - B) % 19).toNat : Int)) = 24 ∨ epact (B + ((((g.val : Int) - B) % 19).toNat : Int)) = 25 := by
    unfold epact
    rw [e1, e2]
    generalize (8 * (B / 100 + 1) + 5) / 25 = p at *
    generalize 3 * (B / 100 + 1) / 4 = q at *
    omega
  rcases e3 with h | h <;> rw [h] <;> decide
theorem rare1 (B : Int) (hB : (1600 ≤ B ∧ B ≤ 1000001600) ∧ B % 100 = 0) : AllP (picks (fun v => [24, 25].any (· == epact v)) (fun v => v) B 0 100) (fun z => 1600 ≤ z ∧ z ≤ 1000001700) ∧ 1 ≤ (picks (fun v => [24, 25].any (· == epact v)) (fun v => v) B 0 100).length ∧ (picks (fun v => [24, 25].any (· == epact v)) (fun v => v) B 0 100).length ≤ 100 := by
  refine ⟨fun z hz => ?_, ?_, picks_len _ _⟩
  · obtain ⟨j, h1, h2, h3, rfl⟩ := picks_mem hz
    constructor <;> omega
  · obtain ⟨j, h1, h2⟩ := epact_hit B hB.2
    have := picks_ne (f := fun v => [24, 25].any (· == epact v)) (g := fun v => v) (a := B) (k := 100) (i := 0) j (by omega) (by omega) h2
    exact List.length_pos_iff.mpr this
theorem old_hit (b : Int) : ∃ j : Nat, j < 28 ∧ (oldS (532 * b + 19 * ((0 : Int) + (j : Int))) 0 != oldS (532 * b + 19 * ((0 : Int) + (j : Int))) 1) = true := by
  have h : ∃ j : Nat, j < 28 ∧ (1461 * ((19 * (j : Int) + 4712) / 4) + 365 * ((19 * (j : Int) + 4712) % 4) + 95) % 7 = 5 := ⟨2, by decide, by decide⟩
  obtain ⟨j, h1, h2⟩ := h
  refine ⟨j, h1, ?_⟩
  rw [bne_iff_ne]
  unfold oldS oldN
  have e1 : (532 * b + 19 * ((0 : Int) + (j : Int)) + 4712) / 4 = 133 * b + (19 * (j : Int) + 4712) / 4 := by omega
  have e2 : (532 * b + 19 * ((0 : Int) + (j : Int)) + 4712) % 4 = (19 * (j : Int) + 4712) % 4 := by omega
  rw [e1, e2]
  omega
theorem rare2 (b : Int) (hb : -10000000 < b ∧ b < 10000000) : AllP (picks (fun v => oldS (532 * b + 19 * v) 0 != oldS (532 * b + 19 * v) 1) (fun v => 532 * b + 19 * v) 0 0 28) (fun z => (-5330000000 ≤ z ∧ z ≤ 5330000000) ∧ z % 19 = 0) ∧ 1 ≤ (picks (fun v => oldS (532 * b + 19 * v) 0 != oldS (532 * b + 19 * v) 1) (fun v => 532 * b + 19 * v) 0 0 28).length ∧ (picks (fun v => oldS (532 * b + 19 * v) 0 != oldS (532 * b + 19 * v) 1) (fun v => 532 * b + 19 * v) 0 0 28).length ≤ 28 := by
  refine ⟨fun z hz => ?_, ?_, picks_len _ _⟩
  · obtain ⟨j, h1, h2, h3, rfl⟩ := picks_mem hz
    refine ⟨⟨by omega, by omega⟩, by omega⟩
  · obtain ⟨j, h1, h2⟩ := old_hit b
    have := picks_ne (f := fun v => oldS (532 * b + 19 * v) 0 != oldS (532 * b + 19 * v) 1) (g := fun v => 532 * b + 19 * v) (a := 0) (k := 28) (i := 0) j (by omega) (by omega) h2
    exact List.length_pos_iff.mpr this
theorem gfirst (y : Int) (b : Bool) : gday y b 1 1 = 1721425 + 365 * (y - 1) + (y - 1) / 4 - (y - 1) / 100 + (y - 1) / 400 + 1 := by unfold gday; simp
theorem westS_b (y : Int) (h : 1600 ≤ y ∧ y ≤ 2000000000) : -3500000000000 ≤ westS y ∧ westS y ≤ 3500000000000 := by
  have h1 := west_law y h.1
  have h2 := wL_bound y
  have h3 := gday_cum y (isLeap y) 3 (wL y + 28)
  have h4 := gfirst y (isLeap y)
  have h5 : cumd (isLeap y) 3 = 60 ∨ cumd (isLeap y) 3 = 59 := by cases isLeap y <;> decide
  omega
theorem oldS_b (y x : Int) (h : (-5330000000 ≤ y ∧ y ≤ 5330000000)) (hx : x = 0 ∨ x = 1) : -3500000000000 ≤ oldS y x ∧ oldS y x ≤ 3500000000000 := by
  unfold oldS oldN; omega
end Mine
set_option maxHeartbeats 4000000
namespace Mine
open PySem PySem.W PyProof.Rows
local macro_rules | `(tactic| walk_at "my fq") => `(tactic| first | with_reducible exact rfl | exact lit_half | exact lit_epoch | exact lit_epochP | exact lit_365 | exact lit_1524 | exact lit_58 | exact lit_15)
local macro_rules | `(tactic| walk_at "my b") => `(tactic| (unfold B; omega))
local macro_rules | `(tactic| walk_at "my s") => `(tactic| (unfold S33; omega))
local macro_rules | `(tactic| walk_at "binaryOp Add int float") => `(tactic| (refine' r_add_if ?kx ?kn ?ka ?_; (case kx => walk_at "my fq"); (case kn => walk_at "my b"); (case ka => walk_at "my b"); try dsimp only))
local macro_rules | `(tactic| walk_at "binaryOp Add float int") => `(tactic| (refine' r_add_fi ?kx ?kn ?ka ?_; (case kx => walk_at "my fq"); (case kn => walk_at "my b"); (case ka => walk_at "my b"); try dsimp only))
local macro_rules | `(tactic| walk_at "inplaceOp Add int float") => `(tactic| (refine' r_iadd_if ?kx ?kn ?ka ?_; (case kx => walk_at "my fq"); (case kn => walk_at "my b"); (case ka => walk_at "my b"); try dsimp only))
local macro_rules | `(tactic| walk_at "binaryOp Sub int float") => `(tactic| (refine' r_sub_if ?kx ?kn ?ka ?_; (case kx => walk_at "my fq"); (case kn => walk_at "my b"); (case ka => walk_at "my b"); try dsimp only))
local macro_rules | `(tactic| walk_at "binaryOp Sub float int") => `(tactic| (refine' r_sub_fi ?kx ?kn ?ka ?_; (case kx => walk_at "my fq"); (case kn => walk_at "my b"); (case ka => walk_at "my b"); try dsimp only))
local macro_rules | `(tactic| walk_at "binaryOp Mult float int") => `(tactic| (refine' r_mul_fi ?kx ?kn ?ka ?ks ?_; (case kx => walk_at "my fq"); (case kn => walk_at "my b"); (case ka => walk_at "my b"); (case ks => omega); try dsimp only))
local macro_rules | `(tactic| walk_at "binaryOp Add float float") => `(tactic| (refine' r_add_ff ?kx ?ky ?kn ?ka ?_; (case kx => walk_at "my fq"); (case ky => walk_at "my fq"); (case kn => walk_at "my b"); (case ka => walk_at "my b"); try dsimp only))
local macro_rules | `(tactic| walk_at "binaryOp Sub float float") => `(tactic| (refine' r_sub_ff ?kx ?ky ?kn ?ka ?_; (case kx => walk_at "my fq"); (case ky => walk_at "my fq"); (case kn => walk_at "my b"); (case ka => walk_at "my b"); try dsimp only))
local macro_rules | `(tactic| walk_at "binaryOp Div int int") => `(tactic| (refine' r_div_ii ?kn ?ka ?_; (case kn => omega); (case ka => walk_at "my b"); try dsimp only))
local macro_rules | `(tactic| walk_at "binaryOp Div float int") => `(tactic| (refine' r_div_fi ?kx ?kn ?ka ?_; (case kx => walk_at "my fq"); (case kn => omega); (case ka => walk_at "my b"); try dsimp only))
local macro_rules | `(tactic| walk_at "binaryOp Mod float int") => `(tactic| (refine' r_mod_fi ?kx ?kn ?ka ?_; (case kx => walk_at "my fq"); (case kn => omega); (case ka => walk_at "my b"); try dsimp only))
local macro_rules | `(tactic| walk_at "binaryOp Mod int int") => `(tactic| (refine' r_mod_ii ?kn ?_; (case kn => omega); try dsimp only))
local macro_rules | `(tactic| walk_at "binaryOp FloorDiv int int") => `(tactic| (refine' r_fdiv_ii ?kn ?_; (case kn => omega); try dsimp only))
local macro_rules | `(tactic| walk_at "call builtin:math.floor") => `(tactic| ((with_reducible show wpAny _ _ (call _ [Value.float _ _]) _ _ _); first | (refine' r_floor_i ?kn ?_ rfl; (case kn => walk_at "my s"); try dsimp only) | (refine' r_floor_q ?kx ?ka ?_ rfl; (case kx => walk_at "my fq"); (case ka => walk_at "my b"); try dsimp only)))
local macro_rules | `(tactic| walk_at "call builtin:math.trunc") => `(tactic| ((with_reducible show wpAny _ _ (call _ [Value.float _ _]) _ _ _); first | (refine' r_trunc_i ?kn ?ka ?_ rfl; (case kn => walk_at "my s"); (case ka => omega); try dsimp only) | (refine' r_trunc_m ?kn ?ka ?_ rfl; (case kn => walk_at "my s"); (case ka => omega); try dsimp only) | (refine' r_trunc_q ?kx ?ka ?kn ?_ rfl; (case kx => walk_at "my fq"); (case ka => walk_at "my b"); (case kn => omega); try dsimp only)))
local macro_rules | `(tactic| walk_at "call type:int") => `(tactic| ((with_reducible show wpAny _ _ (call _ [Value.float _ _]) _ _ _); refine' r_int_q ?kx ?ka ?kn ?_ rfl; (case kx => walk_at "my fq"); (case ka => walk_at "my b"); (case kn => omega); try dsimp only))
local macro_rules | `(tactic| walk_at "compareOp Lt float int") => `(tactic| (refine' r_lt_fi ?kx ?ka ?_; (case kx => walk_at "my fq"); (case ka => walk_at "my b"); try dsimp only))
local macro_rules | `(tactic| walk_at "compareOp GtE float float") => `(tactic| (refine' r_ge_ff ?kx ?ky ?kn ?ka ?_; (case kx => walk_at "my fq"); (case ky => walk_at "my fq"); (case kn => walk_at "my b"); (case ka => walk_at "my b"); try dsimp only))
local macro_rules | `(tactic| walk_at "compareOp NotEq float float") => `(tactic| (refine' r_ne_ff ?kx ?ky ?kn ?ka ?_; (case kx => walk_at "my fq"); (case ky => walk_at "my fq"); (case kn => walk_at "my b"); (case ka => walk_at "my b"); try dsimp only))
local macro_rules | `(tactic| walk_at "my sub") => `(tactic| first | exact sub0 | exact subS sub0 | exact subS (subS sub0) | exact subS (subS (subS sub0)) | exact subS (subS (subS (subS sub0))) | exact subS (subS (subS (subS (subS sub0)))))
-- a contract of a called def: the premises
local macro_rules | `(tactic| walk_at "my use") => `(tactic| (
  (case k1 => k_asm); (case k2 => k_asm); (case k3 => k_asm); (case k4 => k_asm); (case k5 => k_asm); (case kK => first | exact rfl | assumption); (case kd => ktr_room); (case ku => ktr_units)))
local macro_rules | `(tactic| walk_at "my bool") => `(tactic| (rw [Bool.eq_iff_iff]; simp only [beq_iff_eq, bne_iff_ne, Bool.and_eq_true, Bool.or_eq_true, decide_eq_true_eq, Bool.not_eq_true', beq_eq_false_iff_ne]; omega))
local macro_rules | `(tactic| walk_at "compareOp In int ref") => `(tactic| (k_here; (with_reducible show wpAny _ _ (compareOp _ _ (Value.ref 95)) _ _ _); k_dflt (refine' r_in_top ?k1 ?k2 ?k3 ?k4 ?_; (case k1 => k_asm); (case k2 => k_asm); (case k3 => k_is); (case k4 => repeat constructor); k_whole)))
local macro_rules | `(tactic| walk_at "compareOp In int ref") => `(tactic| (k_here; (with_reducible show wpAny _ _ (compareOp _ _ (Value.ref 124)) _ _ _); k_dflt (refine' r_in_top ?k1 ?k2 ?k3 ?k4 ?_; (case k1 => k_asm); (case k2 => k_asm); (case k3 => k_is); (case k4 => repeat constructor); k_whole)))
local macro_rules | `(tactic| walk_at "binaryOp Add float int") => `(tactic| first | (refine' x_mon1 ?ka ?_; (case ka => walk_at "my b"); try dsimp only) | (refine' x_mon2 ?ka ?_; (case ka => walk_at "my b"); try dsimp only))
local macro_rules | `(tactic| walk_at "binaryOp Mult float int") => `(tactic| (refine' x_306a ?ka ?_; (case ka => walk_at "my b"); try dsimp only))
local macro_rules | `(tactic| walk_at "call builtin:math.floor") => `(tactic| ((with_reducible show wpAny _ _ (call _ [Value.float _ _]) _ _ _); first | (refine' x_mon3 ?kn ?ka ?kx ?_ rfl; (case kn => omega); (case ka => omega); (case kx => omega); try dsimp only) | (refine' x_306b ?kn ?_ rfl; (case kn => omega); try dsimp only)))
local macro_rules | `(tactic| walk_at "eval Call") => `(tactic| ((with_reducible show wpAny _ _ (eval (Expr.Call (Expr.Name _ _) _ [] _) _) _ _ _); k_dflt (refine Call_ ?_)))
local macro_rules | `(tactic| walk_at "my enter") => `(tactic| k_dflt (refine' code_def ?k1 ?k2 ?k3 ?k4 ?k5 ?kA ?kF ?kK ?k6 ?k7 ?k8 ?k9 ?kB ?_ ?c2 ?c3 ?c4 ?c5; (case kA => exact rfl); (case kF => exact rfl); (case kK => assumption); (case k1 => k_asm); (case k2 => k_asm); (case k3 => k_asm); (case k4 => k_asm); (case k5 => k_asm); (case k6 => k_is); (case k7 => k_is); (case k8 => ktr_room); (case k9 => first | exact BindsTo.of_eq rfl | exact binds_K (by k_in) rfl (by k_is) rfl rfl rfl); (case c5 => decide); (case kB => exact locs rfl); (case c2 => exact rfl); (case c3 => exact rfl); (case c4 => exact rfl); k_whole; intro g' L' h' FG' F' N' B' X' T'; (try dsimp only); (try k_lift B'); (try k_fold)))
section -- C1
open PySem PySem.W PyProof.Rows
theorem c_jwday (a : Int) (ha : 0 ≤ a ∧ a ≤ 1000000000000000) (t : Tok) : Ct 59 2 [.float (FQ a) t] (RetI ((a + 2) / 4 % 7)) := by
  w_top off
  unfold Ct
  k_fill
  intro w loose mean mg mb dp un gd cn cs fa ccd cl outer A₀ base h₀ L m₀ news s Q E hB hF hK hN hT hk hd hu hret
  refine wpAny_call ?_
  k_dflt cell_enter
  k_steps
  all_goals (refine endI hret (by k_asm) (by k_asm) (by walk_at "my sub") ?_)
  all_goals rfl
local macro_rules | `(tactic| walk_at "call ref") => `(tactic| (k_here; (with_reducible show wpAny _ _ (call (Value.ref 59) _) _ _ _); k_dflt (refine' (c_jwday _ (by omega) _).use ?k1 ?k2 ?k3 ?k4 ?k5 ?kK ?kd ?ku ?_); (case k1 => k_asm); (case k2 => k_asm); (case k3 => k_asm); (case k4 => k_asm); (case k5 => k_asm); (case kK => first | exact rfl | assumption); (case kd => ktr_room); (case ku => ktr_units); intro t9 h9 tk9 F9 N9; (try dsimp only); (try k_sweep); (try k_fold)))
theorem c_wbefore (wd a : Int) (ha : 0 ≤ wd ∧ wd ≤ 6 ∧ 100 ≤ a ∧ a ≤ 900000000000000) (t u : Tok) : Ct 66 4 [.int wd u, .float (FQ a) t] (RetF (a - 4 * ((a - 4 * wd + 2) / 4 % 7))) := by
  w_top off
  unfold Ct
  k_fill
  intro w loose mean mg mb dp un gd cn cs fa ccd cl outer A₀ base h₀ L m₀ news s Q E hB hF hK hN hT hk hd hu hret
  refine wpAny_call ?_
  k_dflt cell_enter
  k_steps
  all_goals (refine endF hret (by k_asm) (by k_asm) (by walk_at "my sub") (by with_reducible exact rfl) ?_)
  all_goals rfl
theorem c_isleap (y : Int) (t : Tok) : Ct 102 2 [.int y t] (RetB (isLeap y)) := by
  w_top off
  unfold Ct
  k_fill
  intro w loose mean mg mb dp un gd cn cs fa ccd cl outer A₀ base h₀ L m₀ news s Q E hB hF hK hN hT hk hd hu hret
  refine wpAny_call ?_
  k_dflt cell_enter
  k_steps
  all_goals (refine endB hret (by k_asm) (by k_asm) (by walk_at "my sub") ?_)
  all_goals (unfold isLeap; walk_at "my bool")
theorem c_leapJ (y : Int) (t : Tok) : Ct 131 2 [.int y t] (RetB (y % 4 == 0)) := by
  w_top off
  unfold Ct
  k_fill
  intro w loose mean mg mb dp un gd cn cs fa ccd cl outer A₀ base h₀ L m₀ news s Q E hB hF hK hN hT hk hd hu hret
  refine wpAny_call ?_
  k_dflt cell_enter
  k_steps
  all_goals (refine endB hret (by k_asm) (by k_asm) (by walk_at "my sub") ?_)
  all_goals rfl
end -- C1
section -- C2
open PySem PySem.W PyProof.Rows
-- C2
local macro_rules | `(tactic| walk_at "call ref") => `(tactic| (k_here; (with_reducible show wpAny _ _ (call (Value.ref 66) _) _ _ _); k_dflt (refine' (c_wbefore _ _ (by omega) _ _).use ?k1 ?k2 ?k3 ?k4 ?k5 ?kK ?kd ?ku ?_); (case k1 => k_asm); (case k2 => k_asm); (case k3 => k_asm); (case k4 => k_asm); (case k5 => k_asm); (case kK => first | exact rfl | assumption); (case kd => ktr_room); (case ku => ktr_units); intro t9 h9 tk9 F9 N9; (try dsimp only); (try k_sweep); (try k_fold)))
local macro_rules | `(tactic| walk_at "pad") => `(tactic| skip)
theorem c_search (wd a : Int) (ha : 0 ≤ wd ∧ wd ≤ 6 ∧ 1000 ≤ a ∧ a ≤ 900000000000) (t u v z : Tok) : Ct 73 6 [.int wd u, .float (FQ a) t, .int (-1) v, .int 1 z] (RetF (a - 4 - 4 * ((a - 4 - 4 * wd + 2) / 4 % 7))) := by
  w_top off
  unfold Ct
  k_fill
  intro w loose mean mg mb dp un gd cn cs fa ccd cl outer A₀ base h₀ L m₀ news s Q E hB hF hK hN hT hk hd hu hret
  refine wpAny_call ?_
  k_dflt cell_enter
  k_steps
  all_goals (refine endF hret (by k_asm) (by k_asm) (by walk_at "my sub") (by with_reducible exact rfl) ?_)
  all_goals omega
local macro_rules | `(tactic| walk_at "call ref") => `(tactic| (k_here; (with_reducible show wpAny _ _ (call (Value.ref 73) _) _ _ _); k_dflt (refine' (c_search _ _ (by omega) _ _ _ _).use ?k1 ?k2 ?k3 ?k4 ?k5 ?kK ?kd ?ku ?_); (case k1 => k_asm); (case k2 => k_asm); (case k3 => k_asm); (case k4 => k_asm); (case k5 => k_asm); (case kK => first | exact rfl | assumption); (case kd => ktr_room); (case ku => ktr_units); intro t9 h9 tk9 F9 N9; (try dsimp only); (try k_sweep); (try k_fold)))
theorem c_prev (wd a : Int) (ha : 0 ≤ wd ∧ wd ≤ 6 ∧ 1000 ≤ a ∧ a ≤ 900000000000) (t u : Tok) : Ct 87 8 [.int wd u, .float (FQ a) t] (RetF (a - 4 - 4 * ((a - 4 - 4 * wd + 2) / 4 % 7))) := by
  w_top off
  unfold Ct
  k_fill
  intro w loose mean mg mb dp un gd cn cs fa ccd cl outer A₀ base h₀ L m₀ news s Q E hB hF hK hN hT hk hd hu hret
  refine wpAny_call ?_
  k_dflt cell_enter
  k_steps
  all_goals (refine endF hret (by k_asm) (by k_asm) (by walk_at "my sub") (by with_reducible exact rfl) ?_)
  all_goals rfl
local macro_rules | `(tactic| walk_at "call ref") => `(tactic| (k_here; (with_reducible show wpAny _ _ (call (Value.ref 87) _) _ _ _); k_dflt (refine' (c_prev _ _ (by omega) _ _).use ?k1 ?k2 ?k3 ?k4 ?k5 ?kK ?kd ?ku ?_); (case k1 => k_asm); (case k2 => k_asm); (case k3 => k_asm); (case k4 => k_asm); (case k5 => k_asm); (case kK => first | exact rfl | assumption); (case kd => ktr_room); (case ku => ktr_units); intro t9 h9 tk9 F9 N9; (try dsimp only); (try k_sweep); (try k_fold)))
theorem c_nweeks (wd a n : Int) (ha : 0 ≤ wd ∧ wd ≤ 6 ∧ 1000 ≤ a ∧ a ≤ 900000000000 ∧ 1 ≤ n ∧ n ≤ 100) (t u v : Tok) : Ct 94 10 [.int wd u, .float (FQ a) t, .int n v] (RetF (28 * n + a - 4 - 4 * ((a - 4 - 4 * wd + 2) / 4 % 7))) := by
  w_top off
  unfold Ct
  k_fill
  intro w loose mean mg mb dp un gd cn cs fa ccd cl outer A₀ base h₀ L m₀ news s Q E hB hF hK hN hT hk hd hu hret
  refine wpAny_call ?_
  k_dflt cell_enter
  k_steps
  all_goals (refine endF hret (by k_asm) (by k_asm) (by walk_at "my sub") (by with_reducible exact rfl) ?_)
  all_goals omega
end -- C2
section -- C3
open PySem PySem.W PyProof.Rows
local macro_rules | `(tactic| walk_at "call ref") => `(tactic| (k_here; (with_reducible show wpAny _ _ (call (Value.ref 102) _) _ _ _); k_dflt (refine' (c_isleap _ _).use ?k1 ?k2 ?k3 ?k4 ?k5 ?kK ?kd ?ku ?_); (case k1 => k_asm); (case k2 => k_asm); (case k3 => k_asm); (case k4 => k_asm); (case k5 => k_asm); (case kK => first | exact rfl | assumption); (case kd => ktr_room); (case ku => ktr_units); intro t9 h9 tk9 F9 N9; (try dsimp only); (try k_sweep); (try k_fold)))
local macro_rules | `(tactic| walk_at "call ref") => `(tactic| (k_here; (with_reducible show wpAny _ _ (call (Value.ref 131) _) _ _ _); k_dflt (refine' (c_leapJ _ _).use ?k1 ?k2 ?k3 ?k4 ?k5 ?kK ?kd ?ku ?_); (case k1 => k_asm); (case k2 => k_asm); (case k3 => k_asm); (case k4 => k_asm); (case k5 => k_asm); (case kK => first | exact rfl | assumption); (case kd => ktr_room); (case ku => ktr_units); intro t9 h9 tk9 F9 N9; (try dsimp only); (try k_sweep); (try k_fold)))
theorem c_legalG (y m d : Int) (hm : 1 ≤ m ∧ m ≤ 12 ∧ 1 ≤ d ∧ d ≤ 28) (t u v : Tok) : Ct 109 4 [.int y t, .int m u, .int d v] (RetB true) := by
  w_top off
  unfold Ct
  k_fill
  intro w loose mean mg mb dp un gd cn cs fa ccd cl outer A₀ base h₀ L m₀ news s Q E hB hF hK hN hT hk hd hu hret
  refine wpAny_call ?_
  k_dflt cell_enter
  k_steps
  all_goals (refine endB hret (by k_asm) (by k_asm) (by walk_at "my sub") ?_)
  all_goals rfl
end -- C3
section -- C5
open PySem PySem.W PyProof.Rows
theorem c_mlenJ' (y m : Int) (hm : m = 3 ∨ m = 4) (t u : Tok) : Ct 138 4 [.int y t, .int m u] (RetI (if m = 3 then 31 else 30)) := by
  rcases hm with rfl | rfl
  all_goals (
  w_top off
  unfold Ct
  k_fill
  intro w loose mean mg mb dp un gd cn cs fa ccd cl outer A₀ base h₀ L m₀ news s Q E hB hF hK hN hT hk hd hu hret
  refine wpAny_call ?_
  k_dflt cell_enter
  k_steps
  all_goals (refine endI hret (by k_asm) (by k_asm) (by walk_at "my sub") ?_)
  all_goals rfl)
local macro_rules | `(tactic| walk_at "call ref") => `(tactic| (k_here; (with_reducible show wpAny _ _ (call (Value.ref 138) _) _ _ _); k_dflt (refine' (c_mlenJ' _ _ (by omega) _ _).use ?k1 ?k2 ?k3 ?k4 ?k5 ?kK ?kd ?ku ?_); (case k1 => k_asm); (case k2 => k_asm); (case k3 => k_asm); (case k4 => k_asm); (case k5 => k_asm); (case kK => first | exact rfl | assumption); (case kd => ktr_room); (case ku => ktr_units); intro t9 h9 tk9 F9 N9; (try dsimp only); (try k_sweep); (try k_fold)))
theorem c_legalJ (y m d : Int) (hm : (m = 3 ∨ m = 4) ∧ 1 ≤ d ∧ d ≤ 30) (t u v : Tok) : Ct 145 6 [.int y t, .int m u, .int d v] (RetB true) := by
  w_top off
  unfold Ct
  k_fill
  intro w loose mean mg mb dp un gd cn cs fa ccd cl outer A₀ base h₀ L m₀ news s Q E hB hF hK hN hT hk hd hu hret
  refine wpAny_call ?_
  k_dflt cell_enter
  k_steps
  all_goals (refine endB hret (by k_asm) (by k_asm) (by walk_at "my sub") ?_)
  all_goals rfl
local macro_rules | `(tactic| walk_at "call ref") => `(tactic| (k_here; (with_reducible show wpAny _ _ (call (Value.ref 145) _) _ _ _); k_dflt (refine' (c_legalJ _ _ _ (by omega) _ _ _).use ?k1 ?k2 ?k3 ?k4 ?k5 ?kK ?kd ?ku ?_); (case k1 => k_asm); (case k2 => k_asm); (case k3 => k_asm); (case k4 => k_asm); (case k5 => k_asm); (case kK => first | exact rfl | assumption); (case kd => ktr_room); (case ku => ktr_units); intro t9 h9 tk9 F9 N9; (try dsimp only); (try k_sweep); (try k_fold)))
theorem c_toJdJ (y m d : Int) (hm : (m = 3 ∨ m = 4) ∧ 1 ≤ d ∧ d ≤ 30 ∧ -10000000000 ≤ y ∧ y ≤ 10000000000) (t u v : Tok) : Ct 152 8 [.int y t, .int m u, .int d v] (RetF (4 * ((1461 * (y + 4716)) / 4 + 306001 * (m + 1) / 10000 + d) - 6098)) := by
  w_top off
  unfold Ct
  k_fill
  intro w loose mean mg mb dp un gd cn cs fa ccd cl outer A₀ base h₀ L m₀ news s Q E hB hF hK hN hT hk hd hu hret
  refine wpAny_call ?_
  k_dflt cell_enter
  k_steps
  all_goals (refine endF hret (by k_asm) (by k_asm) (by walk_at "my sub") (by with_reducible exact rfl) ?_)
  all_goals omega
end -- C5
section -- C4
open PySem PySem.W PyProof.Rows
local macro_rules | `(tactic| walk_at "call ref") => `(tactic| (k_here; (with_reducible show wpAny _ _ (call (Value.ref 109) _) _ _ _); k_dflt (refine' (c_legalG _ _ _ (by omega) _ _ _).use ?k1 ?k2 ?k3 ?k4 ?k5 ?kK ?kd ?ku ?_); (case k1 => k_asm); (case k2 => k_asm); (case k3 => k_asm); (case k4 => k_asm); (case k5 => k_asm); (case kK => first | exact rfl | assumption); (case kd => ktr_room); (case ku => ktr_units); intro t9 h9 tk9 F9 N9; (try dsimp only); (try k_sweep); (try k_fold)))
local macro_rules | `(tactic| walk_at "call ref") => `(tactic| (k_here; (with_reducible show wpAny _ _ (call (Value.ref 102) _) _ _ _); k_dflt (refine' (c_isleap _ _).use ?k1 ?k2 ?k3 ?k4 ?k5 ?kK ?kd ?ku ?_); (case k1 => k_asm); (case k2 => k_asm); (case k3 => k_asm); (case k4 => k_asm); (case k5 => k_asm); (case kK => first | exact rfl | assumption); (case kd => ktr_room); (case ku => ktr_units); intro t9 h9 tk9 F9 N9; (try dsimp only); (try k_sweep); (try k_fold)))
local macro_rules | `(tactic| walk_at "pad") => `(tactic| skip)
theorem c_toJdG (y m d : Int) (hy : -10000000000 ≤ y ∧ y ≤ 10000000000) (hm : 1 ≤ m ∧ m ≤ 12) (h1 : d = 1 ∨ d = 28) (t u v : Tok) : Ct 116 6 [.int y t, .int m u, .int d v] (RetF (4 * gday y (isLeap y) m d - 2)) := by
  w_top off
  unfold Ct
  k_fill
  intro w loose mean mg mb dp un gd cn cs fa ccd cl outer A₀ base h₀ L m₀ news s Q E hB hF hK hN hT hk hd hu hret
  refine wpAny_call ?_
  k_dflt cell_enter
  k_steps
  all_goals (refine endF hret (by k_asm) (by k_asm) (by walk_at "my sub") (by with_reducible exact rfl) ?_)
  all_goals unfold gday
  all_goals ((try split) <;> (try split) <;> first | omega | (exfalso; simp_all; done))
end -- C4
section -- C6
open PySem PySem.W PyProof.Rows

theorem c_toJdG' (y' y m d : Int) (mk : Mark 1 y) (he : y' = y) (hy : -10000000000 ≤ y ∧ y ≤ 10000000000) (hm : 1 ≤ m ∧ m ≤ 12) (h1 : d = 1 ∨ d = 28) (t u v : Tok) : Ct 116 6 [.int y' t, .int m u, .int d v] (RetF (4 * gday y (isLeap y) m d - 2)) := by
  subst he; exact c_toJdG y' m d hy hm h1 t u v
theorem c_isleap' (y' y : Int) (b : Bool) (mk : Mark 1 y) (he : y' = y) (hb : isLeap y = b) (t : Tok) : Ct 102 2 [.int y' t] (RetB b) := by
  subst he; subst hb; exact c_isleap y' t
section
local macro_rules | `(tactic| walk_at "call ref") => `(tactic| (k_here; (with_reducible show wpAny _ _ (call (Value.ref 116) _) _ _ _); k_dflt (refine' (c_toJdG' _ _ _ _ (by assumption) ?ke (by assumption) (by omega) (by omega) _ _ _).use ?k1 ?k2 ?k3 ?k4 ?k5 ?kK ?kd ?ku ?_); (case ke => walk_at "my yr"); (case k1 => k_asm); (case k2 => k_asm); (case k3 => k_asm); (case k4 => k_asm); (case k5 => k_asm); (case kK => first | exact rfl | assumption); (case kd => ktr_room); (case ku => ktr_units); intro t9 h9 tk9 F9 N9; (try dsimp only); (try k_sweep); (try k_fold)))
local macro_rules | `(tactic| walk_at "call ref") => `(tactic| (k_here; (with_reducible show wpAny _ _ (call (Value.ref 102) _) _ _ _); k_dflt (refine' (c_isleap' _ _ _ (by assumption) ?ke (by assumption) _).use ?k1 ?k2 ?k3 ?k4 ?k5 ?kK ?kd ?ku ?_); (case ke => walk_at "my yr"); (case k1 => k_asm); (case k2 => k_asm); (case k3 => k_asm); (case k4 => k_asm); (case k5 => k_asm); (case kK => first | exact rfl | assumption); (case kd => ktr_room); (case ku => ktr_units); intro t9 h9 tk9 F9 N9; (try dsimp only); (try k_sweep); (try k_fold)))

local macro_rules | `(tactic| walk_at "my yr") => `(tactic| first | with_reducible assumption | omega)
local macro_rules | `(tactic| walk_at "my mo") => `(tactic| omega)
local macro_rules | `(tactic| walk_at "ite") => `(tactic| first
  | (refine ite_pos (by (try simp only [decide_eq_true_eq, beq_iff_eq, bne_iff_ne, ne_eq, Bool.false_eq_true, reduceIte]); omega) ?_)
  | (refine ite_neg (by (try simp only [decide_eq_true_eq, beq_iff_eq, bne_iff_ne, ne_eq, Bool.false_eq_true, reduceIte]); omega) ?_))
local macro_rules | `(tactic| walk_at "storeName") => `(tactic| ((with_reducible show wpAny _ _ (storeName _ (PySem.Str.ofString "month") (Value.int _ _)) _ _ _); refine' re_store (k := 2) (by assumption) ?ke ?_; (case ke => (fail_if_success (with_reducible exact rfl)); walk_at "my mo")))
theorem c_fromJdG (y m d N : Int) (hy : -10000000000 ≤ y ∧ y ≤ 10000000000) (hm : 1 ≤ m ∧ m ≤ 12) (h1 : 1 ≤ d ∧ d ≤ mlen (isLeap y) m) (hN9 : N = gday y (isLeap y) m d) (t : Tok) : Ct 123 8 [.float (FQ (4 * N - 2)) t] (RetT y m d) := by
  have mk1 : Mark 1 y := .intro
  have mk2 : Mark 2 m := .intro
  obtain ⟨q, c, e, f, p1, p2, p3, p4, p5, p6, p7, p8⟩ := year_parts y
  have hcum := cum_le (isLeap y) m d hm h1
  have hF1 := first_parts (isLeap y) p1 (by omega)
  have hdd : 1 ≤ d ∧ d ≤ 31 := by
    refine ⟨h1.1, ?_⟩
    have := h1.2
    unfold mlen at this
    (repeat' split at this) <;> omega
  have hu1 : gday y (isLeap y) 1 1 = 1721425 + 365 * (y - 1) + (y - 1) / 4 - (y - 1) / 100 + (y - 1) / 400 + 1 := by unfold gday; simp
  have hu2 : gday y (isLeap y) m d = gday y (isLeap y) 1 1 + ((367 * m - 362) / 12 + (if m ≤ 2 then 0 else if isLeap y = true then -1 else -2) + d - 1) := by rw [hu1]; unfold gday; omega
  have hu3 : gday y (isLeap y) m d = gday y (isLeap y) m 1 + (d - 1) := by unfold gday; omega
  have hmo := month_of (isLeap y) m d _ hm h1 rfl
  obtain ⟨k, hk⟩ : ∃ k, k = (367 * m - 362) / 12 + (if m ≤ 2 then 0 else if isLeap y = true then -1 else -2) + d - 1 := ⟨_, rfl⟩
  rw [← hk] at hcum hu2 hmo
  clear hk hu1
  have hk5 : k ≤ 365 := by have := hcum.2; split at this <;> omega
  have hl5 : k = 365 → isLeap y = true := fun h5 => by
    have := hcum.2
    cases hb : isLeap y
    · rw [hb] at this; simp at this; omega
    · rfl
  have hyr := from_parts p1 (by omega) ⟨hcum.1, hk5⟩ (N := N) (by omega) rfl (fun h5 => p8.mp (hl5 h5))
  have hNb : -4000000000000 ≤ N ∧ N ≤ 4000000000000 := by omega
  have hk0 := hcum.1
  rw [← hN9] at hu2 hu3
  clear hcum h1 p2 p3 p4 p5 p6 p7 p8 hF1 hN9 p1
  w_top off
  unfold Ct
  k_fill
  have hcases : (isLeap y = false ∧ k < 58 ∧ (12 * k + 373) / 367 = m) ∨ (isLeap y = false ∧ (58 ≤ k ∧ k ≤ 364) ∧ (12 * (k + 2) + 373) / 367 = m) ∨ (isLeap y = true ∧ k < 59 ∧ (12 * k + 373) / 367 = m) ∨ (isLeap y = true ∧ 59 ≤ k ∧ (12 * (k + 1) + 373) / 367 = m) := by
    obtain ⟨g1, g2, g3, g4⟩ := hmo
    cases hb : isLeap y
    · have : k ≠ 365 := fun h => by have := hl5 h; rw [hb] at this; cases this
      by_cases h : k < 58
      · exact .inl ⟨rfl, h, g3 hb h⟩
      · exact .inr (.inl ⟨rfl, ⟨by omega, by omega⟩, g4 hb (by omega)⟩)
    · by_cases h : k < 59
      · exact .inr (.inr (.inl ⟨rfl, h, g1 hb h⟩))
      · exact .inr (.inr (.inr ⟨rfl, by omega, g2 hb (by omega)⟩))
  clear hmo hl5
  intro w loose mean mg mb dp un gd cn cs fa ccd cl outer A₀ base h₀ L m₀ news s Q E hB hF hK hN hT hk hd hu hret
  rcases hcases with ⟨hb, hkr, hme⟩ | ⟨hb, hkr, hme⟩ | ⟨hb, hkr, hme⟩ | ⟨hb, hkr, hme⟩ <;> rcases hyr with ⟨hz, hc4, hye⟩ | ⟨hz, hc4, hy4, hye⟩ | ⟨hz, hc4, hy4, hye⟩ <;> first | (exfalso; omega) | skip
  all_goals (
  refine wpAny_call ?_
  k_dflt cell_enter
  k_steps)
  all_goals (refine endT hret (by k_asm) (by k_asm) (List.Mem.head _) (by walk_at "my sub") (by walk_at "my yr") (by rfl) (by omega))

end
end -- C6
section -- C7
open PySem PySem.W PyProof.Rows
theorem c_ejD (y : Int) (t : Tok) : Ct 182 4 [.int y t] (RetT y (jE y 0 / 31) (jE y 0 % 31 + 1)) := by
  w_top off
  unfold Ct
  k_fill
  intro w loose mean mg mb dp un gd cn cs fa ccd cl outer A₀ base h₀ L m₀ news s Q E hB hF hK hN hT hk hd hu hret
  refine wpAny_call ?_
  walk_at "my enter"
  k_steps
  all_goals (refine endT hret (by k_asm) (by k_asm) (by k_mem) (by walk_at "my sub") ?_ ?_ ?_)
  all_goals first | rfl | (unfold jE; simp only [Int.add_zero])
theorem c_ejE (y : Int) (t u : Tok) : Ctk 182 4 [.int y t] [(PySem.Str.ofString "mode", .str (PySem.Str.ofString "eastern") u)] (RetT y (jE y (if y % 19 = 0 then 1 else 0) / 31) (jE y (if y % 19 = 0 then 1 else 0) % 31 + 1)) := by
  w_top off
  unfold Ctk
  k_fill
  intro w loose mean mg mb dp un gd cn cs fa ccd cl outer A₀ base h₀ L m₀ news s Q E hB hF hK hN hT hk hd hu hret
  refine wpAny_call ?_
  walk_at "my enter"
  k_steps
  all_goals (refine endT hret (by k_asm) (by k_asm) (by k_mem) (by walk_at "my sub") ?_ ?_ ?_)
  all_goals first | rfl | (rename (y % 19 = 0) => hq; unfold jE; simp only [hq, reduceIte, Int.add_zero]) | (rename (y % 19 ≠ 0) => hq; unfold jE; simp only [hq, reduceIte, Int.add_zero])
end -- C7
section -- C8
open PySem PySem.W PyProof.Rows
theorem c_law231 (y : Int) (t : Tok) : Ct 231 2 [.int y t] (RetI (gday y (isLeap y) 1 1)) := by
  w_top off
  unfold Ct
  k_fill
  intro w loose mean mg mb dp un gd cn cs fa ccd cl outer A₀ base h₀ L m₀ news s Q E hB hF hK hN hT hk hd hu hret
  refine wpAny_call ?_
  k_dflt cell_enter
  k_steps
  all_goals (refine endI hret (by k_asm) (by k_asm) (by walk_at "my sub") ?_)
  all_goals (have hu1 : gday y (isLeap y) 1 1 = 1721425 + 365 * (y - 1) + (y - 1) / 4 - (y - 1) / 100 + (y - 1) / 400 + 1 := by unfold gday; simp)
  all_goals (rw [hu1]; simp only [Int.fdiv_eq_ediv_of_nonneg _ (show (0:Int) ≤ 400 by decide), Int.fdiv_eq_ediv_of_nonneg _ (show (0:Int) ≤ 100 by decide), Int.fdiv_eq_ediv_of_nonneg _ (show (0:Int) ≤ 4 by decide), Int.fmod_eq_emod_of_nonneg _ (show (0:Int) ≤ 400 by decide)]; omega)
theorem c_sunday (n : Int) (t : Tok) : Ct 245 2 [.int n t] (RetI (n + 1 + (5 - n) % 7)) := by
  w_top off
  unfold Ct
  k_fill
  intro w loose mean mg mb dp un gd cn cs fa ccd cl outer A₀ base h₀ L m₀ news s Q E hB hF hK hN hT hk hd hu hret
  refine wpAny_call ?_
  k_dflt cell_enter
  k_steps
  all_goals (refine endI hret (by k_asm) (by k_asm) (by walk_at "my sub") ?_)
  all_goals rfl
theorem c_epact (y : Int) (t : Tok) : Ct 252 2 [.int y t] (RetI (epact y)) := by
  w_top off
  unfold Ct
  k_fill
  intro w loose mean mg mb dp un gd cn cs fa ccd cl outer A₀ base h₀ L m₀ news s Q E hB hF hK hN hT hk hd hu hret
  refine wpAny_call ?_
  k_dflt cell_enter
  k_steps
  all_goals (refine endI hret (by k_asm) (by k_asm) (by walk_at "my sub") ?_)
  all_goals rfl
local macro_rules | `(tactic| walk_at "call ref") => `(tactic| (k_here; (with_reducible show wpAny _ _ (call (Value.ref 231) _) _ _ _); k_dflt (refine' (c_law231 _ _).use ?k1 ?k2 ?k3 ?k4 ?k5 ?kK ?kd ?ku ?_); (case k1 => k_asm); (case k2 => k_asm); (case k3 => k_asm); (case k4 => k_asm); (case k5 => k_asm); (case kK => first | exact rfl | assumption); (case kd => ktr_room); (case ku => ktr_units); intro t9 h9 tk9 F9 N9; (try dsimp only); (try k_sweep); (try k_fold)))
local macro_rules | `(tactic| walk_at "call ref") => `(tactic| (k_here; (with_reducible show wpAny _ _ (call (Value.ref 245) _) _ _ _); k_dflt (refine' (c_sunday _ _).use ?k1 ?k2 ?k3 ?k4 ?k5 ?kK ?kd ?ku ?_); (case k1 => k_asm); (case k2 => k_asm); (case k3 => k_asm); (case k4 => k_asm); (case k5 => k_asm); (case kK => first | exact rfl | assumption); (case kd => ktr_room); (case ku => ktr_units); intro t9 h9 tk9 F9 N9; (try dsimp only); (try k_sweep); (try k_fold)))
local macro_rules | `(tactic| walk_at "call ref") => `(tactic| (k_here; (with_reducible show wpAny _ _ (call (Value.ref 252) _) _ _ _); k_dflt (refine' (c_epact _ _).use ?k1 ?k2 ?k3 ?k4 ?k5 ?kK ?kd ?ku ?_); (case k1 => k_asm); (case k2 => k_asm); (case k3 => k_asm); (case k4 => k_asm); (case k5 => k_asm); (case kK => first | exact rfl | assumption); (case kd => ktr_room); (case ku => ktr_units); intro t9 h9 tk9 F9 N9; (try dsimp only); (try k_sweep); (try k_fold)))
theorem c_lawWest (y : Int) (t : Tok) : Ct 259 4 [.int y t] (RetI (westS y)) := by
  w_top off
  unfold Ct
  k_fill
  intro w loose mean mg mb dp un gd cn cs fa ccd cl outer A₀ base h₀ L m₀ news s Q E hB hF hK hN hT hk hd hu hret
  refine wpAny_call ?_
  k_dflt cell_enter
  k_steps
  all_goals (refine endI hret (by k_asm) (by k_asm) (by walk_at "my sub") ?_)
  all_goals (unfold westS westN epactM; (repeat' split) <;> first | omega | (exfalso; omega))
theorem c_lawOld (y x : Int) (t u : Tok) : Ct 266 4 [.int y t, .int x u] (RetI (oldS y x)) := by
  w_top off
  unfold Ct
  k_fill
  intro w loose mean mg mb dp un gd cn cs fa ccd cl outer A₀ base h₀ L m₀ news s Q E hB hF hK hN hT hk hd hu hret
  refine wpAny_call ?_
  k_dflt cell_enter
  k_steps
  all_goals (refine endI hret (by k_asm) (by k_asm) (by walk_at "my sub") ?_)
  all_goals (unfold oldS oldN; simp only [Int.fdiv_eq_ediv_of_nonneg _ (show (0:Int) ≤ 4 by decide), Int.fmod_eq_emod_of_nonneg _ (show (0:Int) ≤ 4 by decide)])
end -- C8
section -- C9
open PySem PySem.W PyProof.Rows

theorem store_wi {M : Model} {A : Around} {E : Value → Shared → Prop} {s : Shared} {env : Env} {nm : Str} {y X n : Int} {t : Tok} {Q : Unit → Shared → Prop} (mk : Mark 1 y) (e1 : X = wX y) (e2 : n = y % 19) (h : wpAny M A (storeName env nm (.int (wI y) t)) Q E s) :
    wpAny M A (storeName env nm (.int (X - X / 28 * (1 - X / 28 * (29 / (X + 1)) * ((21 - n) / 11))) t)) Q E s := by
  have hb := wX_bound y
  have e : X - X / 28 * (1 - X / 28 * (29 / (X + 1)) * ((21 - n) / 11)) = wI y := by
    subst e1; subst e2
    unfold wI
    generalize wX y = X at *
    have hn : 0 ≤ y % 19 ∧ y % 19 ≤ 18 := by omega
    generalize y % 19 = n at *
    by_cases h1 : X < 28
    · have : X / 28 = 0 := by omega
      rw [this, if_pos h1]; simp
    · by_cases h2 : X = 28
      · subst h2
        by_cases h3 : n ≤ 10
        · have : (21 - n) / 11 = 1 := by omega
          rw [this]; simp [h3]
        · have : (21 - n) / 11 = 0 := by omega
          rw [this]; simp [h3]
      · have : X = 29 := by omega
        subst this
        simp
  rw [e]; exact h
section
local macro_rules | `(tactic| walk_at "storeName") => `(tactic| ((with_reducible show wpAny _ _ (storeName _ (PySem.Str.ofString "i") (Value.int (_ - _ / 28 * _) _)) _ _ _); k_dflt (refine' store_wi (by assumption) ?ke ?kf ?_; (case ke => (unfold wX; omega)); (case kf => omega))))
theorem c_west (y : Int) (hy : 1600 ≤ y ∧ y ≤ 2000000000) (t : Tok) : Ct 174 3 [.int y t] (RetT y (3 + (wL y + 40) / 44) (wL y + 28 - 31 * ((3 + (wL y + 40) / 44) / 4))) := by
  have mk1 : Mark 1 y := .intro
  have hwi := wI_bound y
  w_top off
  unfold Ct
  k_fill
  intro w loose mean mg mb dp un gd cn cs fa ccd cl outer A₀ base h₀ L m₀ news s Q E hB hF hK hN hT hk hd hu hret
  refine wpAny_call ?_
  k_dflt cell_enter
  k_steps
  all_goals (refine endT hret (by k_asm) (by k_asm) (by k_mem) (by walk_at "my sub") ?_ ?_ ?_)
  all_goals first | rfl | (unfold wL; omega)

end
end -- C9
section -- C10
open PySem PySem.W PyProof.Rows

theorem c_fromJd (a N : Int) (mk : Mark 3 N) (he : a = 4 * N - 2) (hN : -3500000000000 ≤ N ∧ N ≤ 3500000000000) (t : Tok) : Ct 123 8 [.float (FQ a) t] (RetT (dY N) (dM N) (dD N)) := by
  subst he
  obtain ⟨hv, h⟩ := date_spec N
  exact c_fromJdG _ _ _ _ (dY_bound N hN) hv.1 hv.2 h t
section
local macro_rules | `(tactic| walk_at "call ref") => `(tactic| (k_here; (with_reducible show wpAny _ _ (call (Value.ref 152) _) _ _ _); k_dflt (refine' (c_toJdJ _ _ _ (by omega) _ _ _).use ?k1 ?k2 ?k3 ?k4 ?k5 ?kK ?kd ?ku ?_); (case k1 => k_asm); (case k2 => k_asm); (case k3 => k_asm); (case k4 => k_asm); (case k5 => k_asm); (case kK => first | exact rfl | assumption); (case kd => ktr_room); (case ku => ktr_units); intro t9 h9 tk9 F9 N9; (try dsimp only); (try k_sweep); (try k_fold)))
local macro_rules | `(tactic| walk_at "call ref") => `(tactic| (k_here; (with_reducible show wpAny _ _ (call (Value.ref 123) _) _ _ _); k_dflt (refine' (c_fromJd _ _ (by assumption) (by omega) (by assumption) _).use ?k1 ?k2 ?k3 ?k4 ?k5 ?kK ?kd ?ku ?_); (case k1 => k_asm); (case k2 => k_asm); (case k3 => k_asm); (case k4 => k_asm); (case k5 => k_asm); (case kK => first | exact rfl | assumption); (case kd => ktr_room); (case ku => ktr_units); intro D9 t91 t92 t93 n9 h9 tk9 F9 N9; (try dsimp only); (try k_sweep); (try k_fold)))
theorem c_toGreg0 (y m d N : Int) (hm : (m = 3 ∨ m = 4) ∧ 1 ≤ d ∧ d ≤ 30 ∧ -9000000000 ≤ y ∧ y ≤ 9000000000) (hN : N = (1461 * (y + 4716)) / 4 + 306001 * (m + 1) / 10000 + d - 1524) (t u v : Tok) : Ct 159 10 [.int y t, .int m u, .int d v] (RetT (dY N) (dM N) (dD N)) := by
  have mk1 : Mark 3 N := .intro
  have hNb : -3500000000000 ≤ N ∧ N ≤ 3500000000000 := by omega
  w_top off
  unfold Ct
  k_fill
  intro w loose mean mg mb dp un gd cn cs fa ccd cl outer A₀ base h₀ L m₀ news s Q E hB hF hK hN hT hk hd hu hret
  refine wpAny_call ?_
  k_dflt cell_enter
  k_steps
  all_goals (refine endT hret (by k_asm) (by k_asm) (by k_mem) (by walk_at "my sub") ?_ ?_ ?_)
  all_goals rfl
end
section

theorem c_toGreg (y m d N : Int) (mk : Mark 3 N) (hm : (m = 3 ∨ m = 4) ∧ 1 ≤ d ∧ d ≤ 30 ∧ -9000000000 ≤ y ∧ y ≤ 9000000000) (hN : (1461 * (y + 4716)) / 4 + 306001 * (m + 1) / 10000 + d - 1524 = N) (t u v : Tok) : Ct 159 10 [.int y t, .int m u, .int d v] (RetT (dY N) (dM N) (dD N)) :=
  c_toGreg0 y m d N hm hN.symm t u v

theorem c_ejE1 (y : Int) (h : y % 19 = 0) (t u : Tok) : Ctk 182 4 [.int y t] [(PySem.Str.ofString "mode", .str (PySem.Str.ofString "eastern") u)] (RetT y (jE y 1 / 31) (jE y 1 % 31 + 1)) := by
  have := c_ejE y t u
  rw [if_pos h] at this
  exact this
local macro_rules | `(tactic| walk_at "call ref") => `(tactic| (k_here; (with_reducible show wpAny _ _ (call (Value.ref 174) _) _ _ _); k_dflt (refine' (c_west _ (by assumption) _).use ?k1 ?k2 ?k3 ?k4 ?k5 ?kK ?kd ?ku ?_); (case k1 => k_asm); (case k2 => k_asm); (case k3 => k_asm); (case k4 => k_asm); (case k5 => k_asm); (case kK => first | exact rfl | assumption); (case kd => ktr_room); (case ku => ktr_units); intro D9 t91 t92 t93 n9 h9 tk9 F9 N9; (try dsimp only); (try k_sweep); (try k_fold)))
local macro_rules | `(tactic| walk_at "call ref") => `(tactic| (k_here; (with_reducible show wpAny _ _ (call (Value.ref 182) _) _ _ _); k_dflt (refine' (c_ejD _ _).use ?k1 ?k2 ?k3 ?k4 ?k5 ?kK ?kd ?ku ?_); (case k1 => k_asm); (case k2 => k_asm); (case k3 => k_asm); (case k4 => k_asm); (case k5 => k_asm); (case kK => first | exact rfl | assumption); (case kd => ktr_room); (case ku => ktr_units); intro D9 t91 t92 t93 n9 h9 tk9 F9 N9; (try dsimp only); (try k_sweep); (try k_fold)))
local macro_rules | `(tactic| walk_at "call ref") => `(tactic| (k_here; (with_reducible show wpAny _ _ (call (Value.ref 159) _) _ _ _); k_dflt (refine' (c_toGreg _ _ _ _ (by assumption) (by omega) (by assumption) _ _ _).use ?k1 ?k2 ?k3 ?k4 ?k5 ?kK ?kd ?ku ?_); (case k1 => k_asm); (case k2 => k_asm); (case k3 => k_asm); (case k4 => k_asm); (case k5 => k_asm); (case kK => first | exact rfl | assumption); (case kd => ktr_room); (case ku => ktr_units); intro D9 t91 t92 t93 n9 h9 tk9 F9 N9; (try dsimp only); (try k_sweep); (try k_fold)))
local macro_rules | `(tactic| walk_at "call ref") => `(tactic| (k_here; (with_reducible show wpAny _ _ (call (Value.ref 182) [_] _) _ _ _); k_dflt (refine' (c_ejE1 _ (by assumption) _ _).use ?k1 ?k2 ?k3 ?k4 ?k5 ?kK ?kd ?ku ?_); (case k1 => k_asm); (case k2 => k_asm); (case k3 => k_asm); (case k4 => k_asm); (case k5 => k_asm); (case kK => first | exact rfl | assumption); (case kd => ktr_room); (case ku => ktr_units); intro D9 t91 t92 t93 n9 h9 tk9 F9 N9; (try dsimp only); (try k_sweep); (try k_fold)))
theorem c_easterW (y : Int) (hy : 1600 ≤ y ∧ y ≤ 2000000000) (t : Tok) : Ct 167 6 [.int y t] (RetT (dY (westS y)) (dM (westS y)) (dD (westS y))) := by
  w_top off
  unfold Ct
  k_fill
  intro w loose mean mg mb dp un gd cn cs fa ccd cl outer A₀ base h₀ L m₀ news s Q E hB hF hK hN hT hk hd hu hret
  refine wpAny_call ?_
  walk_at "my enter"
  k_steps
  obtain ⟨v1, v2, v3⟩ := west_valid y hy.1
  all_goals (refine endT hret (by k_asm) (by k_asm) (by k_mem) (by walk_at "my sub") ?_ ?_ ?_)
  all_goals first | exact v1.symm | exact v2.symm | exact v3.symm
theorem c_easterO (y : Int) (hy : -8000000000 ≤ y ∧ y ≤ 8000000000) (h19 : y % 19 = 0) (t u : Tok) : Ct 167 12 [.int y t, .str (PySem.Str.ofString "orthodox") u] (RetT (dY (oldS y 0)) (dM (oldS y 0)) (dD (oldS y 0))) := by
  have mk1 : Mark 3 (oldS y 0) := .intro
  have hol := old_law y 0 h19 (by decide)
  obtain ⟨ho1, ho2, ho3⟩ := hol
  have hj0 : 0 ≤ jE y 0 % 31 := by omega
  w_top off
  unfold Ct
  k_fill
  intro w loose mean mg mb dp un gd cn cs fa ccd cl outer A₀ base h₀ L m₀ news s Q E hB hF hK hN hT hk hd hu hret
  refine wpAny_call ?_
  walk_at "my enter"
  k_steps
  all_goals (refine endT hret (by k_asm) (by k_asm) (by k_mem) (by walk_at "my sub") ?_ ?_ ?_)
  all_goals rfl
theorem c_easterE (y : Int) (hy : -8000000000 ≤ y ∧ y ≤ 8000000000) (h19 : y % 19 = 0) (t u : Tok) : Ct 167 12 [.int y t, .str (PySem.Str.ofString "eastern") u] (RetT (dY (oldS y 1)) (dM (oldS y 1)) (dD (oldS y 1))) := by
  have mk1 : Mark 3 (oldS y 1) := .intro
  have hol := old_law y 1 h19 (by decide)
  obtain ⟨ho1, ho2, ho3⟩ := hol
  have hj0 : 0 ≤ jE y 1 % 31 := by omega
  w_top off
  unfold Ct
  k_fill
  intro w loose mean mg mb dp un gd cn cs fa ccd cl outer A₀ base h₀ L m₀ news s Q E hB hF hK hN hT hk hd hu hret
  refine wpAny_call ?_
  walk_at "my enter"
  k_steps
  all_goals (refine endT hret (by k_asm) (by k_asm) (by k_mem) (by walk_at "my sub") ?_ ?_ ?_)
  all_goals rfl

end
end -- C10
section -- C11
open PySem PySem.W PyProof.Rows

theorem cum_next (b : Bool) (m : Int) (hm : 1 ≤ m ∧ m ≤ 11) : cumd b (m + 1) = cumd b m + mlen b m := by
  have : m = 1 ∨ m = 2 ∨ m = 3 ∨ m = 4 ∨ m = 5 ∨ m = 6 ∨ m = 7 ∨ m = 8 ∨ m = 9 ∨ m = 10 ∨ m = 11 := by omega
  rcases this with h | h | h | h | h | h | h | h | h | h | h <;> subst h <;> cases b <;> decide
theorem cum_one (b : Bool) : cumd b 1 = 0 := by cases b <;> decide
theorem cum_last (b : Bool) : cumd b 12 + mlen b 12 = (if b = true then 366 else 365) := by cases b <;> decide
theorem mlen_pos (b : Bool) (m : Int) : 28 ≤ mlen b m := by unfold mlen; (repeat' split) <;> omega
theorem len_at (y m : Int) (hm : 1 ≤ m ∧ m ≤ 12) : [31, gday (y + 1) (isLeap (y + 1)) 1 1 - gday y (isLeap y) 1 1 - 337, 31, 30, 31, 30, 31, 31, 30, 31, 30, 31].getD (m - 1).toNat 0 = mlen (isLeap y) m := by
  rw [year_len]
  have : m = 1 ∨ m = 2 ∨ m = 3 ∨ m = 4 ∨ m = 5 ∨ m = 6 ∨ m = 7 ∨ m = 8 ∨ m = 9 ∨ m = 10 ∨ m = 11 ∨ m = 12 := by omega
  rcases this with h | h | h | h | h | h | h | h | h | h | h | h <;> subst h <;> rfl
theorem start3 {N y : Int} (h1 : gday y (isLeap y) 1 1 ≤ N) : (1 : Int) ≤ 1 ∧ (1 : Int) ≤ 12 ∧ 1 ≤ N - gday y (isLeap y) 1 1 + 1 ∧ N - gday y (isLeap y) 1 1 + 1 + cumd (isLeap y) 1 = N - gday y (isLeap y) 1 1 + 1 := by
  rw [cum_one]; omega
theorem meas1 {N y : Int} (h : N < gday y (isLeap y) 1 1) : (gday (y - 1) (isLeap (y - 1)) 1 1 - N).toNat < (gday y (isLeap y) 1 1 - N).toNat := by
  have := first_mono' y; omega
theorem meas2 {N y : Int} (h : gday (y + 1) (isLeap (y + 1)) 1 1 ≤ N) : (N - gday (y + 1) (isLeap (y + 1)) 1 1).toNat < (N - gday y (isLeap y) 1 1).toNat := by
  have := first_mono y; omega
theorem step3a {N y day m : Int} (h1 : gday y (isLeap y) 1 1 ≤ N) (h2 : ¬ gday (y + 1) (isLeap (y + 1)) 1 1 ≤ N) (hw : 1 ≤ m ∧ m ≤ 12 ∧ 1 ≤ day ∧ day + cumd (isLeap y) m = N - gday y (isLeap y) 1 1 + 1) (hd : mlen (isLeap y) m < day) :
    1 ≤ m + 1 ∧ m + 1 ≤ 12 ∧ 1 ≤ day - mlen (isLeap y) m ∧ day - mlen (isLeap y) m + cumd (isLeap y) (m + 1) = N - gday y (isLeap y) 1 1 + 1 := by
  have h12 := cum_last (isLeap y)
  have hsp := year_span y
  have hm : m ≠ 12 := by
    intro h; subst h
    omega
  have := cum_next (isLeap y) m (by omega)
  omega
theorem end3a {N y day m : Int} (hw : 1 ≤ m ∧ m ≤ 12 ∧ 1 ≤ day ∧ day + cumd (isLeap y) m = N - gday y (isLeap y) 1 1 + 1) (hd : ¬ mlen (isLeap y) m < day) : y = dY N ∧ m = dM N ∧ day = dD N := by
  have hg := gday_cum y (isLeap y) m day
  obtain ⟨h1, h2, h3⟩ := date_unique (N := N) (y := y) (m := m) (d := day) ⟨⟨hw.1, hw.2.1⟩, hw.2.2.1, by omega⟩ (by omega)
  exact ⟨h1.symm, h2.symm, h3.symm⟩
theorem step3 {N y day m : Int} (h1 : gday y (isLeap y) 1 1 ≤ N) (h2 : ¬ gday (y + 1) (isLeap (y + 1)) 1 1 ≤ N) (w1 : 1 ≤ m) (w2 : m ≤ 12) (w3 : 1 ≤ day) (w4 : day + cumd (isLeap y) m = N - gday y (isLeap y) 1 1 + 1)
    (hd : [31, gday (y + 1) (isLeap (y + 1)) 1 1 - gday y (isLeap y) 1 1 - 337, 31, 30, 31, 30, 31, 31, 30, 31, 30, 31].getD (m - 1).toNat 0 < day) :
    1 ≤ m + 1 ∧ m + 1 ≤ 12 ∧ 1 ≤ day - [31, gday (y + 1) (isLeap (y + 1)) 1 1 - gday y (isLeap y) 1 1 - 337, 31, 30, 31, 30, 31, 31, 30, 31, 30, 31].getD (m - 1).toNat 0 ∧ day - [31, gday (y + 1) (isLeap (y + 1)) 1 1 - gday y (isLeap y) 1 1 - 337, 31, 30, 31, 30, 31, 31, 30, 31, 30, 31].getD (m - 1).toNat 0 + cumd (isLeap y) (m + 1) = N - gday y (isLeap y) 1 1 + 1 := by
  rw [len_at y m ⟨w1, w2⟩] at hd ⊢
  exact step3a h1 h2 ⟨w1, w2, w3, w4⟩ hd
theorem meas3 {y day m : Int} (w1 : 1 ≤ m) (w2 : m ≤ 12) (hd : [31, gday (y + 1) (isLeap (y + 1)) 1 1 - gday y (isLeap y) 1 1 - 337, 31, 30, 31, 30, 31, 31, 30, 31, 30, 31].getD (m - 1).toNat 0 < day) :
    (day - [31, gday (y + 1) (isLeap (y + 1)) 1 1 - gday y (isLeap y) 1 1 - 337, 31, 30, 31, 30, 31, 31, 30, 31, 30, 31].getD (m - 1).toNat 0).toNat < day.toNat := by
  rw [len_at y m ⟨w1, w2⟩] at hd ⊢
  have := mlen_pos (isLeap y) m; omega
theorem end3 {N y day m : Int} (hd : ¬ [31, gday (y + 1) (isLeap (y + 1)) 1 1 - gday y (isLeap y) 1 1 - 337, 31, 30, 31, 30, 31, 31, 30, 31, 30, 31].getD (m - 1).toNat 0 < day)
    (w1 : 1 ≤ m) (w2 : m ≤ 12) (w3 : 1 ≤ day) (w4 : day + cumd (isLeap y) m = N - gday y (isLeap y) 1 1 + 1) : y = dY N ∧ m = dM N ∧ day = dD N := by
  rw [len_at y m ⟨w1, w2⟩] at hd
  exact end3a ⟨w1, w2, w3, w4⟩ hd
section
local macro_rules | `(tactic| walk_at "call ref") => `(tactic| (k_here; (with_reducible show wpAny _ _ (call (Value.ref 231) _) _ _ _); k_dflt (refine' (c_law231 _ _).use ?k1 ?k2 ?k3 ?k4 ?k5 ?kK ?kd ?ku ?_); (case k1 => k_asm); (case k2 => k_asm); (case k3 => k_asm); (case k4 => k_asm); (case k5 => k_asm); (case kK => first | exact rfl | assumption); (case kd => ktr_room); (case ku => ktr_units); intro t9 h9 tk9 F9 N9; (try dsimp only); (try k_sweep); (try k_fold)))
theorem c_lawDate (N : Int) (hNb : -3500000000000 ≤ N ∧ N ≤ 3500000000000) (t : Tok) : Ct 238 8 [.int N t] (RetT (dY N) (dM N) (dD N)) := by
  w_top off
  unfold Ct
  k_fill
  intro w loose mean mg mb dp un gd cn cs fa ccd cl outer A₀ base h₀ L m₀ news s Q E hB hF hK hN hT hk hd hu hret
  refine wpAny_call ?_
  k_dflt cell_enter
  k_with "state" => (first | exact step3 (by assumption) (by assumption) (by assumption) (by assumption) (by assumption) (by assumption) (by assumption) | exact start3 (by assumption))
  k_with "measure" => (first | exact meas1 (by assumption) | exact meas2 (by assumption) | exact meas3 (by assumption) (by assumption) (by assumption))
  k_with "exec While Compare cons nil" => k_while (fun _ y => 0 ≤ y * 0) (fun _ y => (gday y (isLeap y) 1 1 - N).toNat) "year"
  k_with "exec While Compare cons nil" => k_while (fun _ y => gday y (isLeap y) 1 1 ≤ N) (fun _ y => (N - gday y (isLeap y) 1 1).toNat) "year"
  k_with "exec While Compare cons nil" => k_while_given ["year"] (fun year _ day month => 1 ≤ month ∧ month ≤ 12 ∧ 1 ≤ day ∧ day + cumd (isLeap year) month = N - gday year (isLeap year) 1 1 + 1) (fun year _ day month => day.toNat) "day" "month"
  k_steps
  all_goals (obtain ⟨v1, v2, v3⟩ := end3 (by assumption) (by assumption) (by assumption) (by assumption) (by assumption))
  all_goals (refine endT hret (by k_asm) (by k_asm) (by k_mem) (by walk_at "my sub") ?_ ?_ ?_)
  all_goals assumption

end
end -- C11
section -- C12
open PySem PySem.W PyProof.Rows

def RetIso (a b c : Int) : PostT := fun Q h₀ L m news s =>
  ∀ (D : Addr) (t1 t2 t3 : Tok) (h' : Heap) (tk : Nat), Fr h₀ L h' m → News h₀ L h' ((D, isoObj a b c t1 t2 t3) :: news) → Q (.ref D) { s with heap := h', toks := tk }
theorem endIso {h₀ h' : Heap} {L : Addr} {m : Str → Option Value} {news news' : List (Addr × Obj)} {s : Shared} {Q : Value → Shared → Prop} {t1 t2 t3 : Tok} {tk : Nat} {D : Addr} {a b c a' b' c' : Int} (hret : RetIso a b c Q h₀ L m news s) (F : Fr h₀ L h' m) (N : News h₀ L h' news') (hm : (D, isoObj a' b' c' t1 t2 t3) ∈ news') (hs : ∀ p ∈ news, p ∈ news')
    (e1 : a' = a) (e2 : b' = b) (e3 : c' = c) : Q (.ref D) { s with heap := h', toks := tk } := by
  subst e1; subst e2; subst e3
  refine hret D t1 t2 t3 h' tk F fun p hp => ?_
  rcases List.mem_cons.mp hp with rfl | hp
  · exact N _ hm
  · exact N p (hs p hp)
section
local macro_rules | `(tactic| walk_at "call type:datetime.date") => `(tactic| (k_here; k_dflt (refine' r_date ?k1 ?k2 (by assumption) ?k3 ?k4 (by assumption) ?_; (case k1 => k_asm); (case k2 => k_asm); (case k3 => omega); (case k4 => omega)); intro D9 h9 F9 N9; (try k_sweep)))
local macro_rules | `(tactic| walk_at "getMethod ref") => `(tactic| (k_here; (with_reducible show wpAny _ _ (getMethod _ (PySem.Str.ofString "isocalendar") _) _ _ _); k_dflt (refine' r_date_method ?k1 ?k2 ?_; (case k1 => k_asm); (case k2 => k_mem))))
local macro_rules | `(tactic| walk_at "call builtin:datetime.date.isocalendar") => `(tactic| (k_here; k_dflt (refine' r_isocal ?k1 ?k2 ?k3 ?_; (case k1 => k_asm); (case k2 => k_asm); (case k3 => k_mem)); intro D9 h9 F9 N9; (try k_sweep)))
theorem c_fromGreg0 (y m d : Int) (hy : 1 ≤ y ∧ y ≤ 9999) (hv : Valid y m d) (t u v : Tok) : Ct 203 6 [.int y t, .int m u, .int d v] (RetIso (Builtin._datetime.isoCalendarOf y m d).1 (Builtin._datetime.isoCalendarOf y m d).2.1 (Builtin._datetime.isoCalendarOf y m d).2.2) := by
  have hdm : d ≤ Builtin._datetime.daysInMonth y m := by rw [days_in y m hv.1]; exact hv.2.2
  have hd9 := valid_day hv
  have hm9 := hv.1
  w_top off
  unfold Ct
  k_fill
  intro w loose mean mg mb dp un gd cn cs fa ccd cl outer A₀ base h₀ L m₀ news s Q E hB hF hK hN hT hk hd hu hret
  refine wpAny_call ?_
  k_dflt cell_enter
  k_steps
  all_goals (refine endIso hret (by k_asm) (by k_asm) (by k_mem) (by walk_at "my sub") ?_ ?_ ?_)
  all_goals rfl
end
section

theorem c_fromGreg (y m d N : Int) (mk : Mark 3 N) (hN : N = gday y (isLeap y) m d) (hy : 1 ≤ y ∧ y ≤ 9999) (hv : Valid y m d) (t u v : Tok) : Ct 203 6 [.int y t, .int m u, .int d v] (RetIso (dY (N - N % 7 + 3)) ((N - N % 7 + 3 - gday (dY (N - N % 7 + 3)) (isLeap (dY (N - N % 7 + 3))) 1 1) / 7 + 1) (N % 7 + 1)) := by
  obtain ⟨e1, e2, e3⟩ := iso_law hv hN
  have h := c_fromGreg0 y m d hy hv t u v
  rw [e1, e2, e3] at h
  exact h
local macro_rules | `(tactic| walk_at "call ref") => `(tactic| (k_here; (with_reducible show wpAny _ _ (call (Value.ref 123) _) _ _ _); k_dflt (refine' (c_fromJd _ _ (by assumption) (by omega) (by assumption) _).use ?k1 ?k2 ?k3 ?k4 ?k5 ?kK ?kd ?ku ?_); (case k1 => k_asm); (case k2 => k_asm); (case k3 => k_asm); (case k4 => k_asm); (case k5 => k_asm); (case kK => first | exact rfl | assumption); (case kd => ktr_room); (case ku => ktr_units); intro D9 t91 t92 t93 n9 h9 tk9 F9 N9; (try dsimp only); (try k_sweep); (try k_fold)))
local macro_rules | `(tactic| walk_at "call ref") => `(tactic| (k_here; (with_reducible show wpAny _ _ (call (Value.ref 203) _) _ _ _); k_dflt (refine' (c_fromGreg _ _ _ _ (by assumption) (by assumption) (by assumption) (by assumption) _ _ _).use ?k1 ?k2 ?k3 ?k4 ?k5 ?kK ?kd ?ku ?_); (case k1 => k_asm); (case k2 => k_asm); (case k3 => k_asm); (case k4 => k_asm); (case k5 => k_asm); (case kK => first | exact rfl | assumption); (case kd => ktr_room); (case ku => ktr_units); intro D9 t91 t92 t93 h9 tk9 F9 N9; (try dsimp only); (try k_sweep); (try k_fold)))
theorem c_fromIso (N : Int) (hNb : -3500000000000 ≤ N ∧ N ≤ 3500000000000) (hy : 1 ≤ dY N ∧ dY N ≤ 9999) (t : Tok) : Ct 196 10 [.float (FQ (4 * N - 2)) t] (RetIso (dY (N - N % 7 + 3)) ((N - N % 7 + 3 - gday (dY (N - N % 7 + 3)) (isLeap (dY (N - N % 7 + 3))) 1 1) / 7 + 1) (N % 7 + 1)) := by
  have mk1 : Mark 3 N := .intro
  obtain ⟨hv, hN9⟩ := date_spec N
  w_top off
  unfold Ct
  k_fill
  intro w loose mean mg mb dp un gd cn cs fa ccd cl outer A₀ base h₀ L m₀ news s Q E hB hF hK hN hT hk hd hu hret
  refine wpAny_call ?_
  k_dflt cell_enter
  k_steps
  all_goals (refine endIso hret (by k_asm) (by k_asm) (by k_mem) (by walk_at "my sub") ?_ ?_ ?_)
  all_goals rfl
end
section
local macro_rules | `(tactic| walk_at "call ref") => `(tactic| (k_here; (with_reducible show wpAny _ _ (call (Value.ref 94) _) _ _ _); k_dflt (refine' (c_nweeks _ _ _ (by omega) _ _ _).use ?k1 ?k2 ?k3 ?k4 ?k5 ?kK ?kd ?ku ?_); (case k1 => k_asm); (case k2 => k_asm); (case k3 => k_asm); (case k4 => k_asm); (case k5 => k_asm); (case kK => first | exact rfl | assumption); (case kd => ktr_room); (case ku => ktr_units); intro t9 h9 tk9 F9 N9; (try dsimp only); (try k_sweep); (try k_fold)))
local macro_rules | `(tactic| walk_at "call ref") => `(tactic| (k_here; (with_reducible show wpAny _ _ (call (Value.ref 116) _) _ _ _); k_dflt (refine' (c_toJdG _ _ _ (by omega) (by omega) (by omega) _ _ _).use ?k1 ?k2 ?k3 ?k4 ?k5 ?kK ?kd ?ku ?_); (case k1 => k_asm); (case k2 => k_asm); (case k3 => k_asm); (case k4 => k_asm); (case k5 => k_asm); (case kK => first | exact rfl | assumption); (case kd => ktr_room); (case ku => ktr_units); intro t9 h9 tk9 F9 N9; (try dsimp only); (try k_sweep); (try k_fold)))
local macro_rules | `(tactic| walk_at "pad") => `(tactic| skip)
theorem c_toIso (z wk k N : Int) (hz : z = dY (N - N % 7 + 3)) (hw : wk = (N - N % 7 + 3 - gday z (isLeap z) 1 1) / 7 + 1) (hk9 : k = N % 7 + 1) (hzb : 1 ≤ z ∧ z ≤ 9999) (t u v : Tok) : Ct 189 12 [.int z t, .int wk u, .int k v] (RetF (4 * N - 2)) := by
  have hib := iso_back hz hw hk9
  have hib1 := hib.2
  have hg1 : 1000 ≤ gday (z - 1) (isLeap (z - 1)) 12 28 ∧ gday (z - 1) (isLeap (z - 1)) 12 28 ≤ 200000000 := by
    have hu1 : gday (z - 1) (isLeap (z - 1)) 1 1 = 1721425 + 365 * (z - 1 - 1) + (z - 1 - 1) / 4 - (z - 1 - 1) / 100 + (z - 1 - 1) / 400 + 1 := by unfold gday; simp
    have hg := gday_cum (z - 1) (isLeap (z - 1)) 12 28
    have hc : 334 ≤ cumd (isLeap (z - 1)) 12 ∧ cumd (isLeap (z - 1)) 12 ≤ 335 := by cases isLeap (z - 1) <;> decide
    omega
  w_top off
  unfold Ct
  k_fill
  intro w loose mean mg mb dp un gd cn cs fa ccd cl outer A₀ base h₀ L m₀ news s Q E hB hF hK hN hT hk hd hu hret
  refine wpAny_call ?_
  k_dflt cell_enter
  k_steps
  all_goals (refine endF hret (by k_asm) (by k_asm) (by walk_at "my sub") (by with_reducible exact rfl) ?_)
  all_goals first | exact hib.1 | omega

end
end -- C12
section -- C13
open PySem PySem.W PyProof.Rows

theorem c_isleap'' (y' y : Int) (b : Bool) (he : y' = y) (hb : isLeap y = b) (t : Tok) : Ct 102 2 [.int y' t] (RetB b) := by
  subst he; subst hb; exact c_isleap y' t
section
local macro_rules | `(tactic| walk_at "call ref") => `(tactic| (k_here; (with_reducible show wpAny _ _ (call (Value.ref 102) _) _ _ _); k_dflt (refine' (c_isleap'' _ _ _ ?ke (by assumption) _).use ?k1 ?k2 ?k3 ?k4 ?k5 ?kK ?kd ?ku ?_); (case ke => omega); (case k1 => k_asm); (case k2 => k_asm); (case k3 => k_asm); (case k4 => k_asm); (case k5 => k_asm); (case kK => first | exact rfl | assumption); (case kd => ktr_room); (case ku => ktr_units); intro t9 h9 tk9 F9 N9; (try dsimp only); (try k_sweep); (try k_fold)))
theorem c_legalP (y g : Int) (hy : 1 ≤ y) (hg : g = y + 1788) (hl : isLeap g = true) (t u v : Tok) : Ct 210 4 [.int y t, .int 14 u, .int 2 v] (RetB true) := by
  w_top off
  unfold Ct
  k_fill
  intro w loose mean mg mb dp un gd cn cs fa ccd cl outer A₀ base h₀ L m₀ news s Q E hB hF hK hN hT hk hd hu hret
  refine wpAny_call ?_
  k_dflt cell_enter
  k_steps
  all_goals (refine endB hret (by k_asm) (by k_asm) (by walk_at "my sub") ?_)
  all_goals rfl
local macro_rules | `(tactic| walk_at "call ref") => `(tactic| (k_here; (with_reducible show wpAny _ _ (call (Value.ref 210) _) _ _ _); k_dflt (refine' (c_legalP _ _ (by omega) (by assumption) (by assumption) _ _ _).use ?k1 ?k2 ?k3 ?k4 ?k5 ?kK ?kd ?ku ?_); (case k1 => k_asm); (case k2 => k_asm); (case k3 => k_asm); (case k4 => k_asm); (case k5 => k_asm); (case kK => first | exact rfl | assumption); (case kd => ktr_room); (case ku => ktr_units); intro t9 h9 tk9 F9 N9; (try dsimp only); (try k_sweep); (try k_fold)))
theorem c_toJdP (y g : Int) (hy : 1 ≤ y ∧ y ≤ 5000000000) (hg : g = y + 1788) (hl : isLeap g = true) (t u v : Tok) : Ct 217 6 [.int y t, .int 14 u, .int 2 v] (RetF (4 * (gday (g + 1) (isLeap (g + 1)) 1 1 - 1) - 2)) := by
  have hu1 : gday (g + 1) (isLeap (g + 1)) 1 1 = 1721425 + 365 * (g + 1 - 1) + (g + 1 - 1) / 4 - (g + 1 - 1) / 100 + (g + 1 - 1) / 400 + 1 := by unfold gday; simp
  have hl4 := (leap_iff g).mp hl
  w_top off
  unfold Ct
  k_fill
  intro w loose mean mg mb dp un gd cn cs fa ccd cl outer A₀ base h₀ L m₀ news s Q E hB hF hK hN hT hk hd hu hret
  refine wpAny_call ?_
  k_dflt cell_enter
  k_steps
  all_goals (refine endF hret (by k_asm) (by k_asm) (by walk_at "my sub") (by with_reducible exact rfl) ?_)
  all_goals omega

end
section
local macro_rules | `(tactic| walk_at "ite") => `(tactic| first
  | (refine ite_pos (by (try simp only [decide_eq_true_eq, beq_iff_eq, bne_iff_ne, ne_eq, Bool.false_eq_true, reduceIte]); first | assumption | omega) ?_)
  | (refine ite_neg (by (try simp only [decide_eq_true_eq, beq_iff_eq, bne_iff_ne, ne_eq, Bool.false_eq_true, reduceIte]); omega) ?_))
theorem c_fromJdP (g N : Int) (hg : 1792 ≤ g ∧ g ≤ 5000000000) (hl : isLeap g = true) (h4 : g % 400 ≠ 0) (hN9 : N = gday (g + 1) (isLeap (g + 1)) 1 1 - 1) (t : Tok) : Ct 224 6 [.float (FQ (4 * N - 2)) t] (RetT (g - 1788) 14 2) := by
  obtain ⟨q, c, e, f, p1, p2, p3, p4, p5, p6, p7, p8⟩ := year_parts g
  have hF1 := first_parts (isLeap g) p1 (by omega)
  have hsp := year_span g
  rw [if_pos hl] at hsp
  have hp := p8.mp hl
  have hyr := from_parts p1 (by omega) (k := 365) (by omega) (N := N) (by omega) rfl (fun _ => hp)
  have hNb : 2374480 ≤ N ∧ N ≤ 2000000000000 := by omega
  have hyr' : (4 * ((4 * N - 2 - 2) / 4) + 2 - 6885702) % (4 * 146097) / (4 * 36524) ≠ 4 := by
    intro h
    have : 4 * ((4 * N - 2 - 2) / 4) + 2 - 6885702 = 4 * (146097 * q + (36524 * c + (1461 * e + (365 * f + 365)))) := by omega
    rw [this] at h
    have e2 : 4 * (146097 * q + (36524 * c + (1461 * e + (365 * f + 365)))) % (4 * 146097) = 4 * (36524 * c + (1461 * e + (365 * f + 365))) := by omega
    rw [e2] at h
    omega
  have hy4 : (4 * ((4 * N - 2 - 2) / 4) + 2 - 6885702) % (4 * 146097) % (4 * 36524) % (4 * 1461) / (4 * 365) = 4 := by
    rcases hyr with ⟨-, h, -⟩ | ⟨-, -, h, -⟩ | ⟨h, -⟩
    · exact absurd h hyr'
    · exact h
    · omega
  have hye : (4 * ((4 * N - 2 - 2) / 4) + 2 - 6885702) / (4 * 146097) * 400 + (4 * ((4 * N - 2 - 2) / 4) + 2 - 6885702) % (4 * 146097) / (4 * 36524) * 100 + (4 * ((4 * N - 2 - 2) / 4) + 2 - 6885702) % (4 * 146097) % (4 * 36524) / (4 * 1461) * 4 + (4 * ((4 * N - 2 - 2) / 4) + 2 - 6885702) % (4 * 146097) % (4 * 36524) % (4 * 1461) / (4 * 365) = g := by
    rcases hyr with ⟨-, h, -⟩ | ⟨-, -, -, h⟩ | ⟨h, -⟩
    · exact absurd h hyr'
    · exact h
    · omega
  clear hyr hyr' p1 p2 p3 p4 p5 p6 p7 p8 hF1 hsp hp
  w_top off
  unfold Ct
  k_fill
  intro w loose mean mg mb dp un gd cn cs fa ccd cl outer A₀ base h₀ L m₀ news s Q E hB hF hK hN hT hk hd hu hret
  refine wpAny_call ?_
  k_dflt cell_enter
  k_steps
  all_goals (refine endT hret (by k_asm) (by k_asm) (by k_mem) (by walk_at "my sub") ?_ ?_ ?_)
  all_goals first | rfl | omega

end
end -- C13
section -- LX
open PySem PySem.W PyProof.Rows PySem.Calls

/-- the test of an if comes out false, all else stands -/
structure CutC (h₀ : Heap) (L : Addr) (m : Str → Option Value) (news : List (Addr × Obj)) (s : Shared) (k : Bool) (s' : Shared) : Prop where
  out : k = false
  here : ∃ (h : Heap) (tk : Nat), s' = { s with heap := h, toks := tk } ∧ Fr h₀ L h m ∧ News h₀ L h news

theorem cut_if {M : Model} {A : Around} {E : Value → Shared → Prop} {s : Shared} {env : Env} {h₀ : Heap} {L : Addr} {m : Str → Option Value} {news : List (Addr × Obj)} {test : PySem.Expr} {body orelse : List Stmt} {pos : Pos} {Q : Flow → Shared → Prop}
    (F0 : Fr h₀ L s.heap m) (N0 : News h₀ L s.heap news)
    (hc : Hold (wpAny M A (isTrue test env (eval test env)) (fun k s₂ => CutC h₀ L m news s k s₂) E s))
    (hk : Hold (∀ (h : Heap) (tk : Nat), Fr h₀ L h m → News h₀ L h news → wpAny M A (execs orelse env) Q E { s with heap := h, toks := tk })) :
    wpAny M A (exec (.If test body orelse pos) env) Q E s := by
  refine wpAny_If (wpAny_mono hc (fun k s₂ hq => ?_) fun _ _ h => h)
  obtain ⟨hf, h, tk, hs, F, N⟩ := hq
  subst hf
  subst hs
  exact hk h tk F N

theorem cut_end {h₀ h' : Heap} {L : Addr} {m : Str → Option Value} {news news' : List (Addr × Obj)} {s : Shared} {k : Bool} {tk : Nat} (F : Fr h₀ L h' m) (N : News h₀ L h' news') (hs : ∀ p ∈ news, p ∈ news') (e : k = false) : CutC h₀ L m news s k { s with heap := h', toks := tk } :=
  ⟨e, h', tk, rfl, F, fun p hp => N p (hs p hp)⟩

theorem r_tup_ne {prog : Program} {w : World} {A : Around} {E : Value → Shared → Prop} {s : Shared} {h₀ : Heap} {L D D' : Addr} {news : List (Addr × Obj)} {x y z x' y' z' : Int} {t u v t' u' v' : Tok} {n n' : Nat} {Q : Value → Shared → Prop}
    (N : News h₀ L s.heap news) (hd : (D, ({ cls := .type "tuple", data := .seq #[.int x t, .int y u, .int z v] n } : Obj)) ∈ news) (hd' : (D', ({ cls := .type "tuple", data := .seq #[.int x' t', .int y' u', .int z' v'] n' } : Obj)) ∈ news)
    (h1 : x = x') (h2 : y = y') (h3 : z = z') (hu : A.units < cLine) (h : Q (.bool false) s) : wpAny (model prog w) A (compareOp .NotEq (.ref D) (.ref D')) Q E s := by
  subst h1; subst h2; subst h3
  show wpAny _ A (richCompare .NotEq _ _) Q E s
  refine PySem.SeqAt.RcNeAt.tuples (items := #[.int x t, .int y u, .int z v]) (items2 := #[.int x t', .int y u', .int z v']) (e := fun _ => true) ⟨_, N.get hd, rfl, _, rfl⟩ ⟨_, N.get hd', rfl, _, rfl⟩ hu (fun j h1 h2 => ?_) prog w E Q h
  have e1 : j = 0 ∨ j = 1 ∨ j = 2 := by
    have h3 : j < 3 := h1
    omega
  rcases e1 with rfl | rfl | rfl
  · have := PySem.SeqAt.EqAt.int_int (A := A.in1) (s := s) x t x t'
    rwa [beq_self_eq_true] at this
  · have := PySem.SeqAt.EqAt.int_int (A := A.in1) (s := s) y u y u'
    rwa [beq_self_eq_true] at this
  · have := PySem.SeqAt.EqAt.int_int (A := A.in1) (s := s) z v z v'
    rwa [beq_self_eq_true] at this

theorem use231 {y : Int} {t : Tok} {w : World} {loose : List Str} {mean : ExcName → Option Value} {mg mb : Str → Option Value} {dp un : Nat} {gd : Option (List Code)} {cn : Str} {cs : Scope} {a : Addr} {ccd : Value} {cl : List (Str × Addr)} {outer : List Env} {A₀ : Around} {base h₀ : Heap} {L : Addr} {m : Str → Option Value} {news : List (Addr × Obj)} {s : Shared} {Q E : Value → Shared → Prop}
    (B : Below A₀ base outer h₀) (F : Fr h₀ L s.heap m) (X : (hd.heap_39 w.params).In h₀) (N : News h₀ L s.heap news) (T : Top hd.view_39 loose mean mg mb h₀) (hk : cs.kind = .function)
    (hd : dp + 2 < recursionLimit) (hu : un + 8 * 2 < cLine) (ret : gday y (isLeap y) 1 1 = 1721425 + 365 * (y - 1) + (y - 1) / 4 - (y - 1) / 100 + (y - 1) / 400 + 1 → RetI (gday y (isLeap y) 1 1) Q h₀ L m news s) :
    wpAny (model PySem.Challenge.rw_ak5021_01.row.prog w) (ktrTop dp un gd cn cs L a ccd cl outer) (call (.ref 231) [.int y t]) Q E s :=
  (c_law231 y t).use B F X N T hk hd hu (ret (gfirst y (isLeap y)))

theorem c_fj1 (y a : Int) (mk0 : Mark 5 y) (hy : -10000000000 ≤ y ∧ y ≤ 10000000000) (h100 : y % 100 = 0) (he : a = 4 * gday y (isLeap y) 1 1 + 234) (t : Tok) : Ct 123 8 [.float (FQ a) t] (RetT y (if y % 400 = 0 then 2 else 3) (if y % 400 = 0 then 29 else 1)) := by
  subst he
  by_cases h4 : y % 400 = 0
  · rw [if_pos h4, if_pos h4]
    have hl : isLeap y = true := (leap_iff y).mpr ⟨by omega, .inr h4⟩
    have hg := gday_cum y (isLeap y) 2 29
    have hc : cumd (isLeap y) 2 = 31 := by rw [hl]; decide
    have hm : mlen (isLeap y) 2 = 29 := by rw [hl]; decide
    have h := c_fromJdG y 2 29 (gday y (isLeap y) 2 29) hy (by omega) (by omega) rfl t
    have e : 4 * gday y (isLeap y) 2 29 - 2 = 4 * gday y (isLeap y) 1 1 + 234 := by omega
    rw [e] at h
    exact h
  · rw [if_neg h4, if_neg h4]
    have hl : isLeap y = false := (leap_not y).mpr (by omega)
    have hg := gday_cum y (isLeap y) 3 1
    have hc : cumd (isLeap y) 3 = 59 := by rw [hl]; decide
    have hm : mlen (isLeap y) 3 = 31 := by rw [hl]; decide
    have h := c_fromJdG y 3 1 (gday y (isLeap y) 3 1) hy (by omega) (by omega) rfl t
    have e : 4 * gday y (isLeap y) 3 1 - 2 = 4 * gday y (isLeap y) 1 1 + 234 := by omega
    rw [e] at h
    exact h
theorem c_fj2 (y a : Int) (mk0 : Mark 5 y) (hy : -10000000000 ≤ y ∧ y ≤ 10000000000) (he : a = 4 * gday (y + 1) (isLeap (y + 1)) 1 1 - 6) (t : Tok) : Ct 123 8 [.float (FQ a) t] (RetT y 12 31) := by
  subst he
  have hg := gday_cum y (isLeap y) 12 31
  have hs := year_span y
  have hc : cumd (isLeap y) 12 = (if isLeap y = true then 335 else 334) := by cases isLeap y <;> decide
  have hm : mlen (isLeap y) 12 = 31 := by cases isLeap y <;> decide
  have h := c_fromJdG y 12 31 (gday y (isLeap y) 12 31) hy (by omega) (by omega) rfl t
  have e : 4 * gday y (isLeap y) 12 31 - 2 = 4 * gday (y + 1) (isLeap (y + 1)) 1 1 - 6 := by
    by_cases hb : isLeap y = true
    · rw [if_pos hb] at hc hs; omega
    · rw [if_neg hb] at hc hs; omega
  rw [e] at h
  exact h

theorem first_le_first {a b : Int} (h : a ≤ b) : gday a (isLeap a) 1 1 ≤ gday b (isLeap b) 1 1 := by rw [gfirst, gfirst]; omega
theorem dY_rng {N lo hi : Int} (h1 : gday lo (isLeap lo) 1 1 ≤ N) (h2 : N < gday (hi + 1) (isLeap (hi + 1)) 1 1) : lo ≤ dY N ∧ dY N ≤ hi := by
  obtain ⟨hv, hN⟩ := date_spec N
  obtain ⟨a, b⟩ := in_year hv hN
  constructor
  · by_cases h : lo ≤ dY N
    · exact h
    · exfalso
      have := first_le_first (a := dY N + 1) (b := lo) (by omega)
      omega
  · by_cases h : dY N ≤ hi
    · exact h
    · exfalso
      have := first_le_first (a := hi + 1) (b := dY N) (by omega)
      omega
theorem iso_b {k j N : Int} (hk : 2 ≤ k ∧ k ≤ 9998) (hj : 0 ≤ j ∧ j ≤ 6) (hN : gday k (isLeap k) 1 1 + j - 3 = N) : (1 ≤ dY N ∧ dY N ≤ 9999) ∧ (1 ≤ dY (N - N % 7 + 3) ∧ dY (N - N % 7 + 3) ≤ 9999) ∧ 1721000 ≤ N ∧ N ≤ 6000000 := by
  have g0 := gfirst k (isLeap k)
  have g1 := gfirst 1 (isLeap 1)
  have g2 := gfirst (9999 + 1) (isLeap (9999 + 1))
  have hN2 : 1721788 ≤ N ∧ N ≤ 5372799 + 3 := by omega
  refine ⟨dY_rng ?_ ?_, dY_rng ?_ ?_, ?_⟩ <;> omega
theorem leap_step {a r : Int} (ha : a % 4 = 0) (h : ((a % 100 == 0 && a % 400 != 0) = true ∧ r = a + 4) ∨ ((a % 100 == 0 && a % 400 != 0) = false ∧ r = a)) : isLeap r = true ∧ a ≤ r ∧ r ≤ a + 4 := by
  rcases h with ⟨h1, rfl⟩ | ⟨h1, rfl⟩
  · simp only [Bool.and_eq_true, beq_iff_eq, bne_iff_ne] at h1
    exact ⟨(leap_iff _).mpr ⟨by omega, by omega⟩, by omega, by omega⟩
  · simp only [Bool.and_eq_false_iff, beq_eq_false_iff_ne, bne_eq_false_iff_eq] at h1
    exact ⟨(leap_iff _).mpr ⟨by omega, by omega⟩, by omega, by omega⟩
theorem c_toIso' (z wk k N : Int) (mk0 : Mark 6 N) (hz : z = dY (N - N % 7 + 3)) (hw : wk = (N - N % 7 + 3 - gday z (isLeap z) 1 1) / 7 + 1) (hk9 : k = N % 7 + 1) (hzb : 1 ≤ z ∧ z ≤ 9999) (t u v : Tok) : Ct 189 12 [.int z t, .int wk u, .int k v] (RetF (4 * N - 2)) :=
  c_toIso z wk k N hz hw hk9 hzb t u v
theorem c_toJdP' (y g : Int) (mk0 : Mark 7 g) (hl : isLeap g = true) (hy : 1 ≤ y ∧ y ≤ 5000000000) (hg : g = y + 1788) (t u v : Tok) : Ct 217 6 [.int y t, .int 14 u, .int 2 v] (RetF (4 * (gday (g + 1) (isLeap (g + 1)) 1 1 - 1) - 2)) :=
  c_toJdP y g hy hg hl t u v
theorem c_fromJdP' (g N : Int) (mk0 : Mark 7 g) (hl : isLeap g = true) (hg : 1792 ≤ g ∧ g ≤ 5000000000) (h4 : g % 400 ≠ 0) (hN9 : N = gday (g + 1) (isLeap (g + 1)) 1 1 - 1) (t : Tok) : Ct 224 6 [.float (FQ (4 * N - 2)) t] (RetT (g - 1788) 14 2) :=
  c_fromJdP g N hg hl h4 hN9 t
theorem r_ne_ffE {prog : Program} {w : World} {A : Around} {E : Value → Shared → Prop} {s : Shared} {x y : UInt64} {a b : Int} {t u : Tok} {Q : Value → Shared → Prop} (hx : x = FQ a) (hy : y = FQ b) (ha : B a) (e : a = b) (h : Q (.bool false) s) : wpAny (model prog w) A (compareOp .NotEq (.float x t) (.float y u)) Q E s := by
  subst e
  refine r_ne_ff hx hy ha ha ?_
  rw [bne_self_eq_false]; exact h

theorem newsNilOf {h₀ h : Heap} {L : Addr} {m : Str → Option Value} (F0 : Fr h₀ L h m) : News h₀ L h [] := News.nil
theorem five_t {Y : Int} (h1 : Y % 100 = 0) (h2 : Y % 400 ≠ 0) : true = (Y % 100 == 0 && Y % 400 != 0) := by
  rw [beq_iff_eq.mpr h1, bne_iff_ne.mpr h2]; rfl
theorem five_f {Y : Int} (h : Y % 100 ≠ 0 ∨ Y % 400 = 0) : false = (Y % 100 == 0 && Y % 400 != 0) := by
  rcases h with h | h
  · rw [beq_eq_false_iff_ne.mpr h]; rfl
  · rw [bne_eq_false_iff_eq.mpr h, Bool.and_false]
end -- LX
section -- X2
open PySem PySem.W PyProof.Rows
/-- a call that raises ValueError -/
def CtX (f : Addr) (d : Nat) (vs : List Value) : Prop :=
  ∀ (w : World) (loose : List Str) (mean : ExcName → Option Value) (mg mb : Str → Option Value) (dp un : Nat) (gd : Option (List Code)) (cn : Str) (cs : Scope) (a : Addr) (ccd : Value) (cl : List (Str × Addr)) (outer : List Env) (A₀ : Around) (base h₀ : Heap) (L : Addr) (m : Str → Option Value) (news : List (Addr × Obj)) (s : Shared) (Q E : Value → Shared → Prop),
    Below A₀ base outer h₀ → Fr h₀ L s.heap m → (hd.heap_39 w.params).In h₀ → News h₀ L s.heap news → Top hd.view_39 loose mean mg mb h₀ → (hd.heap_39 w.params).In base → Top hd.view_39 loose mean mg mb base → cs.kind = .function →
    dp + d < recursionLimit → un + 8 * d < cLine →
    (∀ e a0 h' tk, Heap.FlyingW base (envX cn cs L a ccd cl :: outer) e (.type "ValueError") a0 h' → h₀.UpToSlots h' → h'.Ns L m → E (.ref e) { s with heap := h', toks := tk }) →
      wpAny (model PySem.Challenge.rw_ak5021_01.row.prog w) (ktrTop dp un gd cn cs L a ccd cl outer) (call (.ref f) vs) Q E s
theorem CtX.use {f : Addr} {d : Nat} {vs : List Value} (C : CtX f d vs) {w : World} {loose : List Str} {mean : ExcName → Option Value} {mg mb : Str → Option Value} {dp un : Nat} {gd : Option (List Code)} {cn : Str} {cs : Scope} {a : Addr} {ccd : Value} {cl : List (Str × Addr)} {outer : List Env} {A₀ : Around} {base h₀ : Heap} {L : Addr} {m : Str → Option Value} {news : List (Addr × Obj)} {s : Shared} {Q E : Value → Shared → Prop}
    (B : Below A₀ base outer h₀) (F : Fr h₀ L s.heap m) (X : (hd.heap_39 w.params).In h₀) (N : News h₀ L s.heap news) (T : Top hd.view_39 loose mean mg mb h₀) (Xb : (hd.heap_39 w.params).In base) (Tb : Top hd.view_39 loose mean mg mb base) (hk : cs.kind = .function)
    (hd : dp + d < recursionLimit) (hu : un + 8 * d < cLine) (ret : ∀ e a0 h' tk, Heap.FlyingW base (envX cn cs L a ccd cl :: outer) e (.type "ValueError") a0 h' → h₀.UpToSlots h' → h'.Ns L m → E (.ref e) { s with heap := h', toks := tk }) :
    wpAny (model PySem.Challenge.rw_ak5021_01.row.prog w) (ktrTop dp un gd cn cs L a ccd cl outer) (call (.ref f) vs) Q E s :=
  C _ _ _ _ _ _ _ _ _ _ _ _ _ _ _ _ _ _ _ _ _ _ _ B F X N T Xb Tb hk hd hu ret
section
local macro_rules | `(tactic| walk_at "call ref") => `(tactic| (k_here; (with_reducible show wpAny _ _ (call (Value.ref 102) _) _ _ _); k_dflt ((refine' (c_isleap'' _ _ _ ?ke (by assumption) _).use ?k1 ?k2 ?k3 ?k4 ?k5 ?kK ?kd ?ku ?_); (case ke => omega); (case k1 => k_asm); (case k2 => k_asm); (case k3 => k_asm); (case k4 => k_asm); (case k5 => k_asm); (case kK => first | exact rfl | assumption); (case kd => ktr_room); (case ku => ktr_units); intro t9 h9 tk9 F9 N9; (try dsimp only); (try k_sweep); (try k_fold))))
theorem x_legalP (y g : Int) (hy : 1 ≤ y ∧ y ≤ 1000000000) (hg : g = y + 1788) (hl : isLeap g = false) (t u v : Tok) : CtX 210 4 [.int y t, .int 14 u, .int 2 v] := by
  w_top off
  unfold CtX
  k_fill
  intro w loose mean mg mb dp un gd cn cs fa ccd cl outer A₀ base h₀ L m₀ news s Q E hB hF hK hN hT hKb hTb hk hd hu hret
  refine wpAny_call ?_
  k_dflt cell_enter
  k_steps
  (rename Heap.NewExc _ _ _ _ => hx9); (rename Below _ _ _ _ => hB9); (rename Fr _ _ _ _ => F9)
  k_dflt (refine x_caught hB9 F9 hx9 hKb hTb (by k_is) PyProof.Rows.Boot.«AssertionError» (by decide) PySem.F.isExc_AssertionError PySem.F.notTuple_AssertionError (by rw [isSubtype_type]; kernel_rfl) ?_)
  intro h7 g7 tk7 oe7 vs7 T7 F7 N7 B7 X7 P7 hc7 hd7 h27
  refine wpAny_execs_cons ?_
  k_dflt (refine x_Raise_from PySem.F.excCall_ValueError PySem.F.excRaise_ValueError PySem.F.isExc_AssertionError (by rfl) ?_)
  k_steps
  unfold HoldX
  (rename Fr _ _ _ _ => F8); (rename News _ _ _ _ => N8)
  k_dflt (refine' x_raised B7 T7 ?FG ?F ?N ?hm ?hN hc7 hd7 h27 ?hE ?hk ?hlo ?hdb; (case FG => assumption); (case F => exact F8); (case N => exact N8); (case hk => exact rfl); (case hlo => exact rfl); (case hdb => decide); (case hm => exact rfl); (case hN => k_mem))
  case hE =>
    intro e a0 h' tk fl up ns
    exact hret e a0 h' tk fl up ns

end
section
local macro_rules | `(tactic| walk_at "call ref") => `(tactic| ((with_reducible show wpAny _ _ (call (Value.ref 210) _) _ _ _); refine HoldX.mk ?_))
local macro_rules | `(tactic| walk_at "pad") => `(tactic| skip)
theorem x_toJdP (y g : Int) (hy : 1 ≤ y ∧ y ≤ 1000000000) (hg : g = y + 1788) (hl : isLeap g = false) (t u v : Tok) : CtX 217 6 [.int y t, .int 14 u, .int 2 v] := by
  w_top off
  unfold CtX
  k_fill
  intro w loose mean mg mb dp un gd cn cs fa ccd cl outer A₀ base h₀ L m₀ news s Q E hB hF hK hN hT hKb hTb hk hd hu hret
  refine wpAny_call ?_
  k_dflt cell_enter
  k_steps
  unfold HoldX
  (rename Below _ _ _ _ => B8)
  k_dflt (refine' (x_legalP _ _ hy hg hl _ _ _).use ?k1 ?k2 ?k3 ?k4 ?k5 ?k6 ?k7 ?kK ?kd ?ku ?_; (case k1 => k_asm); (case k2 => k_asm); (case k3 => k_asm); (case k4 => k_asm); (case k5 => k_asm); (case k6 => exact hKb); (case k7 => exact hTb); (case kK => first | exact rfl | assumption); (case kd => ktr_room); (case ku => ktr_units))
  intro e8 a8 h8 tk8 fl8 up8 ns8
  refine wpAny_leaves_onW (Around.frames_deeper B8.stack) rfl fl8 fun h2 x1 x2 => ?_
  (rename Fr h₀ L _ m₀ => FG8)
  exact hret e8 a8 h2 tk8 x1 ((Heap.UpToSlots.of_keeps FG8.keep).trans (up8.trans x2)) ((up8.trans x2).ns FG8.ns)

end
end -- X2
section -- L2
open PySem PySem.W PyProof.Rows
section
local macro_rules | `(tactic| walk_at "call ref") => `(tactic| (k_here; (with_reducible show wpAny _ _ (call (Value.ref 238) _) _ _ _); k_dflt ((refine' (c_lawDate _ ?ke _).use ?k1 ?k2 ?k3 ?k4 ?k5 ?kK ?kd ?ku ?_); (case ke => walk_at "my nb"); (case k1 => k_asm); (case k2 => k_asm); (case k3 => k_asm); (case k4 => k_asm); (case k5 => k_asm); (case kK => first | exact rfl | assumption); (case kd => ktr_room); (case ku => ktr_units); intro D9 t91 t92 t93 n9 h9 tk9 F9 N9; (try dsimp only); (try k_sweep); (try k_fold))))
local macro_rules | `(tactic| walk_at "call ref") => `(tactic| (k_here; (with_reducible show wpAny _ _ (call (Value.ref 167) [_]) _ _ _); k_dflt ((refine' (c_easterW _ (by omega) _).use ?k1 ?k2 ?k3 ?k4 ?k5 ?kK ?kd ?ku ?_); (case k1 => k_asm); (case k2 => k_asm); (case k3 => k_asm); (case k4 => k_asm); (case k5 => k_asm); (case kK => first | exact rfl | assumption); (case kd => ktr_room); (case ku => ktr_units); intro D9 t91 t92 t93 n9 h9 tk9 F9 N9; (try dsimp only); (try k_sweep); (try k_fold))))
local macro_rules | `(tactic| walk_at "call ref") => `(tactic| (k_here; (with_reducible show wpAny _ _ (call (Value.ref 167) [_, Value.str (PySem.Str.ofString "orthodox") _]) _ _ _); k_dflt ((refine' (c_easterO _ (by omega) (by omega) _ _).use ?k1 ?k2 ?k3 ?k4 ?k5 ?kK ?kd ?ku ?_); (case k1 => k_asm); (case k2 => k_asm); (case k3 => k_asm); (case k4 => k_asm); (case k5 => k_asm); (case kK => first | exact rfl | assumption); (case kd => ktr_room); (case ku => ktr_units); intro D9 t91 t92 t93 n9 h9 tk9 F9 N9; (try dsimp only); (try k_sweep); (try k_fold))))
local macro_rules | `(tactic| walk_at "call ref") => `(tactic| (k_here; (with_reducible show wpAny _ _ (call (Value.ref 167) [_, Value.str (PySem.Str.ofString "eastern") _]) _ _ _); k_dflt ((refine' (c_easterE _ (by omega) (by omega) _ _).use ?k1 ?k2 ?k3 ?k4 ?k5 ?kK ?kd ?ku ?_); (case k1 => k_asm); (case k2 => k_asm); (case k3 => k_asm); (case k4 => k_asm); (case k5 => k_asm); (case kK => first | exact rfl | assumption); (case kd => ktr_room); (case ku => ktr_units); intro D9 t91 t92 t93 n9 h9 tk9 F9 N9; (try dsimp only); (try k_sweep); (try k_fold))))
local macro_rules | `(tactic| walk_at "my nb") => `(tactic| first | with_reducible exact westS_b _ (by omega) | with_reducible exact oldS_b _ _ (by omega) (by omega) | omega)
local macro_rules | `(tactic| walk_at "call ref") => `(tactic| (k_here; (with_reducible show wpAny _ _ (call (Value.ref 231) _) _ _ _); k_dflt ((refine' use231 ?k1 ?k2 ?k3 ?k4 ?k5 ?kK ?kd ?ku ?_); (case k1 => k_asm); (case k2 => k_asm); (case k3 => k_asm); (case k4 => k_asm); (case k5 => k_asm); (case kK => first | exact rfl | assumption); (case kd => ktr_room); (case ku => ktr_units); intro gf9 t9 h9 tk9 F9 N9; (try dsimp only); (try k_sweep); (try k_fold))))
local macro_rules | `(tactic| walk_at "call ref") => `(tactic| (k_here; (with_reducible show wpAny _ _ (call (Value.ref 252) _) _ _ _); k_dflt ((refine' (c_epact _ _).use ?k1 ?k2 ?k3 ?k4 ?k5 ?kK ?kd ?ku ?_); (case k1 => k_asm); (case k2 => k_asm); (case k3 => k_asm); (case k4 => k_asm); (case k5 => k_asm); (case kK => first | exact rfl | assumption); (case kd => ktr_room); (case ku => ktr_units); intro t9 h9 tk9 F9 N9; (try dsimp only); (try k_sweep); (try k_fold))))
local macro_rules | `(tactic| walk_at "call ref") => `(tactic| (k_here; (with_reducible show wpAny _ _ (call (Value.ref 259) _) _ _ _); k_dflt ((refine' (c_lawWest _ _).use ?k1 ?k2 ?k3 ?k4 ?k5 ?kK ?kd ?ku ?_); (case k1 => k_asm); (case k2 => k_asm); (case k3 => k_asm); (case k4 => k_asm); (case k5 => k_asm); (case kK => first | exact rfl | assumption); (case kd => ktr_room); (case ku => ktr_units); intro t9 h9 tk9 F9 N9; (try dsimp only); (try k_sweep); (try k_fold))))
local macro_rules | `(tactic| walk_at "call ref") => `(tactic| (k_here; (with_reducible show wpAny _ _ (call (Value.ref 266) _) _ _ _); k_dflt ((refine' (c_lawOld _ _ _ _).use ?k1 ?k2 ?k3 ?k4 ?k5 ?kK ?kd ?ku ?_); (case k1 => k_asm); (case k2 => k_asm); (case k3 => k_asm); (case k4 => k_asm); (case k5 => k_asm); (case kK => first | exact rfl | assumption); (case kd => ktr_room); (case ku => ktr_units); intro t9 h9 tk9 F9 N9; (try dsimp only); (try k_sweep); (try k_fold))))
local macro_rules | `(tactic| walk_at "call ref") => `(tactic| (k_here; (with_reducible show wpAny _ _ (call (Value.ref 123) _) _ _ _); k_dflt ((refine' (c_fj1 _ _ (by assumption) (by omega) (by omega) (by omega) _).use ?k1 ?k2 ?k3 ?k4 ?k5 ?kK ?kd ?ku ?_); (case k1 => k_asm); (case k2 => k_asm); (case k3 => k_asm); (case k4 => k_asm); (case k5 => k_asm); (case kK => first | exact rfl | assumption); (case kd => ktr_room); (case ku => ktr_units); intro D9 t91 t92 t93 n9 h9 tk9 F9 N9; (try dsimp only); (try k_sweep); (try k_fold))))
local macro_rules | `(tactic| walk_at "call ref") => `(tactic| (k_here; (with_reducible show wpAny _ _ (call (Value.ref 123) _) _ _ _); k_dflt ((refine' (c_fj2 _ _ (by assumption) (by omega) (by omega) _).use ?k1 ?k2 ?k3 ?k4 ?k5 ?kK ?kd ?ku ?_); (case k1 => k_asm); (case k2 => k_asm); (case k3 => k_asm); (case k4 => k_asm); (case k5 => k_asm); (case kK => first | exact rfl | assumption); (case kd => ktr_room); (case ku => ktr_units); intro D9 t91 t92 t93 n9 h9 tk9 F9 N9; (try dsimp only); (try k_sweep); (try k_fold))))
local macro_rules | `(tactic| walk_at "call ref") => `(tactic| (k_here; (with_reducible show wpAny _ _ (call (Value.ref 196) _) _ _ _); k_dflt ((refine' (c_fromIso _ (by omega) (by assumption) _).use ?k1 ?k2 ?k3 ?k4 ?k5 ?kK ?kd ?ku ?_); (case k1 => k_asm); (case k2 => k_asm); (case k3 => k_asm); (case k4 => k_asm); (case k5 => k_asm); (case kK => first | exact rfl | assumption); (case kd => ktr_room); (case ku => ktr_units); intro D9 t91 t92 t93 h9 tk9 F9 N9; (try dsimp only); (try k_sweep); (try k_fold))))
local macro_rules | `(tactic| walk_at "call ref") => `(tactic| (k_here; (with_reducible show wpAny _ _ (call (Value.ref 189) _) _ _ _); k_dflt ((refine' (c_toIso' _ _ _ _ (by assumption) (by with_reducible rfl) (by with_reducible rfl) (by with_reducible rfl) (by assumption) _ _ _).use ?k1 ?k2 ?k3 ?k4 ?k5 ?kK ?kd ?ku ?_); (case k1 => k_asm); (case k2 => k_asm); (case k3 => k_asm); (case k4 => k_asm); (case k5 => k_asm); (case kK => first | exact rfl | assumption); (case kd => ktr_room); (case ku => ktr_units); intro t9 h9 tk9 F9 N9; (try dsimp only); (try k_sweep); (try k_fold))))
local macro_rules | `(tactic| walk_at "call ref") => `(tactic| (k_here; (with_reducible show wpAny _ _ (call (Value.ref 217) [Value.int (_ - 1788) _, _, _]) _ _ _); k_dflt ((refine' (c_toJdP' _ _ (by assumption) (by assumption) (by omega) (by omega) _ _ _).use ?k1 ?k2 ?k3 ?k4 ?k5 ?kK ?kd ?ku ?_); (case k1 => k_asm); (case k2 => k_asm); (case k3 => k_asm); (case k4 => k_asm); (case k5 => k_asm); (case kK => first | exact rfl | assumption); (case kd => ktr_room); (case ku => ktr_units); intro t9 h9 tk9 F9 N9; (try dsimp only); (try k_sweep); (try k_fold))))
local macro_rules | `(tactic| walk_at "call ref") => `(tactic| (k_here; (with_reducible show wpAny _ _ (call (Value.ref 224) _) _ _ _); k_dflt ((refine' (c_fromJdP' _ _ (by assumption) (by assumption) (by omega) (by assumption) (by with_reducible rfl) _).use ?k1 ?k2 ?k3 ?k4 ?k5 ?kK ?kd ?ku ?_); (case k1 => k_asm); (case k2 => k_asm); (case k3 => k_asm); (case k4 => k_asm); (case k5 => k_asm); (case kK => first | exact rfl | assumption); (case kd => ktr_room); (case ku => ktr_units); intro D9 t91 t92 t93 n9 h9 tk9 F9 N9; (try dsimp only); (try k_sweep); (try k_fold))))

local macro_rules | `(tactic| walk_at "exec Assign") => `(tactic| ((with_reducible show wpAny _ _ (exec (Stmt.Assign [PySem.Expr.Name (PySem.Str.ofString "thursday") _] _ _) _) _ _ _); (fail_if_success (rename Mark 6 _ => hM6)); refine Hold.mk ?_))
local macro_rules | `(tactic| walk_at "exec Try") => `(tactic| k_dflt ((show wpAny _ _ (exec (Stmt.Try _ (_ :: _) _ [] _) _) _ _ _); refine wpAny_Try_except ?_))
local macro_rules | `(tactic| walk_at "call ref") => `(tactic| ((with_reducible show wpAny _ _ (call (Value.ref 217) [Value.int (_ + 1) _, _, _]) _ _ _); refine HoldX.mk ?_))
local macro_rules | `(tactic| walk_at "compareOp NotEq float float") => `(tactic| (refine' r_ne_ffE ?kx ?ky ?ka ?ke ?_; (case kx => walk_at "my fq"); (case ky => walk_at "my fq"); (case ke => walk_at "my eq"); (case ka => walk_at "my b")))
def numF (k' : Int) : Int := if -10000000 < k' ∧ k' < 10000000 then k' else if -10000000 < k' ∧ ¬k' < 10000000 then k' % 10000000 else k' % 10000000
theorem numF_b (k : Int) : -10000000 < numF k ∧ numF k < 10000000 := by unfold numF; (repeat' split) <;> omega
theorem nums_b (wl : List Int) (i : Nat) (hi : i < 5) : -10000000 < (List.map (fun k' : Int => if -10000000 < k' ∧ k' < 10000000 then k' else if -10000000 < k' ∧ ¬k' < 10000000 then k' % 10000000 else k' % 10000000) (List.take 5 wl) ++ [0, 0, 0, 0, 0]).getD i 0 ∧ (List.map (fun k' : Int => if -10000000 < k' ∧ k' < 10000000 then k' else if -10000000 < k' ∧ ¬k' < 10000000 then k' % 10000000 else k' % 10000000) (List.take 5 wl) ++ [0, 0, 0, 0, 0]).getD i 0 < 10000000 := by
  have hall : ∀ z ∈ (List.map numF (List.take 5 wl) ++ [0, 0, 0, 0, 0]), -10000000 < z ∧ z < 10000000 := by
    intro z hz
    rcases List.mem_append.mp hz with h | h
    · obtain ⟨k, _, rfl⟩ := List.mem_map.mp h; exact numF_b k
    · simp at h; omega
  have hlen : i < (List.map numF (List.take 5 wl) ++ [0, 0, 0, 0, 0]).length := by simp; omega
  have := hall _ (List.getElem_mem hlen)
  rw [List.getD_eq_getElem?_getD]
  show -10000000 < ((List.map numF (List.take 5 wl) ++ [0, 0, 0, 0, 0])[i]?).getD 0 ∧ ((List.map numF (List.take 5 wl) ++ [0, 0, 0, 0, 0])[i]?).getD 0 < 10000000
  rw [List.getElem?_eq_getElem hlen]
  exact this
local macro_rules | `(tactic| walk_at "eval Name") => `(tactic| ((with_reducible show wpAny _ _ (eval (PySem.Expr.Name (PySem.Str.ofString "base") _) _) _ _ _); k_dflt (refine' nameX_C ?N ?c ?m ?d ?_ ?a ?b; (case a => rfl); (case b => rfl); (case N => k_asm); (case c => rfl); (case m => k_mem); (case d => with_reducible assumption); k_whole)))
local macro_rules | `(tactic| walk_at "exec Assign cons ListComp") => `(tactic| ((with_reducible show wpAny _ _ (exec (Stmt.Assign [PySem.Expr.Name (PySem.Str.ofString "rare") _] _ _) _) _ _ _); refine Hold.mk ?_))
local macro_rules | `(tactic| walk_at "exec If") => `(tactic| ((with_reducible show wpAny _ _ (exec (Stmt.If (PySem.Expr.BoolOp _ _ _) _ _ _) _) _ _ _); refine Hold.mk ?_))
local macro_rules | `(tactic| walk_at "exec If") => `(tactic| ((with_reducible show wpAny _ _ (exec (Stmt.If (PySem.Expr.Compare (PySem.Expr.Call _ _ _ _) _ _ _) _ _ _) _) _ _ _); refine Hold.mk ?_))
local macro_rules | `(tactic| walk_at "compareOp In int ref") => `(tactic| (k_here; k_dflt ((rename News _ _ _ _ => nE'); (refine in_tuple_ints (News.isTup nE' (List.Mem.head _)) (by repeat constructor) ?_))))
local macro_rules | `(tactic| walk_at "call builtin:len") => `(tactic| (k_here; k_dflt ((rename News _ _ _ _ => nE'); (refine r_len_lst nE' (List.Mem.head _) (by assumption) (by omega) ?_))))
local macro_rules | `(tactic| walk_at "subscriptTail Name BinOp ref int") => `(tactic| (k_here; k_dflt ((rename News _ _ _ _ => nE'); (refine' r_item_lst nE' (List.Mem.head _) (by assumption) (by assumption) (by omega) ?k1 ?k2 ?_ ?k3); (case k1 => exact Int.emod_nonneg _ (by omega)); (case k2 => exact Int.emod_lt_of_pos _ (by omega)); (case k3 => with_unfolding_all rfl); intro y9 t9 hp9; (try dsimp only at hp9))))
local macro_rules | `(tactic| walk_at "compareOp NotEq ref ref") => `(tactic| (k_here; k_dflt (refine' r_tup_ne ?k1 ?k2 ?k3 ?k4 ?k5 ?k6 ?k7 ?_; (case k1 => k_asm); (case k2 => k_mem); (case k3 => k_mem); (case k4 => walk_at "my eq"); (case k5 => walk_at "my eq"); (case k6 => walk_at "my eq"); (case k7 => ktr_units))))
local macro_rules | `(tactic| walk_at "compareOp NotEq ref ref") => `(tactic| (k_here; k_dflt (refine' r_iso_ne ?k1 ?k2 ?k3 ?k4 ?k5 ?k6 ?k7 ?_; (case k1 => k_asm); (case k2 => k_mem); (case k3 => k_mem); (case k4 => walk_at "my eq"); (case k5 => walk_at "my eq"); (case k6 => walk_at "my eq"); (case k7 => ktr_units))))
local macro_rules | `(tactic| walk_at "my eq") => `(tactic| first | with_reducible exact rfl | (split <;> omega) | omega)
local macro_rules | `(tactic| walk_at "my store") => `(tactic| first | with_reducible assumption | exact rfl)
local macro_rules | `(tactic| walk_at "storeName") => `(tactic| ((with_reducible show wpAny _ _ (storeName _ (PySem.Str.ofString "base") (Value.int (532 * _) _)) _ _ _); (rename News _ _ _ _ => nE'); k_dflt (first | (refine' storeX_C ?F nE' ?c ?U ?d ?_ ?a ?b; (case a => rfl); (case b => rfl); (case F => k_asm); (case c => rfl); (case U => k_updF); (case d => with_reducible assumption); k_whole) | (refine' storeX_C ?F (News.tail' nE') ?c ?U ?d ?_ ?a ?b; (case a => rfl); (case b => rfl); (case F => k_asm); (case c => rfl); (case U => k_updF); (case d => with_reducible assumption); k_whole) | (refine' storeX_C ?F (News.tail' (News.tail' nE')) ?c ?U ?d ?_ ?a ?b; (case a => rfl); (case b => rfl); (case F => k_asm); (case c => rfl); (case U => k_updF); (case d => with_reducible assumption); k_whole) | (refine' storeX_C ?F (News.tail' (News.tail' (News.tail' nE'))) ?c ?U ?d ?_ ?a ?b; (case a => rfl); (case b => rfl); (case F => k_asm); (case c => rfl); (case U => k_updF); (case d => with_reducible assumption); k_whole)); intro h' o' F' N' d'; (try dsimp only at N')))
local macro_rules | `(tactic| walk_at "my sub") => `(tactic| exact (fun p hp => by repeat (first | (with_reducible exact hp) | refine List.mem_cons_of_mem _ ?_)))
local macro_rules | `(tactic| walk_at "CompSrcT") => `(tactic| (refine Hold.mk ?_))
local macro_rules | `(tactic| walk_at "CompEnd") => `(tactic| k_dflt (refine' LCg.CompEnd.intro ?F ?N _ ?sub ?off ?S ?_; (case off => with_reducible assumption); (case F => k_asm); (case N => k_asm); (case sub => walk_at "my sub"); (case S => exact True.intro)))
local macro_rules | `(tactic| walk_at "my compf") => `(tactic| ((try dsimp only); first | (with_reducible assumption) | (refine bne_iff_ne.mpr ?_; with_reducible assumption) | (refine bne_eq_false_iff_eq.mpr ?_; with_reducible assumption)))
local macro_rules | `(tactic| walk_at "my comp") => `(tactic| (all_goals first | (with_reducible refine holdT ?_ ?_; (focus walk_at "my sub"); (focus walk_at "my compf")) | (with_reducible refine holdF ?_ ?_; (focus walk_at "my sub"); (focus walk_at "my compf"))))
local macro_rules | `(tactic| walk_at "my cut") => `(tactic| (unfold Hold; k_dflt (refine' cut_if ?F ?N ?hc ?hk; (case F => k_asm); (case N => k_asm))))
local macro_rules | `(tactic| walk_at "my cutend") => `(tactic| (refine cut_end (by k_asm) (by k_asm) (by walk_at "my sub") ?_))
theorem law_holds : PySem.Challenge.rw_ak5021_01.Holds := hd (by
  w_top off
  w_strict (
  k_go0; (all_goals try k_fold); k_steps
  (rename IntsAre _ (_ ++ _) => hI9); rename List Int => wl
  have hl9 : 5 ≤ (List.map (fun k' : Int => if -10000000 < k' ∧ k' < 10000000 then k' else if -10000000 < k' ∧ ¬k' < 10000000 then k' % 10000000 else k' % 10000000) (List.take 5 wl) ++ [0, 0, 0, 0, 0]).length ∧ (List.map (fun k' : Int => if -10000000 < k' ∧ k' < 10000000 then k' else if -10000000 < k' ∧ ¬k' < 10000000 then k' % 10000000 else k' % 10000000) (List.take 5 wl) ++ [0, 0, 0, 0, 0]).length ≤ 10 := by simp; omega
  have hb0 := nums_b wl (Int.toNat 0) (by decide)
  have hb1 := nums_b wl (Int.toNat 1) (by decide)
  have hb2 := nums_b wl (Int.toNat 2) (by decide)
  have hb3 := nums_b wl (Int.toNat 3) (by decide)
  have hb4 := nums_b wl (Int.toNat 4) (by decide)
  generalize (List.map (fun k' : Int => if -10000000 < k' ∧ k' < 10000000 then k' else if -10000000 < k' ∧ ¬k' < 10000000 then k' % 10000000 else k' % 10000000) (List.take 5 wl) ++ [0, 0, 0, 0, 0]) = ns at *
  have hB9 : (1600 ≤ (1600 + 100 * if ns.getD (Int.toNat 0) 0 < 0 then -ns.getD (Int.toNat 0) 0 else ns.getD (Int.toNat 0) 0) ∧ (1600 + 100 * if ns.getD (Int.toNat 0) 0 < 0 then -ns.getD (Int.toNat 0) 0 else ns.getD (Int.toNat 0) 0) ≤ 1000001600) ∧ (1600 + 100 * if ns.getD (Int.toNat 0) 0 < 0 then -ns.getD (Int.toNat 0) 0 else ns.getD (Int.toNat 0) 0) % 100 = 0 := by
    split <;> refine ⟨⟨by omega, by omega⟩, by omega⟩
  generalize (1600 + 100 * if ns.getD (Int.toNat 0) 0 < 0 then -ns.getD (Int.toNat 0) 0 else ns.getD (Int.toNat 0) 0) = B9 at *
  unfold Hold
  k_dflt (refine LCt.Assign_ListComp_T (F₀ := by k_asm) (by rfl) (by with_unfolding_all rfl) (by with_unfolding_all rfl) (by decide) (by rfl) (by decide) (by rfl) (by rfl) (by rfl) ?_)
  k_steps
  unfold Hold
  k_dflt (refine LCt.CompSrcT.range (n := 100) (by rfl) (by k_asm) (by k_asm) (by assumption) (range_small _ (by omega)) (range_size _) (Nat.le_of_ble_eq_true rfl) ?_)
  intro g9
  with_reducible refine comp_fold (f := fun v => [24, 25].any (· == epact v)) (g := fun v => v) ?trn ?fin
  case trn =>
    intro i9 t9 ys9 I9 oI9 C9 oC9 D9 m9 h9 tk9 E9 hi9 hC9 hx9 F9 N9 off9 ne9
    have off8 := off9
    (try simp only [LCg.Off3, and_true] at off9)
    (try k_fold)
    k_steps
    walk_at "my comp"
  intro ys9 hy9
  obtain ⟨hr1, hr2, hr3⟩ := rare1 B9 hB9
  generalize picks (fun v => [24, 25].any (· == epact v)) (fun v => v) B9 0 100 = rs9 at *
  k_steps
  walk_at "my cut"
  case hc =>
    unfold Hold
    k_steps
    walk_at "my cutend"
    first | exact rfl
  unfold Hold
  intro h6 tk6 F6 N6
  (try dsimp only at F6 N6 ⊢)
  k_steps
  unfold Hold
  k_dflt (refine LCt.Assign_ListComp_T (F₀ := by k_asm) (by rfl) (by with_unfolding_all rfl) (by with_unfolding_all rfl) (by decide) (by rfl) (by decide) (by rfl) (by rfl) (by rfl) ?_)
  k_steps
  unfold Hold
  k_dflt (refine' LCt.CompSrcT.range (a := 0) (b := 28) (n := 28) ?hh ?FF ?NN ?hr ?hsm ?hn ?hsz ?_; (case hh => rfl); (case FF => k_asm); (case NN => k_asm); (case hr => assumption); (case hsm => decide); (case hn => decide); (case hsz => decide))
  intro g8
  with_reducible refine comp_fold (a := 0) (f := fun v => oldS (532 * ns.getD (Int.toNat 2) 0 + 19 * v) 0 != oldS (532 * ns.getD (Int.toNat 2) 0 + 19 * v) 1) (g := fun v => 532 * ns.getD (Int.toNat 2) 0 + 19 * v) ?trn2 ?fin2
  case trn2 =>
    intro i9 t9 ys9 I9 oI9 C9 oC9 D9 m9 h9 tk9 E9 hi9 hC9 hx9 F9 N9 off9 ne9
    have off8 := off9
    (try simp only [LCg.Off3, and_true] at off9)
    (try k_fold)
    k_steps
    walk_at "my comp"
  intro ys8 hy8
  obtain ⟨q1, q2, q3⟩ := rare2 (ns.getD (Int.toNat 2) 0) hb2
  generalize picks (fun v => oldS (532 * ns.getD (Int.toNat 2) 0 + 19 * v) 0 != oldS (532 * ns.getD (Int.toNat 2) 0 + 19 * v) 1) (fun v => 532 * ns.getD (Int.toNat 2) 0 + 19 * v) 0 0 28 = rs8 at *
  k_steps
  walk_at "my cut"
  case hc =>
    unfold Hold
    k_steps
    walk_at "my cutend"
    first | exact rfl
  unfold Hold
  intro h6 tk6 F6 N6
  (try dsimp only at F6 N6 ⊢)
  k_steps
  have mk5 : Mark 5 (100 * ns.getD (Int.toNat 3) 0) := .intro
  walk_at "my cut"
  case hc =>
    unfold Hold
    k_steps
    all_goals (walk_at "my cutend")
    all_goals first | exact rfl
  unfold Hold
  intro h6 tk6 F6 N6
  (try dsimp only at F6 N6 ⊢)
  k_steps
  unfold Hold
  generalize hN9 : gday (ns.getD (Int.toNat 3) 0 % 9997 + 2) (isLeap (ns.getD (Int.toNat 3) 0 % 9997 + 2)) 1 1 + ns.getD (Int.toNat 4) 0 % 7 - 3 = N9 at *
  obtain ⟨hI1, hI2, hI3⟩ := iso_b (by omega) (by omega) hN9
  have mk6 : Mark 6 N9 := .intro
  k_steps
  walk_at "my cut"
  case hc =>
    unfold Hold
    k_steps
    all_goals (walk_at "my cutend")
    all_goals first | exact rfl
  unfold Hold
  intro h6 tk6 F6 N6
  (try dsimp only at F6 N6 ⊢)
  k_steps
  unfold Hold
  have hY9 : (1792 ≤ (4 * (if ns.getD (Int.toNat 3) 0 < 0 then -ns.getD (Int.toNat 3) 0 else ns.getD (Int.toNat 3) 0) + 1792) ∧ (4 * (if ns.getD (Int.toNat 3) 0 < 0 then -ns.getD (Int.toNat 3) 0 else ns.getD (Int.toNat 3) 0) + 1792) ≤ 50000000) ∧ (4 * (if ns.getD (Int.toNat 3) 0 < 0 then -ns.getD (Int.toNat 3) 0 else ns.getD (Int.toNat 3) 0) + 1792) % 4 = 0 := by
    split <;> refine ⟨⟨by omega, by omega⟩, by omega⟩
  generalize (4 * (if ns.getD (Int.toNat 3) 0 < 0 then -ns.getD (Int.toNat 3) 0 else ns.getD (Int.toNat 3) 0) + 1792) = Y9 at *
  k_dflt (refine' kj_if_aug (c := (Y9 % 100 == 0 && Y9 % 400 != 0)) (v := Y9 + 4) (a := Y9) ?F ?N ?hold ?hc ?hv ?hk; (case F => k_asm); (case N => k_asm); (case hold => with_unfolding_all rfl))
  case hc =>
    k_steps
    all_goals (refine ⟨?_, ⟨⟨_, _, rfl, by k_asm, by k_asm⟩⟩⟩)
    all_goals first | exact five_t (by omega) (by omega) | exact five_f (by omega)
  case hv =>
    k_steps
  unfold KJoinB2
  intro R9 t9 s9 hr9 hJ9
  obtain ⟨h7, tk7, e7, F7, N7⟩ := KJoinAt.at_ hJ9
  subst e7
  obtain ⟨hl9, hR9⟩ := leap_step hY9.2 hr9
  clear hr9 hJ9
  have mk7 : Mark 7 R9 := .intro
  (try dsimp only at F7 N7 ⊢)
  k_steps
  walk_at "my cut"
  case hc =>
    unfold Hold
    k_steps
    all_goals (walk_at "my cutend")
    all_goals first | exact rfl
  unfold Hold
  intro h6 tk6 F6 N6
  (try dsimp only at F6 N6 ⊢)
  have hnl : isLeap (R9 - 1788 + ns.getD (Int.toNat 4) 0 % 3 + 1 + 1788) = false := (leap_not _).mpr (by have := (leap_iff R9).mp hl9; omega)
  k_steps
  unfold HoldX
  (rename Fr _ _ _ _ => F8)
  k_dflt (refine' (x_toJdP _ _ ?ky rfl hnl _ _ _).use ?k1 ?k2 ?k3 ?k4 ?k5 ?k6 ?k7 ?kK ?kd ?ku ?_; (case ky => omega); (case k1 => k_asm); (case k2 => k_asm); (case k3 => k_asm); (case k4 => k_asm); (case k5 => k_asm); (case k6 => k_asm); (case k7 => k_asm); (case kK => first | exact rfl | assumption); (case kd => ktr_room); (case ku => ktr_units))
  intro e8 a8 h8 tk8 fl8 up8 ns8
  k_dflt (refine' x_topcatch ?k0 fl8 ns8 F8.above ?k3 ?k4 ?k5 PyProof.Rows.Boot.«ValueError» ?k6 PySem.F.isExc_ValueError PySem.F.notTuple_ValueError ?k7 ?_ ?k8 ?k9 ?k10; (case k0 => exact rfl); (case k3 => assumption); (case k4 => assumption); (case k5 => k_is); (case k6 => decide); (case k7 => (rw [isSubtype_type]; kernel_rfl)); (case k8 => exact rfl); (case k9 => exact rfl); (case k10 => decide))
  intro h9 F9
  have N9 := newsNilOf F9
  k_steps))
end
end -- L2
end Mine
set_option maxHeartbeats 4000000 in
theorem PySem.Challenge.cw_ak5021_01_holds : PySem.Challenge.rw_ak5021_01.Holds := by
  exact Mine.law_holds
