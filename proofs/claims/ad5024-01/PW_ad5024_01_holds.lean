import PyProof.Rows.All
import Wide.All
import OpenK.AllK
import Wide.FinOn
import PySem.Challenge.RW_ad5024_01
set_option Elab.async false
set_option maxRecDepth 100000
set_option exponentiation.threshold 3000
namespace Mine
open PySem PySem.Float64

/-! numbers that a float holds: V t; small ones are held -/
theorem rep_nat {c k : Nat} (hc : c < 2 ^ 53) (hk : k ≤ 1900) : ∃ t, t < infMag ∧ V t = c * 2 ^ k := by
  have hI : infMag = 2047 * 2 ^ 52 := rfl
  by_cases h0 : c = 0
  · subst h0
    exact ⟨0, by omega, by rw [V_zero]; simp⟩
  · have hl1 := Nat.log2_self_le h0
    have hl2 := @Nat.lt_log2_self c
    have hl3 : c.log2 < 53 := (Nat.log2_lt h0).2 hc
    generalize c.log2 = l at *
    by_cases hj : 52 - l ≤ k
    · have hq : c * 2 ^ (52 - l) < 2 ^ 53 := by
        calc c * 2 ^ (52 - l) < 2 ^ (l + 1) * 2 ^ (52 - l) := Nat.mul_lt_mul_of_pos_right hl2 (Nat.two_pow_pos _)
          _ = 2 ^ 53 := by rw [← Nat.pow_add]; congr 1; omega
      have hq2 : 2 ^ 52 ≤ c * 2 ^ (52 - l) := by
        calc 2 ^ 52 = 2 ^ l * 2 ^ (52 - l) := by rw [← Nat.pow_add]; congr 1; omega
          _ ≤ c * 2 ^ (52 - l) := Nat.mul_le_mul_right _ hl1
      have hV := V_at (k := k - (52 - l)) (q := c * 2 ^ (52 - l)) (by omega) (.inl hq2)
      refine ⟨(k - (52 - l)) * 2 ^ 52 + c * 2 ^ (52 - l), ?_, ?_⟩
      · generalize c * 2 ^ (52 - l) = q at *
        omega
      · rw [hV, Nat.mul_assoc, ← Nat.pow_add]
        congr 2
        omega
    · have hq : c * 2 ^ k < 2 ^ 53 := by
        calc c * 2 ^ k ≤ c * 2 ^ (52 - l) := Nat.mul_le_mul_left _ (Nat.pow_le_pow_right (by decide) (by omega))
          _ < 2 ^ (l + 1) * 2 ^ (52 - l) := Nat.mul_lt_mul_of_pos_right hl2 (Nat.two_pow_pos _)
          _ = 2 ^ 53 := by rw [← Nat.pow_add]; congr 1; omega
      have hV := V_at (k := 0) (q := c * 2 ^ k) (by omega) (.inr rfl)
      refine ⟨0 * 2 ^ 52 + c * 2 ^ k, ?_, ?_⟩
      · rw [hI, Nat.zero_mul, Nat.zero_add]
        exact Nat.lt_trans hq (by decide)
      · rw [hV]; simp

theorem big_nat {c k : Nat} (hc : c < 2 ^ 53) (hk : k ≤ 1900) : 2 * (c * 2 ^ k) < (2 ^ 54 - 1) * 2 ^ 2045 := by
  have h1 : (2 : Nat) ^ 2045 = 2 ^ k * 2 ^ (2045 - k) := by rw [← Nat.pow_add]; congr 1; omega
  have h2 : 0 < (2 : Nat) ^ k := Nat.two_pow_pos _
  have h3 : 1 ≤ (2 : Nat) ^ (2045 - k) := Nat.two_pow_pos _
  rw [h1]
  generalize (2 : Nat) ^ k = a at *
  generalize (2 : Nat) ^ (2045 - k) = b at *
  calc 2 * (c * a) = (2 * c) * a := by rw [Nat.mul_assoc]
    _ < (2 ^ 54 - 1) * a := Nat.mul_lt_mul_of_pos_right (by omega) h2
    _ = (2 ^ 54 - 1) * (a * 1) := by rw [Nat.mul_one]
    _ ≤ (2 ^ 54 - 1) * (a * b) := Nat.mul_le_mul_left _ (Nat.mul_le_mul_left _ h3)

theorem right_fin {r : UInt64} {neg : Bool} {W D : Nat} (h : Right r neg W D) (hb : 2 * W < D * ((2 ^ 54 - 1) * 2 ^ 2045)) :
    ∃ t, t < infMag ∧ r = pack neg t ∧ ∀ t', dist W (D * V t) ≤ dist W (D * V t') := by
  obtain ⟨t, hr, hle, hinf, hn⟩ := h
  have hne : t ≠ infMag := fun e => absurd (hinf.mp e) (Nat.not_le.mpr hb)
  exact ⟨t, by omega, hr, fun t' => (hn (by omega) t').1⟩

theorem right_at {r : UInt64} {neg : Bool} {W D t₀ : Nat} (h : Right r neg W D) (hb : 2 * W < D * ((2 ^ 54 - 1) * 2 ^ 2045)) (hD : 0 < D) (hW : W = D * V t₀) : r = pack neg t₀ := by
  obtain ⟨t, ht, hr, hn⟩ := right_fin h hb
  have h1 := hn t₀
  have h2 : D * V t = D * V t₀ := by
    rw [hW] at h1
    unfold dist at h1
    omega
  have h3 : V t = V t₀ := Nat.eq_of_mul_eq_mul_left hD h2
  have h4 : t = t₀ := by
    rcases Nat.lt_trichotomy t t₀ with h | h | h
    · exact absurd h3 (Nat.ne_of_lt (V_lt h))
    · exact h
    · exact absurd h3.symm (Nat.ne_of_lt (V_lt h))
  rw [hr, h4]

/-! the float n / 2 -/
@[irreducible] def hf (n : Int) : UInt64 := ofFrac (decide (n < 0)) n.natAbs 2

def Sm (n : Int) : Prop := n.natAbs < 2 ^ 53

theorem hf_right (n : Int) : Right (hf n) (decide (n < 0)) (n.natAbs * 2 ^ 1073) 1 := by
  unfold hf
  refine ofFrac_right (by decide) ?_ (by decide)
  rw [Nat.mul_one, Nat.mul_assoc, ← Nat.pow_succ]

theorem hf_of_right {n : Int} {r : UInt64} {neg : Bool} {W D : Nat} (hn : n.natAbs < 2 ^ 53) (h : Right r neg W D) (hD : 0 < D) (hneg : neg = decide (n < 0)) (hW : W = D * (n.natAbs * 2 ^ 1073)) : r = hf n := by
  obtain ⟨t, ht, hV⟩ := rep_nat (c := n.natAbs) (k := 1073) hn (by decide)
  have hb := big_nat (c := n.natAbs) (k := 1073) hn (by decide)
  have e1 := right_at (hf_right n) (by rw [Nat.one_mul]; exact hb) (by decide) (t₀ := t) (by rw [Nat.one_mul, hV])
  have e2 := right_at h (t₀ := t) (by
    rw [hW, Nat.mul_left_comm 2 D]
    exact Nat.mul_lt_mul_of_pos_left hb hD) hD (by rw [hV, hW])
  rw [e1, e2, hneg]

theorem hf_decode {n : Int} (hn : n.natAbs < 2 ^ 53) : ∃ m e, decode (hf n) = .fin (decide (n < 0)) m e ∧ val (hf n) = n * 2 ^ 1073 := by
  obtain ⟨t, ht, hV⟩ := rep_nat (c := n.natAbs) (k := 1073) hn (by decide)
  have hb := big_nat (c := n.natAbs) (k := 1073) hn (by decide)
  have e1 := right_at (hf_right n) (by rw [Nat.one_mul]; exact hb) (by decide) (t₀ := t) (by rw [Nat.one_mul, hV])
  obtain ⟨m, e, hd, he⟩ := decode_pack (decide (n < 0)) ht
  rw [e1]
  refine ⟨m, e, hd, ?_⟩
  rw [val_eq hd, he, hV]
  unfold sgn
  have hp : ((2 ^ 1073 : Nat) : Int) = (2 : Int) ^ 1073 := by simp
  generalize (2 : Nat) ^ 1073 = K at *
  rw [← hp]
  by_cases h : n < 0
  · simp only [h, decide_true, if_true]
    rw [Int.natCast_mul, ← Int.neg_mul]
    congr 1
    omega
  · simp only [h, decide_false, Bool.false_eq_true, if_false]
    rw [Int.natCast_mul]
    congr 1
    omega

theorem hf_zero : hf 0 = zero false := by unfold hf; decide +kernel

theorem hf_add {a b : Int} (ha : a.natAbs < 2 ^ 52) (hb : b.natAbs < 2 ^ 52) : Float64.add (hf a) (hf b) = hf (a + b) := by
  obtain ⟨m, e, da, va⟩ := hf_decode (n := a) (by omega)
  obtain ⟨k, f, db, vb⟩ := hf_decode (n := b) (by omega)
  have h := add_right da db
  have hs : val (hf a) + val (hf b) = (a + b) * 2 ^ 1073 := by rw [va, vb, Int.add_mul]
  have hp : (0 : Int) < (2 : Int) ^ 1073 := Int.pow_pos (by decide)
  have hp2 : ((2 : Int) ^ 1073).natAbs = 2 ^ 1073 := by simp
  rw [hs] at h
  generalize hK : (2 : Int) ^ 1073 = K at *
  by_cases h0 : a + b = 0
  · have e1 := h.1 (by rw [h0, Int.zero_mul])
    rw [e1, h0, hf_zero]
    congr 1
    by_cases h1 : a < 0
    · have h2 : ¬ b < 0 := by omega
      simp [h1, h2]
    · simp [h1]
  · have e1 := h.2 (fun q => by rcases Int.mul_eq_zero.mp q with q | q <;> omega)
    refine hf_of_right (by omega) e1 (by decide) ?_ ?_
    · apply decide_eq_decide.mpr
      constructor
      · intro q
        by_cases c : a + b < 0
        · exact c
        · have := Int.mul_nonneg (show 0 ≤ a + b by omega) (Int.le_of_lt hp)
          omega
      · intro q; exact Int.mul_neg_of_neg_of_pos q hp
    · rw [Int.natAbs_mul, hp2, Nat.one_mul]

theorem hf_neg {b : Int} (hb : b.natAbs < 2 ^ 53) (h0 : b ≠ 0) : Float64.neg (hf b) = hf (-b) := by
  obtain ⟨t, ht, hV⟩ := rep_nat (c := b.natAbs) (k := 1073) hb (by decide)
  have hbg := big_nat (c := b.natAbs) (k := 1073) hb (by decide)
  have e1 := right_at (hf_right b) (by rw [Nat.one_mul]; exact hbg) (by decide) (t₀ := t) (by rw [Nat.one_mul, hV])
  have hbg' := big_nat (c := (-b).natAbs) (k := 1073) (by omega) (by decide)
  have e2 := right_at (hf_right (-b)) (by rw [Nat.one_mul]; exact hbg') (by decide) (t₀ := t) (by rw [Nat.one_mul, hV]; rw [Int.natAbs_neg])
  obtain ⟨m, e, da, va⟩ := hf_decode (n := b) hb
  have hN := neg_toNat (y := hf b) (by unfold isNaN; rw [da])
  have hI : infMag = 2047 * 2 ^ 52 := rfl
  rw [e1] at hN ⊢
  rw [e2]
  rw [pack_toNat _ (by omega)] at hN
  apply UInt64.toNat.inj
  rw [pack_toNat _ (by omega)]
  have hlt := (Float64.neg (pack (decide (b < 0)) t)).toNat_lt
  generalize (Float64.neg (pack (decide (b < 0)) t)).toNat = z at *
  by_cases h : b < 0
  · have h' : ¬ (-b < 0) := by omega
    simp only [h, h', decide_true, decide_false, if_true, Bool.false_eq_true, if_false] at hN ⊢
    have q : (2 ^ 63 + t) / 2 ^ 63 = 1 := by omega
    rw [q] at hN
    have q2 : z / 2 ^ 63 ≠ 1 := by simpa using hN.2
    omega
  · have h' : (-b < 0) := by omega
    simp only [h, h', decide_true, decide_false, if_true, Bool.false_eq_true, if_false] at hN ⊢
    have q : (0 + t) / 2 ^ 63 = 0 := by omega
    rw [q] at hN
    have q2 : z / 2 ^ 63 = 1 := by simpa using hN.2
    omega

theorem hf_sub {a b : Int} (ha : a.natAbs < 2 ^ 52) (hb : b.natAbs < 2 ^ 52) : Float64.sub (hf a) (hf b) = hf (a - b) := by
  unfold Float64.sub
  by_cases h0 : b = 0
  · subst h0
    obtain ⟨m, e, da, va⟩ := hf_decode (n := a) (by omega)
    obtain ⟨k, f, db, vb⟩ := hf_decode (n := 0) (by decide)
    have h := add_right da (neg_decode db)
    rw [neg_val db, vb, va] at h
    have hp : (0 : Int) < (2 : Int) ^ 1073 := Int.pow_pos (by decide)
    have hp2 : ((2 : Int) ^ 1073).natAbs = 2 ^ 1073 := by simp
    generalize hK : (2 : Int) ^ 1073 = K at *
    simp only [Int.zero_mul, Int.neg_zero, Int.add_zero, Int.sub_zero] at h ⊢
    by_cases h0 : a = 0
    · subst h0
      have e1 := h.1 (Int.zero_mul _)
      rw [e1, hf_zero]
      rfl
    · have e1 := h.2 (fun q => by rcases Int.mul_eq_zero.mp q with q | q <;> omega)
      refine hf_of_right (by omega) e1 (by decide) ?_ ?_
      · apply decide_eq_decide.mpr
        constructor
        · intro q
          by_cases c : a < 0
          · exact c
          · have := Int.mul_nonneg (show 0 ≤ a by omega) (Int.le_of_lt hp)
            omega
        · intro q; exact Int.mul_neg_of_neg_of_pos q hp
      · rw [Int.natAbs_mul, hp2, Nat.one_mul]
  · rw [hf_neg (by omega) h0, hf_add ha (by omega), Int.sub_eq_add_neg]

theorem ofInt_hf {n : Int} (hn : n.natAbs < 2 ^ 52) : ofInt n = hf (2 * n) := by
  refine hf_of_right (by omega) (ofInt_right n) (by decide) (decide_eq_decide.mpr (by omega)) ?_
  rw [Nat.one_mul, Int.natAbs_mul, Nat.mul_comm (Int.natAbs 2), Nat.mul_assoc]
  congr 1

theorem hf_mul {a d : Int} (ha : a.natAbs < 2 ^ 40) (hd0 : 0 < d) (hd : d.natAbs < 2 ^ 12) : Float64.mul (hf a) (ofInt d) = hf (a * d) := by
  rw [ofInt_hf (by omega)]
  obtain ⟨m, e, da, va⟩ := hf_decode (n := a) (by omega)
  obtain ⟨k, f, db, vb⟩ := hf_decode (n := 2 * d) (by omega)
  have h := mul_right da db
  have hlt : (a * d).natAbs < 2 ^ 53 := by
    rw [Int.natAbs_mul]
    calc a.natAbs * d.natAbs ≤ 2 ^ 40 * 2 ^ 12 := Nat.mul_le_mul (by omega) (by omega)
      _ < 2 ^ 53 := by decide
  refine hf_of_right hlt h (Nat.two_pow_pos _) ?_ ?_
  · have h1 : decide (2 * d < 0) = false := decide_eq_false (by omega)
    rw [h1, Bool.bne_false]
    apply decide_eq_decide.mpr
    constructor
    · intro q; exact Int.mul_neg_of_neg_of_pos q hd0
    · intro q
      by_cases c : a < 0
      · exact c
      · have := Int.mul_nonneg (show 0 ≤ a by omega) (show 0 ≤ d by omega)
        omega
  · rw [va, vb, Int.natAbs_mul, Int.natAbs_mul, Int.natAbs_mul, Int.natAbs_mul]
    have hp2 : ((2 : Int) ^ 1073).natAbs = 2 ^ 1073 := by simp
    have hp3 : (2 : Nat) ^ 1074 = 2 * 2 ^ 1073 := by rw [Nat.mul_comm, ← Nat.pow_succ]
    rw [hp2, hp3, show Int.natAbs 2 = 2 from rfl]
    generalize (2 : Nat) ^ 1073 = K
    ac_rfl
end Mine
namespace Mine
open PySem PySem.Float64

/-! the unit 2^-20 -/
@[irreducible] def K : Int := 2 ^ 1054
theorem K_pos : 0 < K := by unfold K; exact Int.pow_pos (by decide)
theorem K_nat : K.natAbs = 2 ^ 1054 := by unfold K; decide +kernel
theorem p73 : (2 : Int) ^ 1073 = 524288 * K := by unfold K; decide +kernel
theorem p74 : (2 : Int) ^ 1074 = 1048576 * K := by unfold K; decide +kernel

def IsFin (x : UInt64) : Prop := ∃ a m e, decode x = .fin a m e
theorem IsFin.fin {x : UInt64} (h : IsFin x) : isFinite x = true := by
  obtain ⟨a, m, e, h⟩ := h
  unfold isFinite; rw [h]

/-- x lies from lo to hi, counted in 2^-20 -/
def Bd (x : UInt64) (lo hi : Int) : Prop := IsFin x ∧ lo * K ≤ val x ∧ val x ≤ hi * K
/-- the floor of x is n -/
def Fl (x : UInt64) (n : Int) : Prop := IsFin x ∧ n * (1048576 * K) ≤ val x ∧ val x < (n + 1) * (1048576 * K)
def Ce (x : UInt64) (n : Int) : Prop := IsFin x ∧ (n - 1) * (1048576 * K) < val x ∧ val x ≤ n * (1048576 * K)
def Rd (x : UInt64) (n : Int) : Prop := IsFin x ∧ (2 * n - 1) * (524288 * K) < val x ∧ val x < (2 * n + 1) * (524288 * K)

theorem sgn_natAbs_self (z : Int) : sgn (decide (z < 0)) z.natAbs = z := by
  unfold sgn
  by_cases h : z < 0
  · simp only [h, decide_true, if_true]; omega
  · simp only [h, decide_false, Bool.false_eq_true, if_false]; omega

theorem rep_int {c : Int} (hc : c.natAbs < 2 ^ 53) : ∃ t, t < infMag ∧ ((V t : Nat) : Int) = (c.natAbs : Int) * K := by
  obtain ⟨t, ht, hV⟩ := rep_nat (c := c.natAbs) (k := 1054) hc (by decide)
  refine ⟨t, ht, ?_⟩
  rw [hV, Int.natCast_mul]
  congr 1
  have := K_nat
  have := K_pos
  omega

section
variable {r : UInt64} {neg : Bool} {W D : Nat}
theorem right_isFin (h : Right r neg W D) (hb : 2 * W < D * ((2 ^ 54 - 1) * 2 ^ 2045)) : IsFin r := by
  obtain ⟨t, ht, hr, _⟩ := right_fin h hb
  obtain ⟨m, e, hd, _⟩ := decode_pack neg ht
  exact ⟨_, _, _, hr ▸ hd⟩

theorem dist_up {W D a b : Nat} (h1 : W ≤ D * b) (h2 : dist W (D * a) ≤ dist W (D * b)) : D * a ≤ D * b := by
  unfold dist at h2; omega
theorem dist_dn {W D a b : Nat} (h1 : D * b ≤ W) (h2 : dist W (D * a) ≤ dist W (D * b)) : D * b ≤ D * a := by
  unfold dist at h2; omega

theorem right_le (h : Right r neg W D) (hb : 2 * W < D * ((2 ^ 54 - 1) * 2 ^ 2045)) (hD : 0 < D) {c : Int} (hc : c.natAbs < 2 ^ 53)
    (hle : sgn neg W ≤ (D : Int) * (c * K)) : val r ≤ c * K := by
  obtain ⟨t, ht, hr, hn⟩ := right_fin h hb
  obtain ⟨u, hu, hV⟩ := rep_int hc
  have hN := hn u
  rw [hr, val_pack neg ht]
  have hK := K_pos
  have hDi : (0 : Int) < D := by omega
  have hpos : ∀ x : Int, 0 ≤ x → 0 ≤ x * K := fun x hx => Int.mul_nonneg hx (Int.le_of_lt hK)
  cases neg
  · -- W as it is
    unfold sgn at hle ⊢
    simp only [Bool.false_eq_true, if_false] at hle ⊢
    have hc0 : 0 ≤ c := by
      by_cases q : 0 ≤ c
      · exact q
      · have h1 : c * K < 0 := Int.mul_neg_of_neg_of_pos (by omega) hK
        have h2 := Int.mul_neg_of_pos_of_neg hDi h1
        omega
    have e1 : (V u : Int) = c * K := by rw [hV]; congr 1; omega
    rw [← e1] at hle ⊢
    have hle' : W ≤ D * V u := by exact_mod_cast hle
    have := Nat.le_of_mul_le_mul_left (dist_up hle' hN) hD
    exact_mod_cast this
  · unfold sgn at hle ⊢
    simp only [if_true] at hle ⊢
    by_cases hc0 : 0 ≤ c
    · have := hpos c hc0
      omega
    · have e1 : (V u : Int) = -(c * K) := by rw [hV, ← Int.neg_mul]; congr 1; omega
      have e2 : c * K = -(V u : Int) := by omega
      rw [e2] at hle ⊢
      rw [Int.mul_neg] at hle
      have hle2 : (D : Int) * V u ≤ W := by omega
      have hle' : D * V u ≤ W := by exact_mod_cast hle2
      have := Nat.le_of_mul_le_mul_left (dist_dn hle' hN) hD
      omega

theorem right_ge (h : Right r neg W D) (hb : 2 * W < D * ((2 ^ 54 - 1) * 2 ^ 2045)) (hD : 0 < D) {c : Int} (hc : c.natAbs < 2 ^ 53)
    (hle : (D : Int) * (c * K) ≤ sgn neg W) : c * K ≤ val r := by
  obtain ⟨t, ht, hr, hn⟩ := right_fin h hb
  obtain ⟨u, hu, hV⟩ := rep_int hc
  have hN := hn u
  rw [hr, val_pack neg ht]
  have hK := K_pos
  have hDi : (0 : Int) < D := by omega
  cases neg
  · unfold sgn at hle ⊢
    simp only [Bool.false_eq_true, if_false] at hle ⊢
    by_cases hc0 : c < 0
    · have := Int.mul_neg_of_neg_of_pos hc0 hK
      omega
    · have e1 : (V u : Int) = c * K := by rw [hV]; congr 1; omega
      rw [← e1] at hle ⊢
      have hle' : D * V u ≤ W := by exact_mod_cast hle
      have := Nat.le_of_mul_le_mul_left (dist_dn hle' hN) hD
      exact_mod_cast this
  · unfold sgn at hle ⊢
    simp only [if_true] at hle ⊢
    have hc0 : c ≤ 0 := by
      by_cases q : c ≤ 0
      · exact q
      · have h1 : 0 < c * K := Int.mul_pos (by omega) hK
        have h2 := Int.mul_pos hDi h1
        omega
    have e1 : (V u : Int) = -(c * K) := by rw [hV, ← Int.neg_mul]; congr 1; omega
    have e2 : c * K = -(V u : Int) := by omega
    rw [e2] at hle ⊢
    rw [Int.mul_neg] at hle
    have hle2 : (W : Int) ≤ D * V u := by omega
    have hle' : W ≤ D * V u := by exact_mod_cast hle2
    have := Nat.le_of_mul_le_mul_left (dist_up hle' hN) hD
    omega

/-- a bound on the real number is a bound on the float -/
theorem Bd_of_right (h : Right r neg W D) (hD : 0 < D) {lo hi : Int} (hlo : lo.natAbs < 2 ^ 53) (hhi : hi.natAbs < 2 ^ 53)
    (h1 : (D : Int) * (lo * K) ≤ sgn neg W) (h2 : sgn neg W ≤ (D : Int) * (hi * K)) : Bd r lo hi := by
  have hKn := K_nat
  have hK := K_pos
  have hW : W ≤ D * ((2 ^ 53 - 1) * 2 ^ 1054) := by
    have hb : ∀ c : Int, c.natAbs < 2 ^ 53 → ((D : Int) * (c * K)).natAbs ≤ D * ((2 ^ 53 - 1) * 2 ^ 1054) := fun c hc => by
      rw [Int.natAbs_mul, Int.natAbs_mul, hKn, Int.natAbs_natCast]
      exact Nat.mul_le_mul_left _ (Nat.mul_le_mul_right _ (by omega))
    have b1 := hb lo hlo
    have b2 := hb hi hhi
    generalize (D : Int) * (lo * K) = x at *
    generalize (D : Int) * (hi * K) = y at *
    generalize D * ((2 ^ 53 - 1) * 2 ^ 1054) = z at *
    unfold sgn at h1 h2
    cases neg
    · simp only [Bool.false_eq_true, if_false] at h1 h2; omega
    · simp only [if_true] at h1 h2; omega
  have hb : 2 * W < D * ((2 ^ 54 - 1) * 2 ^ 2045) := by
    have := big_nat (c := 2 ^ 53 - 1) (k := 1054) (by decide) (by decide)
    calc 2 * W ≤ 2 * (D * ((2 ^ 53 - 1) * 2 ^ 1054)) := Nat.mul_le_mul_left _ hW
      _ = D * (2 * ((2 ^ 53 - 1) * 2 ^ 1054)) := Nat.mul_left_comm _ _ _
      _ < D * ((2 ^ 54 - 1) * 2 ^ 2045) := Nat.mul_lt_mul_of_pos_left this hD
  exact ⟨right_isFin h hb, right_ge h hb hD hlo h1, right_le h hb hD hhi h2⟩
end

theorem hf_val {n : Int} (hn : n.natAbs < 2 ^ 53) : IsFin (hf n) ∧ val (hf n) = n * (524288 * K) := by
  obtain ⟨m, e, hd, hv⟩ := hf_decode hn
  exact ⟨⟨_, _, _, hd⟩, by rw [hv, p73]⟩

theorem Bd_hf {n : Int} (hn : n.natAbs < 2 ^ 53) : Bd (hf n) (n * 524288) (n * 524288) := by
  obtain ⟨h1, h2⟩ := hf_val hn
  refine ⟨h1, ?_, ?_⟩ <;> rw [h2, Int.mul_assoc] <;> exact Int.le_refl _

theorem val_zero (b : Bool) : IsFin (zero b) ∧ val (zero b) = 0 := by
  have h0 : (0 : Nat) < infMag := by decide
  obtain ⟨m, e, hd, _⟩ := decode_pack b h0
  refine ⟨⟨_, _, _, hd⟩, ?_⟩
  show val (pack b 0) = 0
  rw [val_pack b h0, V_zero]
  unfold sgn
  cases b <;> rfl

theorem add_bd {x y : UInt64} {a b c d : Int} (hx : Bd x a b) (hy : Bd y c d) (h1 : (a + c).natAbs < 2 ^ 53) (h2 : (b + d).natAbs < 2 ^ 53) : Bd (Float64.add x y) (a + c) (b + d) := by
  obtain ⟨⟨sa, ma, ea, dx⟩, xl, xu⟩ := hx
  obtain ⟨⟨sb, mb, eb, dy⟩, yl, yu⟩ := hy
  have h := add_right dx dy
  have hl : (a + c) * K ≤ val x + val y := by rw [Int.add_mul]; omega
  have hu : val x + val y ≤ (b + d) * K := by rw [Int.add_mul]; omega
  by_cases h0 : val x + val y = 0
  · rw [h.1 h0]
    obtain ⟨f, v⟩ := val_zero (sa && sb)
    exact ⟨f, by rw [v, ← h0]; exact hl, by rw [v, ← h0]; exact hu⟩
  · refine Bd_of_right (h.2 h0) (by decide) h1 h2 ?_ ?_
    · rw [sgn_natAbs_self, Int.natCast_one, Int.one_mul]; exact hl
    · rw [sgn_natAbs_self, Int.natCast_one, Int.one_mul]; exact hu

theorem Fl_of_Bd {x : UInt64} {lo hi n : Int} (h : Bd x lo hi) (h1 : n * 1048576 ≤ lo) (h2 : hi < (n + 1) * 1048576) : Fl x n := by
  obtain ⟨f, l, u⟩ := h
  have hK := K_pos
  refine ⟨f, ?_, ?_⟩
  · rw [← Int.mul_assoc]
    exact Int.le_trans (Int.mul_le_mul_of_nonneg_right h1 (Int.le_of_lt hK)) l
  · rw [← Int.mul_assoc]
    exact Int.lt_of_le_of_lt u (Int.mul_lt_mul_of_pos_right h2 hK)
theorem Ce_of_Bd {x : UInt64} {lo hi n : Int} (h : Bd x lo hi) (h1 : (n - 1) * 1048576 < lo) (h2 : hi ≤ n * 1048576) : Ce x n := by
  obtain ⟨f, l, u⟩ := h
  have hK := K_pos
  refine ⟨f, ?_, ?_⟩
  · rw [← Int.mul_assoc]
    exact Int.lt_of_lt_of_le (Int.mul_lt_mul_of_pos_right h1 hK) l
  · rw [← Int.mul_assoc]
    exact Int.le_trans u (Int.mul_le_mul_of_nonneg_right h2 (Int.le_of_lt hK))
theorem Rd_of_Bd {x : UInt64} {lo hi n : Int} (h : Bd x lo hi) (h1 : (2 * n - 1) * 524288 < lo) (h2 : hi < (2 * n + 1) * 524288) : Rd x n := by
  obtain ⟨f, l, u⟩ := h
  have hK := K_pos
  refine ⟨f, ?_, ?_⟩
  · rw [← Int.mul_assoc]
    exact Int.lt_of_lt_of_le (Int.mul_lt_mul_of_pos_right h1 hK) l
  · rw [← Int.mul_assoc]
    exact Int.lt_of_le_of_lt u (Int.mul_lt_mul_of_pos_right h2 hK)
theorem Bd_of_Fl {x : UInt64} {n : Int} (h : Fl x n) : Bd x (n * 1048576) ((n + 1) * 1048576) := by
  obtain ⟨f, l, u⟩ := h
  refine ⟨f, ?_, ?_⟩
  · rw [Int.mul_assoc]; exact l
  · rw [Int.mul_assoc]; exact Int.le_of_lt u

/-! what floor, ceil, int, round give -/
theorem pow_split {e : Int} (h : ¬ e ≥ 0) (h2 : -1074 ≤ e) : (1048576 : Int) * K = 2 ^ (-e).toNat * 2 ^ (e + 1074).toNat := by
  rw [← p74, ← Int.pow_add]
  congr 1
  omega
theorem pow_split2 {e : Int} (h : e ≥ 0) : (2 : Int) ^ (e + 1074).toNat = 2 ^ e.toNat * (1048576 * K) := by
  rw [← p74, ← Int.pow_add]
  congr 1
  omega
theorem val_sgn {x : UInt64} {a : Bool} {m : Nat} {e : Int} (h : decode x = .fin a m e) : val x = sgn a m * (2 : Int) ^ (e + 1074).toNat := by
  rw [val_eq h, sgn_mul]
  congr 1

theorem fdiv_of {z d n : Int} (hd : 0 < d) (h1 : n * d ≤ z) (h2 : z < (n + 1) * d) : z.fdiv d = n := by
  rw [Int.fdiv_eq_ediv_of_nonneg _ (Int.le_of_lt hd)]
  have e1 : n ≤ z / d := (Int.le_ediv_iff_mul_le hd).mpr h1
  have e2 : z / d < n + 1 := (Int.ediv_lt_iff_lt_mul hd).mpr h2
  omega

theorem floor_at {z : Bool} {m : Nat} {e n : Int} (he : -1074 ≤ e) (h1 : n * (1048576 * K) ≤ sgn z m * (2 : Int) ^ (e + 1074).toNat) (h2 : sgn z m * (2 : Int) ^ (e + 1074).toNat < (n + 1) * (1048576 * K)) : floorOf z m e = n := by
  have hK := K_pos
  unfold floorOf
  split
  · rename_i h
    rw [pow_split2 h] at h1 h2
    have hp : (0 : Int) < 1048576 * K := by omega
    generalize 1048576 * K = P at *
    rw [← Int.mul_assoc] at h1 h2
    have e1 := Int.le_of_mul_le_mul_right h1 hp
    have e2 := Int.lt_of_mul_lt_mul_right h2 (Int.le_of_lt hp)
    omega
  · rename_i h
    rw [pow_split h he] at h1 h2
    have hp : (0 : Int) < (2 : Int) ^ (e + 1074).toNat := Int.pow_pos (by decide)
    generalize (2 : Int) ^ (e + 1074).toNat = P at *
    rw [← Int.mul_assoc] at h1 h2
    have e1 := Int.le_of_mul_le_mul_right h1 hp
    have e2 := Int.lt_of_mul_lt_mul_right h2 (Int.le_of_lt hp)
    exact fdiv_of (Int.pow_pos (by decide)) e1 e2

theorem floor_Fl {x : UInt64} {n : Int} (h : Fl x n) : PySem.Flt.toInt floorOf x = n := by
  obtain ⟨⟨a, m, e, hd⟩, l, u⟩ := h
  rw [PySem.Flt.toInt_fin hd]
  rw [val_sgn hd] at l u
  exact floor_at (decode_ge hd) l u
theorem ceil_at {a : Bool} {m : Nat} {e n : Int} (he : -1074 ≤ e) (l : (n - 1) * (1048576 * K) < sgn a m * (2 : Int) ^ (e + 1074).toNat) (u : sgn a m * (2 : Int) ^ (e + 1074).toNat ≤ n * (1048576 * K)) : ceilOf a m e = n := by
  unfold ceilOf
  have := floor_at (z := !a) (m := m) (e := e) (n := -n) he (by rw [sgn_not, Int.neg_mul, Int.neg_mul]; omega) (by
    rw [sgn_not, Int.neg_mul]
    have e1 : (-n + 1) * (1048576 * K) = -((n - 1) * (1048576 * K)) := by rw [← Int.neg_mul]; congr 1; omega
    rw [e1]; omega)
  omega
theorem ceil_Ce {x : UInt64} {n : Int} (h : Ce x n) : PySem.Flt.toInt ceilOf x = n := by
  obtain ⟨⟨a, m, e, hd⟩, l, u⟩ := h
  rw [PySem.Flt.toInt_fin hd]
  rw [val_sgn hd] at l u
  exact ceil_at (decode_ge hd) l u
theorem trunc_hf {n : Int} (hn : n.natAbs < 2 ^ 52) : PySem.Flt.toInt truncOf (hf (2 * n)) = n := by
  obtain ⟨⟨a, m, e, hd⟩, hv⟩ := hf_val (n := 2 * n) (by omega)
  have hK := K_pos
  have hv2 : sgn a m * (2 : Int) ^ (e + 1074).toNat = n * (1048576 * K) := by
    rw [← val_sgn hd, hv, Int.mul_comm 2 n, Int.mul_assoc]
    congr 1
    omega
  rw [PySem.Flt.toInt_fin hd]
  have h1 : floorOf a m e = n := floor_at (decode_ge hd) (by rw [hv2]; exact Int.le_refl _) (by rw [hv2, Int.add_mul]; omega)
  have h2 : ceilOf a m e = n := ceil_at (decode_ge hd) (by rw [hv2, Int.sub_mul]; omega) (by rw [hv2]; exact Int.le_refl _)
  unfold truncOf
  split
  · exact h2
  · exact h1

theorem halfEven_of {z d k : Nat} (hd : 0 < d) (h : 2 * dist z (d * k) < d) : halfEven z d = k := by
  have h1 := halfEven_nearest z d hd k
  have h2 : 2 * dist z (d * halfEven z d) < d := by omega
  generalize halfEven z d = j at *
  unfold dist at h h2
  rcases Nat.lt_trichotomy j k with q | q | q
  · have : d * (j + 1) ≤ d * k := Nat.mul_le_mul_left _ q
    rw [Nat.mul_add, Nat.mul_one] at this
    omega
  · exact q
  · have : d * (k + 1) ≤ d * j := Nat.mul_le_mul_left _ q
    rw [Nat.mul_add, Nat.mul_one] at this
    omega

theorem nearest_core' {a : Bool} {m d : Nat} {n : Int} (hd : 0 < d) (h1 : (2 * n - 1) * d < 2 * sgn a m) (h2 : 2 * sgn a m < (2 * n + 1) * d) : sgn a (halfEven m d) = n := by
  have e1 : (2 * n - 1) * (d : Int) = 2 * (n * d) - d := by rw [Int.sub_mul, Int.mul_assoc, Int.one_mul]
  have e2 : (2 * n + 1) * (d : Int) = 2 * (n * d) + d := by rw [Int.add_mul, Int.mul_assoc, Int.one_mul]
  rw [e1] at h1
  rw [e2] at h2
  have hdi : (0 : Int) < d := by omega
  cases a
  · unfold sgn at *
    simp only [Bool.false_eq_true, if_false] at *
    have hn : 0 ≤ n := by
      by_cases q : 0 ≤ n
      · exact q
      · have q1 : n * (d : Int) ≤ (-1) * d := Int.mul_le_mul_of_nonneg_right (by omega) (by omega)
        omega
    obtain ⟨k, rfl⟩ := Int.eq_ofNat_of_zero_le hn
    congr 1
    refine halfEven_of hd ?_
    have e3 : (d * k : Nat) = ((k : Int) * (d : Int)) := by rw [Int.natCast_mul, Int.mul_comm]
    generalize hy : (k : Int) * (d : Int) = y at *
    unfold dist
    omega
  · unfold sgn at *
    simp only [if_true] at *
    have hn : n ≤ 0 := by
      by_cases q : n ≤ 0
      · exact q
      · have q1 : 1 * (d : Int) ≤ n * d := Int.mul_le_mul_of_nonneg_right (by omega) (by omega)
        omega
    obtain ⟨k, hk⟩ := Int.eq_ofNat_of_zero_le (show 0 ≤ -n by omega)
    have hn' : n = -(k : Int) := by omega
    subst hn'
    congr 2
    refine halfEven_of hd ?_
    have e3 : (d * k : Nat) = ((k : Int) * (d : Int)) := by rw [Int.natCast_mul, Int.mul_comm]
    rw [Int.neg_mul] at h1 h2
    generalize hy : (k : Int) * (d : Int) = y at *
    unfold dist
    omega

theorem round_Rd {x : UInt64} {n : Int} (h : Rd x n) : PySem.Flt.toInt nearestOf x = n := by
  obtain ⟨⟨a, m, e, hd⟩, l, u⟩ := h
  rw [PySem.Flt.toInt_fin hd]
  rw [val_sgn hd] at l u
  have he := decode_ge hd
  have hK := K_pos
  have hh : ∀ k : Int, 2 * (k * (524288 * K)) = k * (1048576 * K) := fun k => by
    rw [Int.mul_left_comm]; congr 1; omega
  have l2 : (2 * n - 1) * (1048576 * K) < 2 * (sgn a m * (2 : Int) ^ (e + 1074).toNat) := by rw [← hh]; omega
  have u2 : 2 * (sgn a m * (2 : Int) ^ (e + 1074).toNat) < (2 * n + 1) * (1048576 * K) := by rw [← hh]; omega
  unfold nearestOf shift
  by_cases q : e ≥ 0
  · simp only [if_pos q]
    rw [pow_split2 q] at l2 u2
    have hp : (0 : Int) < 1048576 * K := by omega
    have hpw : ((2 ^ e.toNat : Nat) : Int) = (2 : Int) ^ e.toNat := by simp
    generalize 1048576 * K = P at *
    rw [← Int.mul_assoc (sgn a m), ← Int.mul_assoc 2] at l2 u2
    have e1 := Int.lt_of_mul_lt_mul_right l2 (Int.le_of_lt hp)
    have e2 := Int.lt_of_mul_lt_mul_right u2 (Int.le_of_lt hp)
    refine nearest_core' (by decide) ?_ ?_
    · rw [sgn_mul, hpw]
      generalize sgn a m * (2 : Int) ^ e.toNat = y at *
      omega
    · rw [sgn_mul, hpw]
      generalize sgn a m * (2 : Int) ^ e.toNat = y at *
      omega
  · simp only [if_neg q, Nat.one_mul]
    rw [pow_split q he] at l2 u2
    have hp : (0 : Int) < (2 : Int) ^ (e + 1074).toNat := Int.pow_pos (by decide)
    have hpw : ((2 ^ (-e).toNat : Nat) : Int) = (2 : Int) ^ (-e).toNat := by simp
    generalize (2 : Int) ^ (e + 1074).toNat = P at *
    rw [← Int.mul_assoc 2 (sgn a m)] at l2 u2
    rw [← Int.mul_assoc (2 * n - 1)] at l2
    rw [← Int.mul_assoc (2 * n + 1)] at u2
    have e1 := Int.lt_of_mul_lt_mul_right l2 (Int.le_of_lt hp)
    have e2 := Int.lt_of_mul_lt_mul_right u2 (Int.le_of_lt hp)
    refine nearest_core' (Nat.two_pow_pos _) ?_ ?_
    · rw [hpw]; exact e1
    · rw [hpw]; exact e2
end Mine
namespace Mine
open PySem PySem.Float64

theorem compare_mul {p q k : Int} (hk : 0 < k) : compare (p * k) (q * k) = compare p q := by
  rcases Int.lt_trichotomy p q with h | h | h
  · rw [Int.compare_eq_lt.mpr h, Int.compare_eq_lt.mpr (Int.mul_lt_mul_of_pos_right h hk)]
  · subst h; simp
  · rw [Int.compare_eq_gt.mpr h, Int.compare_eq_gt.mpr (Int.mul_lt_mul_of_pos_right h hk)]

theorem cmp_hf {a b : Int} (ha : a.natAbs < 2 ^ 53) (hb : b.natAbs < 2 ^ 53) : cmp (hf a) (hf b) = some (compare a b) := by
  obtain ⟨⟨_, _, _, da⟩, va⟩ := hf_val ha
  obtain ⟨⟨_, _, _, db⟩, vb⟩ := hf_val hb
  have hK := K_pos
  rw [cmp_right da db, va, vb, compare_mul (by omega)]

theorem cmpInt_hf {a n : Int} (ha : a.natAbs < 2 ^ 53) : cmpInt (hf a) n = some (compare a (2 * n)) := by
  obtain ⟨⟨_, _, _, da⟩, va⟩ := hf_val ha
  have hK := K_pos
  rw [cmpInt_right da, va, p74, ← compare_mul (p := a) (k := 524288 * K) (by omega)]
  congr 2
  rw [Int.mul_comm 2 n, Int.mul_assoc]
  congr 1
  omega

theorem lt_some (a b : Int) : (some (compare a b) == some Ordering.lt) = decide (a < b) := by
  rcases Int.lt_trichotomy a b with h | h | h
  · rw [Int.compare_eq_lt.mpr h, decide_eq_true h]; rfl
  · subst h; simp
  · rw [Int.compare_eq_gt.mpr h, decide_eq_false (by omega)]; rfl
theorem gt_some (a b : Int) : (some (compare a b) == some Ordering.gt) = decide (b < a) := by
  rcases Int.lt_trichotomy a b with h | h | h
  · rw [Int.compare_eq_lt.mpr h, decide_eq_false (by omega)]; rfl
  · subst h; simp
  · rw [Int.compare_eq_gt.mpr h, decide_eq_true h]; rfl
theorem eq_some (a b : Int) : (some (compare a b) == some Ordering.eq) = decide (a = b) := by
  rcases Int.lt_trichotomy a b with h | h | h
  · rw [Int.compare_eq_lt.mpr h, decide_eq_false (by omega)]; rfl
  · subst h; simp
  · rw [Int.compare_eq_gt.mpr h, decide_eq_false (by omega)]; rfl
theorem ne_some (a b : Int) : (some (compare a b) != some Ordering.eq) = decide (a ≠ b) := by
  unfold bne
  rw [eq_some]
  by_cases h : a = b <;> simp [h]
theorem le_some (a b : Int) : (some (compare a b) == some Ordering.lt || some (compare a b) == some Ordering.eq) = decide (a ≤ b) := by
  rw [lt_some, eq_some]
  rcases Int.lt_trichotomy a b with h | h | h
  · rw [decide_eq_true h, decide_eq_true (show a ≤ b by omega)]; rfl
  · subst h; simp
  · rw [decide_eq_false (show ¬ a < b by omega), decide_eq_false (show ¬ a = b by omega), decide_eq_false (show ¬ a ≤ b by omega)]; rfl

/-! a whole number's float against any float of a known floor -/
theorem even_cmp {x : UInt64} {n c : Int} (hx : Fl x n) (hc : c.natAbs < 2 ^ 53) (he : c % 2 = 0) :
    (cmp (hf c) x == some Ordering.gt) = decide (2 * n < c) ∧ (cmp (hf c) x == some Ordering.lt || cmp (hf c) x == some Ordering.eq) = decide (c ≤ 2 * n) ∧ (cmp x (hf c) == some Ordering.lt) = decide (2 * n < c) := by
  obtain ⟨⟨_, _, _, dx⟩, l, u⟩ := hx
  obtain ⟨⟨_, _, _, dc⟩, vc⟩ := hf_val hc
  have hK := K_pos
  rw [cmp_right dc dx, cmp_right dx dc, le_some, gt_some, lt_some, vc]
  have e1 : n * (1048576 * K) = (2 * n) * (524288 * K) := by rw [Int.mul_comm 2 n, Int.mul_assoc]; congr 1; omega
  have e2 : (n + 1) * (1048576 * K) = (2 * (n + 1)) * (524288 * K) := by rw [Int.mul_comm 2 (n + 1), Int.mul_assoc]; congr 1; omega
  rw [e1] at l
  rw [e2] at u
  have hP : 0 < 524288 * K := by omega
  generalize 524288 * K = P at *
  by_cases q : 2 * n < c
  · have h1 : 2 * (n + 1) * P ≤ c * P := Int.mul_le_mul_of_nonneg_right (by omega) (Int.le_of_lt hP)
    refine ⟨decide_eq_decide.mpr ⟨fun _ => q, fun _ => by omega⟩, decide_eq_decide.mpr ⟨fun h => by omega, fun h => by omega⟩, decide_eq_decide.mpr ⟨fun _ => q, fun _ => by omega⟩⟩
  · have h1 : c * P ≤ 2 * n * P := Int.mul_le_mul_of_nonneg_right (by omega) (Int.le_of_lt hP)
    refine ⟨decide_eq_decide.mpr ⟨fun _ => by omega, fun _ => by omega⟩, decide_eq_decide.mpr ⟨fun h => by omega, fun h => by omega⟩, decide_eq_decide.mpr ⟨fun _ => by omega, fun _ => by omega⟩⟩

theorem Fl_hf {n : Int} (hn : n.natAbs < 2 ^ 50) : Fl (hf n) (n / 2) := by
  refine Fl_of_Bd (Bd_hf (by omega)) ?_ ?_ <;> omega
theorem Fl_hfo {n : Int} (hn : n.natAbs < 2 ^ 50) : Fl (hf (2 * n + 1)) n := by
  refine Fl_of_Bd (Bd_hf (by omega)) ?_ ?_ <;> omega
theorem Fl_hfe {n : Int} (hn : n.natAbs < 2 ^ 50) : Fl (hf (2 * n)) n := by
  refine Fl_of_Bd (Bd_hf (by omega)) ?_ ?_ <;> omega

/-! quotients -/
theorem isNonzero_ofInt {d : Int} (hd0 : 0 < d) (hd : d.natAbs < 2 ^ 52) : ∃ k f, decode (ofInt d) = .fin false k f ∧ k ≠ 0 ∧ val (ofInt d) = d * (1048576 * K) := by
  rw [ofInt_hf hd]
  obtain ⟨k, f, hd', _⟩ := hf_decode (n := 2 * d) (by omega)
  obtain ⟨_, hv⟩ := hf_val (n := 2 * d) (by omega)
  have hK := K_pos
  rw [decide_eq_false (by omega)] at hd'
  have hv2 : val (hf (2 * d)) = d * (1048576 * K) := by rw [hv, Int.mul_comm 2 d, Int.mul_assoc]; congr 1; omega
  refine ⟨k, f, hd', fun h0 => ?_, hv2⟩
  subst h0
  rw [val_eq hd', Nat.zero_mul] at hv2
  have h1 : 0 < d * (1048576 * K) := Int.mul_pos hd0 (by omega)
  have h2 : sgn false 0 = 0 := rfl
  omega

theorem isZero_ofInt {d : Int} (hd0 : 0 < d) (hd : d.natAbs < 2 ^ 52) : ¬ isZero (ofInt d) = true := by
  obtain ⟨k, f, h, hk, _⟩ := isNonzero_ofInt hd0 hd
  unfold isZero
  rw [h]
  cases k with
  | zero => exact absurd rfl hk
  | succ n => simp
theorem isInf_ofInt {d : Int} (hd : d.natAbs < 2 ^ 52) : ¬ isInf (ofInt d) = true := by
  rw [ofInt_hf hd]
  obtain ⟨k, f, hd', _⟩ := hf_decode (n := 2 * d) (by omega)
  unfold isInf
  rw [hd']
  simp

theorem div_bd {a d lo hi : Int} (ha : a.natAbs < 2 ^ 50) (hd0 : 0 < d) (hd : d.natAbs < 2 ^ 50) (hlo : lo.natAbs < 2 ^ 53) (hhi : hi.natAbs < 2 ^ 53)
    (h1 : lo * d ≤ a * 524288) (h2 : a * 524288 ≤ hi * d) : Bd (Float64.div (hf a) (ofInt d)) lo hi := by
  obtain ⟨m, e, da, _⟩ := hf_decode (n := a) (by omega)
  obtain ⟨_, va⟩ := hf_val (n := a) (by omega)
  obtain ⟨k, f, dd, hk, vd⟩ := isNonzero_ofInt hd0 (by omega)
  have h := div_right da dd hk
  have hK := K_pos
  have hDn : (d * (1048576 * K)).natAbs = d.natAbs * (1048576 * K).natAbs := Int.natAbs_mul _ _
  have hKn : 0 < (1048576 * K).natAbs := by omega
  have hsg : sgn (decide (a < 0) != false) ((val (hf a)).natAbs * 2 ^ 1074) = a * (524288 * K) * (1048576 * K) := by
    rw [va, Bool.bne_false, sgn_mul]
    have e1 : ((2 ^ 1074 : Nat) : Int) = 1048576 * K := by rw [← p74]; rfl
    rw [e1]
    congr 1
    have hP : 0 < 524288 * K := by omega
    generalize 524288 * K = P at *
    unfold sgn
    by_cases q : a < 0
    · have := Int.mul_neg_of_neg_of_pos q hP
      simp only [q, decide_true, if_true]; omega
    · have := Int.mul_nonneg (show 0 ≤ a by omega) (Int.le_of_lt hP)
      simp only [q, decide_false, Bool.false_eq_true, if_false]; omega
  have hVi : (((val (ofInt d)).natAbs : Nat) : Int) = d * (1048576 * K) := by
    rw [vd]
    have := Int.mul_pos hd0 (show 0 < 1048576 * K by omega)
    omega
  have hX : 0 ≤ K * (1048576 * K) := Int.mul_nonneg (Int.le_of_lt hK) (by omega)
  have r1 : d * (1048576 * K) * (lo * K) = lo * d * (K * (1048576 * K)) := by
    generalize 1048576 * K = P; ac_rfl
  have r2 : d * (1048576 * K) * (hi * K) = hi * d * (K * (1048576 * K)) := by
    generalize 1048576 * K = P; ac_rfl
  have r3 : a * (524288 * K) * (1048576 * K) = a * 524288 * (K * (1048576 * K)) := by
    generalize 1048576 * K = P; ac_rfl
  refine Bd_of_right h ?_ hlo hhi ?_ ?_
  · rw [vd, hDn]; exact Nat.mul_pos (by omega) hKn
  · rw [hsg, hVi, r1, r3]
    exact Int.mul_le_mul_of_nonneg_right h1 hX
  · rw [hsg, hVi, r2, r3]
    exact Int.mul_le_mul_of_nonneg_right h2 hX

theorem Fl_div {a d : Int} (ha : a.natAbs < 2 ^ 32) (hd0 : 0 < d) (hd : d ≤ 524288) : Fl (Float64.div (hf a) (ofInt d)) (a / (2 * d)) := by
  have e1 := Int.ediv_mul_add_emod a (2 * d)
  have e2 := Int.emod_nonneg a (show 2 * d ≠ 0 by omega)
  have e3 := Int.emod_lt_of_pos a (show 0 < 2 * d by omega)
  generalize a / (2 * d) = q at *
  generalize a % (2 * d) = r at *
  have e4 : q * (2 * d) = 2 * (q * d) := by rw [Int.mul_left_comm]
  rw [e4] at e1
  have hq : q.natAbs ≤ 2 ^ 32 := by
    by_cases h : q.natAbs ≤ 2 ^ 32
    · exact h
    · exfalso
      have h1 : q.natAbs * 1 ≤ q.natAbs * d.natAbs := Nat.mul_le_mul_left _ (by omega)
      have h2 : (q * d).natAbs = q.natAbs * d.natAbs := Int.natAbs_mul _ _
      omega
  refine Fl_of_Bd (lo := q * 1048576) (hi := (q + 1) * 1048576 - 1) (div_bd (by omega) hd0 (by omega) (by omega) (by omega) ?_ ?_) (by omega) (by omega)
  · have : q * 1048576 * d = (q * d) * 1048576 := by ac_rfl
    rw [this]; omega
  · have : ((q + 1) * 1048576 - 1) * d = (q * d) * 1048576 + 1048576 * d - d := by
      rw [Int.sub_mul, Int.one_mul, Int.add_mul, Int.add_mul, Int.one_mul, Int.mul_right_comm]
    rw [this]; omega

theorem Ce_div {a d : Int} (ha : a.natAbs < 2 ^ 32) (hd0 : 0 < d) (hd : d ≤ 524288) : Ce (Float64.div (hf a) (ofInt d)) ((a + 2 * d - 1) / (2 * d)) := by
  have e1 := Int.ediv_mul_add_emod (a + 2 * d - 1) (2 * d)
  have e2 := Int.emod_nonneg (a + 2 * d - 1) (show 2 * d ≠ 0 by omega)
  have e3 := Int.emod_lt_of_pos (a + 2 * d - 1) (show 0 < 2 * d by omega)
  generalize (a + 2 * d - 1) / (2 * d) = q at *
  generalize (a + 2 * d - 1) % (2 * d) = r at *
  have e4 : q * (2 * d) = 2 * (q * d) := by rw [Int.mul_left_comm]
  rw [e4] at e1
  have hq : q.natAbs ≤ 2 ^ 32 + 1 := by
    by_cases h : q.natAbs ≤ 2 ^ 32 + 1
    · exact h
    · exfalso
      rcases Int.le_total 0 q with h0 | h0
      · have h1 : (q - 1) * 1 ≤ (q - 1) * d := Int.mul_le_mul_of_nonneg_left (by omega) (by omega)
        rw [Int.sub_mul q 1 d, Int.one_mul] at h1
        omega
      · have h1 : q.natAbs * 1 ≤ q.natAbs * d.natAbs := Nat.mul_le_mul_left _ (by omega)
        have h2 : (q * d).natAbs = q.natAbs * d.natAbs := Int.natAbs_mul _ _
        omega
  refine Ce_of_Bd (lo := (q - 1) * 1048576 + 1) (hi := q * 1048576) (div_bd (by omega) hd0 (by omega) (by omega) (by omega) ?_ ?_) (by omega) (by omega)
  · have : ((q - 1) * 1048576 + 1) * d = (q * d) * 1048576 - 1048576 * d + d := by
      rw [Int.add_mul, Int.one_mul, Int.sub_mul, Int.sub_mul, Int.one_mul, Int.mul_right_comm]
    rw [this]; omega
  · have : q * 1048576 * d = (q * d) * 1048576 := by ac_rfl
    rw [this]; omega

/-! a quotient of two ints -/
@[irreducible] def qi (a d : Int) : UInt64 := ofFrac (decide (a < 0) != decide (d < 0)) a.natAbs d.natAbs
theorem qi_bd {a d lo hi : Int} (hd0 : 0 < d) (hlo : lo.natAbs < 2 ^ 53) (hhi : hi.natAbs < 2 ^ 53) (h1 : lo * d ≤ a * 1048576) (h2 : a * 1048576 ≤ hi * d) : Bd (qi a d) lo hi := by
  unfold qi
  have h := ofFrac_right (neg := (decide (a < 0) != decide (d < 0))) (n := a.natAbs) (d := d.natAbs) (W := a.natAbs * 2 ^ 1074) (D := d.natAbs) (by omega) rfl (by omega)
  have hK := K_pos
  have hsg : sgn (decide (a < 0) != decide (d < 0)) (a.natAbs * 2 ^ 1074) = a * (1048576 * K) := by
    rw [decide_eq_false (show ¬ d < 0 by omega), Bool.bne_false, sgn_mul, sgn_natAbs_self]
    congr 1
    rw [← p74]; rfl
  have hDi : ((d.natAbs : Nat) : Int) = d := by omega
  have r1 : d * (lo * K) = lo * d * K := by ac_rfl
  have r2 : d * (hi * K) = hi * d * K := by ac_rfl
  have r3 : a * (1048576 * K) = a * 1048576 * K := by rw [Int.mul_assoc]
  refine Bd_of_right h (by omega) hlo hhi ?_ ?_
  · rw [hsg, hDi, r1, r3]; exact Int.mul_le_mul_of_nonneg_right h1 (Int.le_of_lt hK)
  · rw [hsg, hDi, r2, r3]; exact Int.mul_le_mul_of_nonneg_right h2 (Int.le_of_lt hK)

theorem Fl_qi {a d : Int} (ha : a.natAbs < 2 ^ 32) (hd0 : 0 < d) (hd : d ≤ 1048576) : Fl (qi a d) (a / d) := by
  have e1 := Int.ediv_mul_add_emod a d
  have e2 := Int.emod_nonneg a (show d ≠ 0 by omega)
  have e3 := Int.emod_lt_of_pos a hd0
  generalize a / d = q at *
  generalize a % d = r at *
  have hq : q.natAbs ≤ 2 ^ 32 + 1 := by
    by_cases h : q.natAbs ≤ 2 ^ 32 + 1
    · exact h
    · exfalso
      rcases Int.le_total 0 q with h0 | h0
      · have h1 : q * 1 ≤ q * d := Int.mul_le_mul_of_nonneg_left (by omega) (by omega)
        omega
      · have h1 : (-q - 1) * 1 ≤ (-q - 1) * d := Int.mul_le_mul_of_nonneg_left (by omega) (by omega)
        have h3 : (-q - 1) * d = -(q * d) - d := by rw [Int.sub_mul, Int.neg_mul, Int.one_mul]
        rw [h3] at h1
        omega
  refine Fl_of_Bd (lo := q * 1048576) (hi := (q + 1) * 1048576 - 1) (qi_bd hd0 (by omega) (by omega) ?_ ?_) (by omega) (by omega)
  · have : q * 1048576 * d = (q * d) * 1048576 := by ac_rfl
    rw [this]; omega
  · have : ((q + 1) * 1048576 - 1) * d = (q * d) * 1048576 + 1048576 * d - d := by
      rw [Int.sub_mul, Int.one_mul, Int.add_mul, Int.add_mul, Int.one_mul, Int.mul_right_comm]
    rw [this]; omega

theorem Bd_ofInt {n : Int} (hn : n.natAbs < 2 ^ 33) : Bd (ofInt n) (n * 1048576) (n * 1048576) := by
  rw [ofInt_hf (by omega)]
  have := Bd_hf (n := 2 * n) (by omega)
  have e : 2 * n * 524288 = n * 1048576 := by omega
  rwa [e] at this

/-- floor of a twelfth and two ints -/
theorem Fl_sum {a i j : Int} (ha : a.natAbs < 2 ^ 30) (hi : i.natAbs < 2 ^ 20) (hj : j.natAbs < 2 ^ 20) : Fl (Float64.add (Float64.add (qi a 12) (ofInt i)) (ofInt j)) (a / 12 + i + j) := by
  have h1 : Bd (qi a 12) (a * 1048576 / 12) (a * 1048576 / 12 + 1) := qi_bd (by decide) (by omega) (by omega) (by omega) (by omega)
  have h2 := add_bd h1 (Bd_ofInt (n := i) (by omega)) (by omega) (by omega)
  have h3 := add_bd h2 (Bd_ofInt (n := j) (by omega)) (by omega) (by omega)
  refine Fl_of_Bd h3 (by omega) (by omega)
end Mine
namespace Mine
open PySem PySem.Float64

theorem hf_pack {n : Int} (hn : n.natAbs < 2 ^ 53) : ∃ t, t < infMag ∧ hf n = pack (decide (n < 0)) t := by
  obtain ⟨t, ht, hV⟩ := rep_nat (c := n.natAbs) (k := 1073) hn (by decide)
  have hb := big_nat (c := n.natAbs) (k := 1073) hn (by decide)
  exact ⟨t, ht, right_at (hf_right n) (by rw [Nat.one_mul]; exact hb) (by decide) (t₀ := t) (by rw [Nat.one_mul, hV])⟩
theorem hf_signBit {n : Int} (hn : n.natAbs < 2 ^ 53) (h0 : 0 ≤ n) : signBit (hf n) = false := by
  obtain ⟨t, ht, e⟩ := hf_pack hn
  have hI : infMag = 2047 * 2 ^ 52 := rfl
  rw [e, decide_eq_false (by omega)]
  unfold signBit
  rw [pack_toNat _ (by omega)]
  have : (0 + t) / 2 ^ 63 = 0 := by omega
  simp only [Bool.false_eq_true, if_false, this]
  rfl
theorem copysign_zero {y : UInt64} (h : signBit y = false) : copysign (zero false) y = hf 0 := by
  rw [hf_zero]
  unfold copysign
  have h1 : isNaN (zero false) = false := by decide +kernel
  rw [h1, h]
  decide +kernel
theorem hf_isZero {n : Int} (hn : n.natAbs < 2 ^ 53) : isZero (hf n) = decide (n = 0) := by
  obtain ⟨m, e, hd, _⟩ := hf_decode hn
  obtain ⟨_, hv⟩ := hf_val hn
  have hK := K_pos
  rw [val_eq hd] at hv
  unfold isZero
  rw [hd]
  cases m with
  | zero =>
    rw [Nat.zero_mul] at hv
    have h0 : sgn (decide (n < 0)) 0 = 0 := by unfold sgn; split <;> rfl
    rw [h0] at hv
    have : n = 0 := by
      rcases Int.mul_eq_zero.mp hv.symm with h | h
      · exact h
      · omega
    simp [this]
  | succ k =>
    have : n ≠ 0 := fun h => by
      subst h
      rw [Int.zero_mul] at hv
      have h2 : (sgn (decide ((0 : Int) < 0)) ((k + 1) * 2 ^ (e + 1074).toNat)).natAbs = 0 := by rw [hv]; rfl
      rw [sgn_natAbs] at h2
      have := Nat.mul_pos (show 0 < k + 1 by omega) (Nat.two_pow_pos (e + 1074).toNat)
      omega
    simp [this]
theorem isZero_zero (b : Bool) : isZero (zero b) = true := by cases b <;> decide +kernel

theorem right_zero {r : UInt64} {neg : Bool} (h : Right r neg 0 1) : r = zero neg := by
  refine right_at h ?_ (by decide) (t₀ := 0) (by rw [V_zero])
  exact Nat.mul_pos (by decide) (Nat.mul_pos (by decide) (Nat.two_pow_pos _))

theorem fmod_hf {a d : Int} (ha : a.natAbs < 2 ^ 50) (hd0 : 0 < d) (hd : d.natAbs < 2 ^ 50) :
    fmod (hf a) (ofInt d) = if a.natAbs % (2 * d.natAbs) = 0 then zero (decide (a < 0)) else hf (sgn (decide (a < 0)) (a.natAbs % (2 * d.natAbs))) := by
  obtain ⟨m, e, da, va⟩ := hf_decode (n := a) (by omega)
  obtain ⟨k, f, dd, hk, vd⟩ := isNonzero_ofInt hd0 (by omega)
  have he := decode_ge da
  have hf' := decode_ge dd
  have e1 : fmod (hf a) (ofInt d) = ofBin (decide (a < 0)) (m * 2 ^ (e - min e f).toNat % (k * 2 ^ (f - min e f).toNat)) (min e f) := by
    unfold fmod
    rw [da, dd]
    simp only
    rw [if_neg (by simpa using hk)]
    unfold align sgn
    simp only [Bool.false_eq_true, if_false, Int.toNat_natCast]
  have hX : m * 2 ^ (e - min e f).toNat * 2 ^ (min e f + 1074).toNat = a.natAbs * 2 ^ 1073 := by
    have h1 : (val (hf a)).natAbs = a.natAbs * 2 ^ 1073 := by rw [va, Int.natAbs_mul]; congr 1
    rw [val_natAbs da] at h1
    rw [← h1, Nat.mul_assoc, ← Nat.pow_add]
    congr 2
    omega
  have hY : k * 2 ^ (f - min e f).toNat * 2 ^ (min e f + 1074).toNat = 2 * d.natAbs * 2 ^ 1073 := by
    have h1 : (val (ofInt d)).natAbs = 2 * d.natAbs * 2 ^ 1073 := by
      rw [vd, ← p74, Int.natAbs_mul]
      have : ((2 : Int) ^ 1074).natAbs = 2 * 2 ^ 1073 := by decide +kernel
      rw [this]
      ac_rfl
    rw [val_natAbs dd] at h1
    rw [← h1, Nat.mul_assoc, ← Nat.pow_add]
    congr 2
    omega
  have hM : (m * 2 ^ (e - min e f).toNat % (k * 2 ^ (f - min e f).toNat)) * 2 ^ (min e f + 1074).toNat = a.natAbs % (2 * d.natAbs) * 2 ^ 1073 := by
    rw [← Nat.mul_mod_mul_right, hX, hY, Nat.mul_mod_mul_right]
  have hR : Right (fmod (hf a) (ofInt d)) (decide (a < 0)) (a.natAbs % (2 * d.natAbs) * 2 ^ 1073) 1 := by
    rw [e1]
    unfold ofBin
    refine ofFrac_right (shift_pos _ _ _ (by decide)) ?_ (by decide)
    have := shift_one (m * 2 ^ (e - min e f).toNat % (k * 2 ^ (f - min e f).toNat)) (min e f) 1074 (by omega)
    rw [Nat.mul_one]
    have h2 : (min e f + ((1074 : Nat) : Int)).toNat = (min e f + 1074).toNat := by omega
    rw [h2, hM] at this
    exact this
  have hr := Nat.mod_lt a.natAbs (show 0 < 2 * d.natAbs by omega)
  generalize a.natAbs % (2 * d.natAbs) = r at *
  split
  · rename_i h0
    rw [h0, Nat.zero_mul] at hR
    exact right_zero hR
  · rename_i h0
    refine hf_of_right (by rw [sgn_natAbs]; omega) hR (by decide) ?_ (by rw [sgn_natAbs, Nat.one_mul])
    by_cases q : a < 0
    · rw [decide_eq_true q]
      exact (decide_eq_true (show -(r : Int) < 0 by omega)).symm
    · rw [decide_eq_false q]
      exact (decide_eq_false (show ¬ (r : Int) < 0 by omega)).symm

theorem lt_hf {a b : Int} (ha : a.natAbs < 2 ^ 53) (hb : b.natAbs < 2 ^ 53) : Float64.lt (hf a) (hf b) = decide (a < b) := by
  unfold Float64.lt
  rw [cmp_hf ha hb, lt_some]
theorem gt_hf {a b : Int} (ha : a.natAbs < 2 ^ 53) (hb : b.natAbs < 2 ^ 53) : Float64.gt (hf a) (hf b) = decide (b < a) := by
  unfold Float64.gt
  rw [cmp_hf ha hb, gt_some]

theorem mod_hf {a d : Int} (ha : a.natAbs < 2 ^ 50) (hd0 : 0 < d) (hd : d.natAbs < 2 ^ 50) : (Float64.divmod (hf a) (ofInt d)).snd = hf (a % (2 * d)) := by
  have hF := fmod_hf ha hd0 hd
  have e1 := Int.ediv_mul_add_emod a (2 * d)
  have hr := Nat.mod_lt a.natAbs (show 0 < 2 * d.natAbs by omega)
  have hq := Nat.div_add_mod a.natAbs (2 * d.natAbs)
  have hdd : ((2 * d.natAbs : Nat) : Int) = 2 * d := by omega
  have hmod : a % (2 * d) = if a.natAbs % (2 * d.natAbs) = 0 then 0 else if a < 0 then 2 * d - (a.natAbs % (2 * d.natAbs) : Nat) else (a.natAbs % (2 * d.natAbs) : Nat) := by
    have hqi : (2 * d) * ((a.natAbs / (2 * d.natAbs) : Nat) : Int) + ((a.natAbs % (2 * d.natAbs) : Nat) : Int) = a.natAbs := by
      rw [← hdd, ← Int.natCast_mul, ← Int.natCast_add, hq]
    generalize a.natAbs / (2 * d.natAbs) = q at *
    generalize a.natAbs % (2 * d.natAbs) = r at *
    have key : ∀ (z v : Int), a = (2 * d) * z + v → 0 ≤ v → v < 2 * d → a % (2 * d) = v := fun z v h1 h2 h3 => by
      rw [h1, Int.mul_add_emod_self_left, Int.emod_eq_of_lt h2 h3]
    have hrd : (r : Int) < 2 * d := by omega
    by_cases h0 : r = 0
    · rw [if_pos h0]
      by_cases hneg : a < 0
      · exact key (-(q : Int)) 0 (by rw [Int.mul_neg]; omega) (by omega) (by omega)
      · exact key q 0 (by omega) (by omega) (by omega)
    · rw [if_neg h0]
      by_cases hneg : a < 0
      · rw [if_pos hneg]
        exact key (-(q : Int) - 1) _ (by rw [Int.mul_sub, Int.mul_neg, Int.mul_one]; omega) (by omega) (by omega)
      · rw [if_neg hneg]
        exact key q _ (by omega) (by omega) (by omega)
  have hz : zero false = hf 0 := hf_zero.symm
  have hy : Float64.lt (ofInt d) (zero false) = false := by
    rw [ofInt_hf (by omega), hz, lt_hf (by omega) (by decide), decide_eq_false (by omega)]
  unfold Float64.divmod
  simp only [hF]
  rw [hmod]
  by_cases h0 : a.natAbs % (2 * d.natAbs) = 0
  · simp only [if_pos h0, isZero_zero, if_true]
    exact copysign_zero (by rw [ofInt_hf (by omega)]; exact hf_signBit (by omega) (by omega))
  · simp only [if_neg h0]
    generalize a.natAbs % (2 * d.natAbs) = r at *
    have hs : (sgn (decide (a < 0)) r).natAbs < 2 ^ 53 := by rw [sgn_natAbs]; omega
    have hs0 : sgn (decide (a < 0)) r ≠ 0 := fun h => by
      have := congrArg Int.natAbs h
      rw [sgn_natAbs] at this
      exact h0 this
    rw [hf_isZero hs, decide_eq_false hs0, hy, hz, lt_hf hs (by decide)]
    by_cases hneg : a < 0
    · have e2 : sgn (decide (a < 0)) r = -(r : Int) := by unfold sgn; simp only [hneg, decide_true, if_true]
      rw [e2, decide_eq_true (show -(r : Int) < 0 by omega), if_pos hneg]
      simp only [show (false != true) = true from rfl, Bool.false_eq_true, if_false, if_true]
      rw [ofInt_hf (by omega), hf_add (by omega) (by omega)]
      congr 1
      omega
    · have e2 : sgn (decide (a < 0)) r = (r : Int) := by unfold sgn; simp only [hneg, decide_false, Bool.false_eq_true, if_false]
      rw [e2, decide_eq_false (show ¬ (r : Int) < 0 by omega), if_neg hneg]
      simp only [show (false != false) = false from rfl, Bool.false_eq_true, if_false]

theorem one_hf : Float64.one = hf 2 := by unfold hf; decide +kernel
theorem half_hf : Float64.half = hf 1 := by unfold hf; decide +kernel
theorem ofInt_one : ofInt 1 = hf 2 := by rw [ofInt_hf (by decide)]; rfl

theorem div_one {a : Int} (ha : a.natAbs < 2 ^ 50) : Float64.div (hf a) (ofInt 1) = hf a := by
  obtain ⟨m, e, da, va⟩ := hf_decode (n := a) (by omega)
  obtain ⟨k, f, dd, hk, vd⟩ := isNonzero_ofInt (d := 1) (by decide) (by decide)
  have h := div_right da dd hk
  have h1 : (val (hf a)).natAbs = a.natAbs * 2 ^ 1073 := by rw [va, Int.natAbs_mul]; congr 1
  have h2 : (val (ofInt 1)).natAbs = 2 ^ 1074 := by rw [vd, ← p74, Int.one_mul]; decide +kernel
  rw [h1, h2] at h
  refine hf_of_right (by omega) h (Nat.two_pow_pos _) (by simp) (by rw [Nat.mul_comm])

theorem floorF_hf {c : Int} (hc : c.natAbs < 2 ^ 50) (h0 : c ≠ 0) : floorF (hf (2 * c)) = hf (2 * c) := by
  have h := floor_Fl (Fl_hfe hc)
  obtain ⟨m, e, hd, _⟩ := hf_decode (n := 2 * c) (by omega)
  rw [PySem.Flt.toInt_fin hd] at h
  unfold floorF
  rw [hd]
  simp only [h]
  rw [if_neg (by simpa using h0), ofInt_hf (by omega)]

theorem floordiv_hf {c : Int} (hc : c.natAbs < 2 ^ 48) : (Float64.divmod (hf (2 * c + 1)) (ofInt 1)).fst = hf (2 * c) := by
  have hF := fmod_hf (a := 2 * c + 1) (d := 1) (by omega) (by decide) (by decide)
  have hr : (2 * c + 1).natAbs % (2 * (1 : Int).natAbs) = 1 := by
    have : (2 * (1 : Int).natAbs) = 2 := rfl
    rw [this]; omega
  rw [hr, if_neg (by decide)] at hF
  have hz : zero false = hf 0 := hf_zero.symm
  have hy : Float64.lt (ofInt 1) (zero false) = false := by
    rw [ofInt_hf (by decide), hz, lt_hf (by decide) (by decide)]; rfl
  have hend : ∀ x : UInt64, signBit x = false →
      (if isZero (hf (2 * c)) = true then copysign (zero false) x else if Float64.gt (Float64.sub (hf (2 * c)) (floorF (hf (2 * c)))) half = true then Float64.add (floorF (hf (2 * c))) one else floorF (hf (2 * c))) = hf (2 * c) := fun x hx => by
    rw [hf_isZero (by omega)]
    by_cases h0 : 2 * c = 0
    · rw [decide_eq_true h0, if_pos rfl, h0]
      exact copysign_zero hx
    · rw [decide_eq_false h0, if_neg (by decide), floorF_hf (by omega) (by omega), hf_sub (by omega) (by omega), half_hf, gt_hf (by omega) (by decide), decide_eq_false (by omega), if_neg (by decide)]
  unfold Float64.divmod
  simp only [hF]
  by_cases hneg : 2 * c + 1 < 0
  · have e2 : sgn (decide (2 * c + 1 < 0)) 1 = -1 := by unfold sgn; simp only [hneg, decide_true, if_true]; rfl
    rw [e2, hf_isZero (by decide), decide_eq_false (by decide), hy, hz, lt_hf (by decide) (by decide), decide_eq_true (show (-1 : Int) < 0 by decide)]
    rw [hf_sub (by omega) (by decide), div_one (by omega), one_hf, hf_sub (by omega) (by decide)]
    have e3 : 2 * c + 1 - -1 - 2 = 2 * c := by omega
    rw [e3]
    simp only [show (false != true) = true from rfl, Bool.false_eq_true, if_false, if_true]
    rw [div_one (by omega), ← hz]
    have h0 : ¬ 2 * c = 0 := by omega
    rw [hf_isZero (by omega), decide_eq_false h0, if_neg (by decide), floorF_hf (by omega) (by omega), hf_sub (by omega) (by omega), half_hf, gt_hf (by omega) (by decide), decide_eq_false (by omega), if_neg (by decide)]
  · have e2 : sgn (decide (2 * c + 1 < 0)) 1 = 1 := by unfold sgn; simp only [hneg, decide_false, Bool.false_eq_true, if_false]; rfl
    rw [e2, hf_isZero (by decide), decide_eq_false (by decide), hy, hz, lt_hf (by decide) (by decide), decide_eq_false (show ¬ (1 : Int) < 0 by decide)]
    rw [hf_sub (by omega) (by decide), div_one (by omega), div_one (by omega)]
    have e3 : 2 * c + 1 - 1 = 2 * c := by omega
    rw [e3]
    simp only [show (false != false) = false from rfl, Bool.false_eq_true, if_false]
    rw [← hz]
    exact hend _ (hf_signBit (by omega) (by omega))
end Mine
namespace Mine
open PySem PySem.Float64

theorem lit_epg : (4700144277945057280 : UInt64) = hf 3442851 := by unfold hf; decide +kernel
theorem lit_epp : (4701118784549683200 : UInt64) = hf 3896641 := by unfold hf; decide +kernel
theorem lit_half : (4602678819172646912 : UInt64) = hf 1 := by unfold hf; decide +kernel

abbrev TY : UInt64 := 4645133024903820211
theorem TY_dec : decode TY = .fin false 6425408712209331 (-44) := by
  have h : (TY.toNat / 2 ^ 63 == 1) = false := by decide +kernel
  have h1 : (TY.toNat / 2 ^ 52 % 2048) = 1031 := by decide +kernel
  have h2 : TY.toNat % 2 ^ 52 = 1921809084838835 := by decide +kernel
  unfold decode
  simp only [h, h1, h2]
  rfl
theorem TY_val : val TY = 6425408712209331 * 2 ^ 1030 := by
  rw [val_eq TY_dec]; rfl
theorem TY_bd : 382984203 * K ≤ val TY ∧ val TY ≤ 382984204 * K := by
  rw [TY_val]
  unfold K
  have h : (2 : Int) ^ 1054 = 16777216 * 2 ^ 1030 := by decide +kernel
  rw [h]
  have hp : (0 : Int) < 2 ^ 1030 := Int.pow_pos (by decide)
  generalize (2 : Int) ^ 1030 = P at *
  omega
theorem TY_nz : ¬ isZero TY = true := by
  unfold isZero
  rw [TY_dec]
  decide

theorem sgn_mul_sgn (a b : Bool) (m k : Nat) : sgn (a != b) (m * k) = sgn a m * sgn b k := by
  unfold sgn
  cases a <;> cases b <;> simp [Int.neg_mul, Int.mul_neg]

theorem mul_ty {k lo hi : Int} (hk : k.natAbs < 2 ^ 24) (h1 : lo ≤ 382984203 * k) (h2 : lo ≤ 382984204 * k) (h3 : 382984203 * k ≤ hi) (h4 : 382984204 * k ≤ hi) (hlo : lo.natAbs < 2 ^ 53) (hhi : hi.natAbs < 2 ^ 53) :
    Bd (Float64.mul TY (ofInt k)) lo hi := by
  have hK := K_pos
  rw [ofInt_hf (by omega)]
  obtain ⟨m, e, dd, _⟩ := hf_decode (n := 2 * k) (by omega)
  obtain ⟨_, vd⟩ := hf_val (n := 2 * k) (by omega)
  have h := mul_right TY_dec dd
  have hv : val (hf (2 * k)) = k * (1048576 * K) := by rw [vd, Int.mul_comm 2 k, Int.mul_assoc]; congr 1; omega
  have hD : ((2 ^ 1074 : Nat) : Int) = 1048576 * K := by rw [← p74]; rfl
  have hs : sgn (false != decide (2 * k < 0)) ((val TY).natAbs * (val (hf (2 * k))).natAbs) = val TY * k * (1048576 * K) := by
    rw [sgn_mul_sgn]
    have e1 : sgn false (val TY).natAbs = val TY := by
      have := TY_bd.1
      unfold sgn
      simp only [Bool.false_eq_true, if_false]
      omega
    have e2 : sgn (decide (2 * k < 0)) (val (hf (2 * k))).natAbs = val (hf (2 * k)) := by
      have hd : decide (2 * k < 0) = decide (val (hf (2 * k)) < 0) := by
        apply decide_eq_decide.mpr
        rw [hv]
        constructor
        · intro q; exact Int.mul_neg_of_neg_of_pos (by omega) (by omega)
        · intro q
          by_cases c : 0 ≤ k
          · have := Int.mul_nonneg c (show 0 ≤ 1048576 * K by omega)
            omega
          · omega
      rw [hd, sgn_natAbs_self]
    rw [e1, e2, hv, Int.mul_assoc]
  have hP : 0 ≤ 1048576 * K := by omega
  have hT := TY_bd
  have b1 : lo * K ≤ val TY * k := by
    rcases Int.le_total 0 k with q | q
    · have q1 : 382984203 * K * k ≤ val TY * k := Int.mul_le_mul_of_nonneg_right hT.1 q
      have q2 : lo * K ≤ 382984203 * k * K := Int.mul_le_mul_of_nonneg_right h1 (Int.le_of_lt hK)
      have q3 : 382984203 * K * k = 382984203 * k * K := by ac_rfl
      omega
    · have q1 : 382984204 * K * k ≤ val TY * k := Int.mul_le_mul_of_nonpos_right hT.2 q
      have q2 : lo * K ≤ 382984204 * k * K := Int.mul_le_mul_of_nonneg_right h2 (Int.le_of_lt hK)
      have q3 : 382984204 * K * k = 382984204 * k * K := by ac_rfl
      omega
  have b2 : val TY * k ≤ hi * K := by
    rcases Int.le_total 0 k with q | q
    · have q1 : val TY * k ≤ 382984204 * K * k := Int.mul_le_mul_of_nonneg_right hT.2 q
      have q2 : 382984204 * k * K ≤ hi * K := Int.mul_le_mul_of_nonneg_right h4 (Int.le_of_lt hK)
      have q3 : 382984204 * K * k = 382984204 * k * K := by ac_rfl
      omega
    · have q1 : val TY * k ≤ 382984203 * K * k := Int.mul_le_mul_of_nonpos_right hT.1 q
      have q2 : 382984203 * k * K ≤ hi * K := Int.mul_le_mul_of_nonneg_right h3 (Int.le_of_lt hK)
      have q3 : 382984203 * K * k = 382984203 * k * K := by ac_rfl
      omega
  refine Bd_of_right h (Nat.two_pow_pos _) hlo hhi ?_ ?_
  · rw [hs, hD, Int.mul_comm (1048576 * K)]
    exact Int.mul_le_mul_of_nonneg_right b1 hP
  · rw [hs, hD, Int.mul_comm (1048576 * K)]
    exact Int.mul_le_mul_of_nonneg_right b2 hP

theorem div_ty {c lo hi : Int} (hc : c.natAbs < 2 ^ 40) (hlo : lo.natAbs < 2 ^ 53) (hhi : hi.natAbs < 2 ^ 53)
    (h1 : lo * 382984203 ≤ c * 549755813888) (h2 : lo * 382984204 ≤ c * 549755813888) (h3 : c * 549755813888 ≤ hi * 382984203) (h4 : c * 549755813888 ≤ hi * 382984204) :
    Bd (Float64.div (hf c) TY) lo hi := by
  have hK := K_pos
  obtain ⟨m, e, da, _⟩ := hf_decode (n := c) (by omega)
  obtain ⟨_, va⟩ := hf_val (n := c) (by omega)
  have h := div_right da TY_dec (by decide)
  have hT := TY_bd
  have hsg : sgn (decide (c < 0) != false) ((val (hf c)).natAbs * 2 ^ 1074) = c * 549755813888 * K * K := by
    rw [Bool.bne_false, sgn_mul]
    have hd : decide (c < 0) = decide (val (hf c) < 0) := by
      apply decide_eq_decide.mpr
      rw [va]
      constructor
      · intro q; exact Int.mul_neg_of_neg_of_pos q (by omega)
      · intro q
        by_cases c : 0 ≤ c
        · have := Int.mul_nonneg c (show 0 ≤ 524288 * K by omega)
          omega
        · omega
    have e1 : ((2 ^ 1074 : Nat) : Int) = 1048576 * K := by rw [← p74]; rfl
    rw [hd, sgn_natAbs_self, e1, va]
    have e2 : (549755813888 : Int) = 524288 * 1048576 := by decide
    rw [e2]
    ac_rfl
  have hVi : (((val TY).natAbs : Nat) : Int) = val TY := by omega
  have g1 : lo * val TY ≤ c * 549755813888 * K := by
    rcases Int.le_total 0 lo with q | q
    · have q1 := Int.mul_le_mul_of_nonneg_left hT.2 q
      have q2 := Int.mul_le_mul_of_nonneg_right h2 (Int.le_of_lt hK)
      rw [Int.mul_assoc] at q2
      omega
    · have q1 := Int.mul_le_mul_of_nonpos_left q hT.1
      have q2 := Int.mul_le_mul_of_nonneg_right h1 (Int.le_of_lt hK)
      rw [Int.mul_assoc] at q2
      omega
  have g2 : c * 549755813888 * K ≤ hi * val TY := by
    rcases Int.le_total 0 hi with q | q
    · have q1 := Int.mul_le_mul_of_nonneg_left hT.1 q
      have q2 := Int.mul_le_mul_of_nonneg_right h3 (Int.le_of_lt hK)
      rw [Int.mul_assoc hi] at q2
      omega
    · have q1 := Int.mul_le_mul_of_nonpos_left q hT.2
      have q2 := Int.mul_le_mul_of_nonneg_right h4 (Int.le_of_lt hK)
      rw [Int.mul_assoc hi] at q2
      omega
  refine Bd_of_right h (by omega) hlo hhi ?_ ?_
  · rw [hsg, hVi]
    have : val TY * (lo * K) = lo * val TY * K := by ac_rfl
    rw [this]
    exact Int.mul_le_mul_of_nonneg_right g1 (Int.le_of_lt hK)
  · rw [hsg, hVi]
    have : val TY * (hi * K) = hi * val TY * K := by ac_rfl
    rw [this]
    exact Int.mul_le_mul_of_nonneg_right g2 (Int.le_of_lt hK)

/-- the law's equinox of a year, as an int; J: the days before a year -/
@[irreducible] def E (g : Int) : Int := 1721139 + 365 * g + g / 4 - g / 100 + g / 400
@[irreducible] def J (y : Int) : Int := 365 * (y - 1) + (y - 1) / 4 - (y - 1) / 100 + (y - 1) / 400

theorem Rd_ty {g c : Int} (hg : g.natAbs < 120000) (hc : c = 2 * E g - 2 - 3896641) : Rd (Float64.div (hf c) TY) (g - 622) := by
  unfold E at hc
  refine Rd_of_Bd (lo := (2 * (g - 622) - 1) * 524288 + 1) (hi := (2 * (g - 622) + 1) * 524288 - 1) (div_ty ?_ ?_ ?_ ?_ ?_ ?_ ?_) ?_ ?_ <;> omega

/-- half a day back -/
theorem half_back {x : UInt64} {n : Int} (hx : Fl x n) (hn : n.natAbs < 2 ^ 30) : ∃ k, Fl (Float64.sub x (hf 1)) k ∧ (k = n - 1 ∨ k = n) := by
  have hK := K_pos
  have h := add_bd (Bd_of_Fl hx) (Bd_hf (n := -1) (by decide)) (by omega) (by omega)
  have e : Float64.sub x (hf 1) = Float64.add x (hf (-1)) := by
    unfold Float64.sub
    rw [hf_neg (by decide) (by decide)]
  rw [e]
  obtain ⟨hf', l, u⟩ := h
  by_cases q : val (Float64.add x (hf (-1))) < n * (1048576 * K)
  · refine ⟨n - 1, ⟨hf', ?_, ?_⟩, .inl rfl⟩
    · refine Int.le_trans ?_ l
      rw [← Int.mul_assoc]
      exact Int.mul_le_mul_of_nonneg_right (by omega) (Int.le_of_lt hK)
    · have : n - 1 + 1 = n := by omega
      rw [this]; exact q
  · refine ⟨n, ⟨hf', Int.not_lt.mp q, Int.lt_of_le_of_lt u ?_⟩, .inr rfl⟩
    rw [← Int.mul_assoc]
    exact Int.mul_lt_mul_of_pos_right (by omega) hK
theorem half_back_o {n : Int} (hn : n.natAbs < 2 ^ 40) : Fl (Float64.sub (hf (2 * n + 1)) (hf 1)) n := by
  rw [hf_sub (by omega) (by decide)]
  have e : 2 * n + 1 - 1 = 2 * n := by omega
  rw [e]
  exact Fl_hfe (by omega)

/-- the first guess of to_jd_persian: EPOCH - 1 + TROPICALYEAR * k -/
theorem guess1 {k g : Int} (hk : k.natAbs < 120000) (hg : g = k + 622) :
    ∃ n, Fl (Float64.add (hf 3896639) (Float64.mul TY (ofInt k))) n ∧ E (g - 1) ≤ n ∧ n < E (g + 1) := by
  have hK := K_pos
  have h1 := mul_ty (k := k) (lo := 382984203 * k - 200000) (hi := 382984203 * k + 200000) (by omega) (by omega) (by omega) (by omega) (by omega) (by omega) (by omega)
  have h2 := add_bd (Bd_hf (n := 3896639) (by decide)) h1 (by omega) (by omega)
  obtain ⟨hf', l, u⟩ := h2
  have hP : 0 < 1048576 * K := by omega
  refine ⟨val (Float64.add (hf 3896639) (Float64.mul TY (ofInt k))) / (1048576 * K), ⟨hf', Int.ediv_mul_le _ (by omega), Int.lt_ediv_add_one_mul_self _ hP⟩, ?_, ?_⟩
  · refine (Int.le_ediv_iff_mul_le hP).mpr (Int.le_trans ?_ l)
    rw [← Int.mul_assoc]
    refine Int.mul_le_mul_of_nonneg_right ?_ (Int.le_of_lt hK)
    unfold E; omega
  · refine (Int.ediv_lt_iff_lt_mul hP).mpr (Int.lt_of_le_of_lt u ?_)
    rw [← Int.mul_assoc]
    refine Int.mul_lt_mul_of_pos_right ?_ hK
    unfold E; omega

/-- the later guesses: equinox + TROPICALYEAR + 2 -/
theorem guess2 {c g : Int} (hg : g.natAbs < 120000) (hc : c = 2 * E g - 2) :
    ∃ n, Fl (Float64.add (Float64.add (hf c) TY) (ofInt 2)) n ∧ E (g + 1) ≤ n ∧ n < E (g + 2) := by
  have hK := K_pos
  have hT : Bd TY 382984203 382984204 := ⟨⟨_, _, _, TY_dec⟩, TY_bd.1, TY_bd.2⟩
  have hE : E g = 1721139 + 365 * g + g / 4 - g / 100 + g / 400 := by unfold E; rfl
  have h1 := add_bd (Bd_hf (n := c) (by omega)) hT (by omega) (by omega)
  have h2 := add_bd h1 (Bd_ofInt (n := 2) (by decide)) (by omega) (by omega)
  obtain ⟨hf', l, u⟩ := h2
  have hP : 0 < 1048576 * K := by omega
  refine ⟨val (Float64.add (Float64.add (hf c) TY) (ofInt 2)) / (1048576 * K), ⟨hf', Int.ediv_mul_le _ (by omega), Int.lt_ediv_add_one_mul_self _ hP⟩, ?_, ?_⟩
  · refine (Int.le_ediv_iff_mul_le hP).mpr (Int.le_trans ?_ l)
    rw [← Int.mul_assoc]
    refine Int.mul_le_mul_of_nonneg_right ?_ (Int.le_of_lt hK)
    rw [hc]; unfold E; omega
  · refine (Int.ediv_lt_iff_lt_mul hP).mpr (Int.lt_of_le_of_lt u ?_)
    rw [← Int.mul_assoc]
    refine Int.mul_lt_mul_of_pos_right ?_ hK
    rw [hc]; unfold E; omega

/-- the day and its part -/
theorem Fl_part {n p : Int} (hn : n.natAbs < 2 ^ 28) (h0 : 0 ≤ p) (h1 : p < 512) : Fl (Float64.add (hf (2 * n + 1)) (qi p 1024)) n := by
  have h2 := qi_bd (a := p) (d := 1024) (lo := p * 1024) (hi := p * 1024) (by decide) (by omega) (by omega) (by omega) (by omega)
  have h3 := add_bd (Bd_hf (n := 2 * n + 1) (by omega)) h2 (by omega) (by omega)
  exact Fl_of_Bd h3 (by omega) (by omega)
end Mine
namespace Mine

@[irreducible] def lp (y : Int) : Bool := decide (y % 4 = 0) && (decide (y % 100 ≠ 0) || decide (y % 400 = 0))
/-- one for a leap year, else none -/
@[irreducible] def lpI (y : Int) : Int := if lp y = true then 1 else 0

theorem lp_iff (y : Int) : lp y = true ↔ (y % 4 = 0 ∧ (y % 100 ≠ 0 ∨ y % 400 = 0)) := by unfold lp; simp
theorem lpI_t {y : Int} (h : lp y = true) : lpI y = 1 := by unfold lpI; rw [if_pos h]
theorem lpI_f {y : Int} (h : lp y = false) : lpI y = 0 := by unfold lpI; rw [h]; rfl
theorem lpI_b (y : Int) : 0 ≤ lpI y ∧ lpI y ≤ 1 := by unfold lpI; split <;> omega

theorem J_next (y : Int) : J (y + 1) = J y + 365 + lpI y := by
  have h := lp_iff y
  unfold J
  cases e : lp y
  · rw [lpI_f e]
    rw [e] at h
    have h' : ¬ (y % 4 = 0 ∧ (y % 100 ≠ 0 ∨ y % 400 = 0)) := fun q => by have := h.mpr q; cases this
    omega
  · rw [lpI_t e]
    have h' := h.mp e
    omega
theorem E_J (g : Int) : E g = 1721139 + J (g + 1) := by unfold E J; omega
theorem E_J' (g : Int) : E g = 1721504 + J g + lpI g := by rw [E_J, J_next]; omega
theorem E_next (g : Int) : E (g + 1) = E g + 365 + lpI (g + 1) := by rw [E_J, E_J, J_next]; omega
theorem J_mono {a b : Int} (h : a ≤ b) : J a ≤ J b := by unfold J; omega
theorem E_mono {a b : Int} (h : a ≤ b) : E a ≤ E b := by unfold E; omega
theorem J_b {y : Int} (h : y.natAbs < 120000) : (J y).natAbs < 50000000 := by unfold J; omega
theorem E_b {y : Int} (h : y.natAbs < 120000) : (E y).natAbs < 50000000 := by unfold E; omega

theorem J_at {q c d i y : Int} (hc0 : 0 ≤ c) (hc : c ≤ 3) (hd0 : 0 ≤ d) (hd : d ≤ 24) (hi0 : 0 ≤ i) (hi : i ≤ 3) (hy : y = q * 400 + c * 100 + d * 4 + i + 1) : J y = 146097 * q + 36524 * c + 1461 * d + 365 * i := by
  have e1 : (y - 1) / 4 = 100 * q + 25 * c + d := by omega
  have e2 : (y - 1) / 100 = 4 * q + c := by omega
  have e3 : (y - 1) / 400 = q := by omega
  unfold J
  rw [e1, e2, e3]
  omega

/-- the year that from_jd reckons out of the days since the first of January of the year 1 -/
theorem greg_year {N q r c s d e i y : Int} (hq : q = N / 146097) (hr : r = N % 146097) (hc : c = r / 36524) (hs : s = r % 36524) (hd : d = s / 1461) (he : e = s % 1461) (hi : i = e / 365)
    (hy : y = q * 400 + c * 100 + d * 4 + i + (if c = 4 ∨ i = 4 then 0 else 1)) : J y ≤ N ∧ N < J (y + 1) := by
  rw [J_next]
  have hb := lpI_b y
  have hl := lp_iff y
  by_cases h4 : c = 4
  · have h0 : d = 0 ∧ i = 0 ∧ s = 0 := by omega
    rw [if_pos (.inl h4)] at hy
    have hJ := J_at (q := q) (c := 3) (d := 24) (i := 3) (y := y) (by omega) (by omega) (by omega) (by omega) (by omega) (by omega) (by omega)
    have : lpI y = 1 := lpI_t (hl.mpr (by omega))
    omega
  · by_cases h5 : i = 4
    · rw [if_pos (.inr h5)] at hy
      have hd23 : d ≤ 23 := by omega
      have hJ := J_at (q := q) (c := c) (d := d) (i := 3) (y := y) (by omega) (by omega) (by omega) (by omega) (by omega) (by omega) (by omega)
      have : lpI y = 1 := lpI_t (hl.mpr (by omega))
      omega
    · rw [if_neg (by omega)] at hy
      have hJ := J_at (q := q) (c := c) (d := d) (i := i) (y := y) (by omega) (by omega) (by omega) (by omega) (by omega) (by omega) (by omega)
      omega
end Mine
namespace Mine
open PySem PySem.W PySem.Calls PyProof.Rows PySem.Flt

section
variable {prog : Program} {w : World} {A : Around} {E' : Value → Shared → Prop} {s : Shared} {x y : UInt64} {a b n d : Int} {t u : Tok} {Q : Value → Shared → Prop}

theorem r_add_ff (ex : x = hf a) (ey : y = hf b) (ha : a.natAbs < 2 ^ 50) (hb : b.natAbs < 2 ^ 50) (h : ∀ c, c = a + b → Q (.float (hf c) s.toks) { s with toks := s.toks + 1 }) :
    wpAny (model prog w) A (binaryOp .Add (.float x t) (.float y u)) Q E' s := by
  subst ex; subst ey
  refine add_float ?_
  rw [hf_add (by omega) (by omega)]
  exact h _ rfl
theorem r_sub_ff (ex : x = hf a) (ey : y = hf b) (ha : a.natAbs < 2 ^ 50) (hb : b.natAbs < 2 ^ 50) (h : ∀ c, c = a - b → Q (.float (hf c) s.toks) { s with toks := s.toks + 1 }) :
    wpAny (model prog w) A (binaryOp .Sub (.float x t) (.float y u)) Q E' s := by
  subst ex; subst ey
  refine sub_float ?_
  rw [hf_sub (by omega) (by omega)]
  exact h _ rfl
theorem r_sub_xf (ey : y = hf b) (h : Q (.float (Float64.sub x (hf b)) s.toks) { s with toks := s.toks + 1 }) :
    wpAny (model prog w) A (binaryOp .Sub (.float x t) (.float y u)) Q E' s := by
  subst ey
  exact sub_float h
theorem r_add_fi (ex : x = hf a) (ha : a.natAbs < 2 ^ 50) (hn : n.natAbs < 2 ^ 48) (h : ∀ c, c = a + 2 * n → Q (.float (hf c) s.toks) { s with toks := s.toks + 1 }) :
    wpAny (model prog w) A (binaryOp .Add (.float x t) (.int n u)) Q E' s := by
  subst ex
  refine AutoFloatOps.add_fi_1 (isInf_ofInt (by omega)) ?_
  show Q (.float _ _) _
  rw [ofInt_hf (by omega), hf_add (by omega) (by omega)]
  exact h _ rfl
theorem r_add_xi (hn : n.natAbs < 2 ^ 48) (h : Q (.float (Float64.add x (Float64.ofInt n)) s.toks) { s with toks := s.toks + 1 }) :
    wpAny (model prog w) A (binaryOp .Add (.float x t) (.int n u)) Q E' s := AutoFloatOps.add_fi_1 (isInf_ofInt (by omega)) h
theorem r_add_if (ex : x = hf a) (ha : a.natAbs < 2 ^ 50) (hn : n.natAbs < 2 ^ 48) (h : ∀ c, c = 2 * n + a → Q (.float (hf c) s.toks) { s with toks := s.toks + 1 }) :
    wpAny (model prog w) A (binaryOp .Add (.int n u) (.float x t)) Q E' s := by
  subst ex
  refine AutoFloatOps.add_if_1 (isInf_ofInt (by omega)) ?_
  show Q (.float _ _) _
  rw [ofInt_hf (by omega), hf_add (by omega) (by omega)]
  exact h _ rfl
theorem r_sub_fi (ex : x = hf a) (ha : a.natAbs < 2 ^ 50) (hn : n.natAbs < 2 ^ 48) (h : ∀ c, c = a - 2 * n → Q (.float (hf c) s.toks) { s with toks := s.toks + 1 }) :
    wpAny (model prog w) A (binaryOp .Sub (.float x t) (.int n u)) Q E' s := by
  subst ex
  refine AutoFloatOps.sub_fi_1 (isInf_ofInt (by omega)) ?_
  show Q (.float _ _) _
  rw [ofInt_hf (by omega), hf_sub (by omega) (by omega)]
  exact h _ rfl
theorem r_iadd_fi (ex : x = hf a) (ha : a.natAbs < 2 ^ 50) (hn : n.natAbs < 2 ^ 48) (h : ∀ c, c = a + 2 * n → Q (.float (hf c) s.toks) { s with toks := s.toks + 1 }) :
    wpAny (model prog w) A (inplaceOp .Add (.float x t) (.int n u)) Q E' s := by
  subst ex
  refine iadd_fi_1 (isInf_ofInt (by omega)) ?_
  show Q (.float _ _) _
  rw [ofInt_hf (by omega), hf_add (by omega) (by omega)]
  exact h _ rfl
theorem r_isub_fi (ex : x = hf a) (ha : a.natAbs < 2 ^ 50) (hn : n.natAbs < 2 ^ 48) (h : ∀ c, c = a - 2 * n → Q (.float (hf c) s.toks) { s with toks := s.toks + 1 }) :
    wpAny (model prog w) A (inplaceOp .Sub (.float x t) (.int n u)) Q E' s := by
  subst ex
  refine isub_fi_1 (isInf_ofInt (by omega)) ?_
  show Q (.float _ _) _
  rw [ofInt_hf (by omega), hf_sub (by omega) (by omega)]
  exact h _ rfl
theorem r_mul_fi (ex : x = hf a) (ha : a.natAbs < 2 ^ 40) (hd0 : 0 < d) (hd : d.natAbs < 2 ^ 12) (h : ∀ c, c = a * d → Q (.float (hf c) s.toks) { s with toks := s.toks + 1 }) :
    wpAny (model prog w) A (binaryOp .Mult (.float x t) (.int d u)) Q E' s := by
  subst ex
  refine AutoFloatOps.mul_fi_1 (isInf_ofInt (by omega)) ?_
  show Q (.float _ _) _
  rw [hf_mul ha hd0 hd]
  exact h _ rfl
theorem r_mul_xi (hn : n.natAbs < 2 ^ 48) (h : Q (.float (Float64.mul x (Float64.ofInt n)) s.toks) { s with toks := s.toks + 1 }) :
    wpAny (model prog w) A (binaryOp .Mult (.float x t) (.int n u)) Q E' s := AutoFloatOps.mul_fi_1 (isInf_ofInt (by omega)) h
theorem r_div_fi (ex : x = hf a) (hd0 : 0 < d) (hd : d.natAbs < 2 ^ 48) (h : Q (.float (Float64.div (hf a) (Float64.ofInt d)) s.toks) { s with toks := s.toks + 1 }) :
    wpAny (model prog w) A (binaryOp .Div (.float x t) (.int d u)) Q E' s := by
  subst ex
  exact AutoFloatOps.truediv_fi_2 (isInf_ofInt (by omega)) (isZero_ofInt hd0 (by omega)) h
theorem r_div_ty (ex : x = hf a) (h : Q (.float (Float64.div (hf a) TY) s.toks) { s with toks := s.toks + 1 }) :
    wpAny (model prog w) A (binaryOp .Div (.float x t) (.float TY u)) Q E' s := by
  subst ex
  exact AutoFloatOps.truediv_1 TY_nz h
theorem r_div_ii (hd0 : 0 < d) (hn : n.natAbs < 2 ^ 40) (h : Q (.float (qi n d) s.toks) { s with toks := s.toks + 1 }) :
    wpAny (model prog w) A (binaryOp .Div (.int n t) (.int d u)) Q E' s := by
  refine AutoIntOps.truediv_2 (by simp; omega) (quot_fits (by omega) (Nat.lt_trans hn (Nat.pow_lt_pow_right (by decide) (by decide)))) ?_
  unfold qi at h
  exact h
theorem r_mod_fi (ex : x = hf a) (ha : a.natAbs < 2 ^ 50) (hd0 : 0 < d) (hd : d.natAbs < 2 ^ 48) (h : ∀ r, r = a % (2 * d) → Q (.float (hf r) s.toks) { s with toks := s.toks + 1 }) :
    wpAny (model prog w) A (binaryOp .Mod (.float x t) (.int d u)) Q E' s := by
  subst ex
  refine AutoFloatOps.mod_fi_2 (isInf_ofInt (by omega)) (isZero_ofInt hd0 (by omega)) ?_
  show Q (.float _ _) _
  rw [mod_hf ha hd0 (by omega)]
  exact h _ rfl
theorem r_fdiv_fi (ex : x = hf a) (ha : a.natAbs < 2 ^ 48) (ho : a % 2 = 1) (hd : d = 1) (h : ∀ r, r = a - 1 → Q (.float (hf r) s.toks) { s with toks := s.toks + 1 }) :
    wpAny (model prog w) A (binaryOp .FloorDiv (.float x t) (.int d u)) Q E' s := by
  subst ex
  subst hd
  refine AutoFloatOps.floordiv_fi_2 (isInf_ofInt (by decide)) (isZero_ofInt (by decide) (by decide)) ?_
  show Q (.float _ _) _
  obtain ⟨c, hc⟩ : ∃ c, a = 2 * c + 1 := ⟨a / 2, by omega⟩
  subst hc
  rw [floordiv_hf (by omega)]
  exact h _ (by omega)

/-! tests -/
theorem r_lt_fi (ex : x = hf a) (ha : a.natAbs < 2 ^ 50) {v : Bool} (hv : decide (a < 2 * n) = v) (h : Q (.bool v) s) : wpAny (model prog w) A (compareOp .Lt (.float x t) (.int n u)) Q E' s := by
  subst ex
  refine lt_fi ?_
  rw [cmpInt_hf (by omega), lt_some, hv]; exact h
theorem r_le_fi (ex : x = hf a) (ha : a.natAbs < 2 ^ 50) {v : Bool} (hv : decide (a ≤ 2 * n) = v) (h : Q (.bool v) s) : wpAny (model prog w) A (compareOp .LtE (.float x t) (.int n u)) Q E' s := by
  subst ex
  refine le_fi ?_
  rw [cmpInt_hf (by omega), le_some, hv]; exact h
theorem r_gt_fi (ex : x = hf a) (ha : a.natAbs < 2 ^ 50) {v : Bool} (hv : decide (2 * n < a) = v) (h : Q (.bool v) s) : wpAny (model prog w) A (compareOp .Gt (.float x t) (.int n u)) Q E' s := by
  subst ex
  refine gt_fi ?_
  rw [cmpInt_hf (by omega), gt_some, hv]; exact h
theorem r_lt_ff (ex : x = hf a) (ey : y = hf b) (ha : a.natAbs < 2 ^ 50) (hb : b.natAbs < 2 ^ 50) {v : Bool} (hv : decide (a < b) = v) (h : Q (.bool v) s) : wpAny (model prog w) A (compareOp .Lt (.float x t) (.float y u)) Q E' s := by
  subst ex; subst ey
  refine AutoFloatOps.lt_0 ?_
  rw [cmp_hf (by omega) (by omega), lt_some, hv]; exact h
theorem r_le_ff (ex : x = hf a) (ey : y = hf b) (ha : a.natAbs < 2 ^ 50) (hb : b.natAbs < 2 ^ 50) {v : Bool} (hv : decide (a ≤ b) = v) (h : Q (.bool v) s) : wpAny (model prog w) A (compareOp .LtE (.float x t) (.float y u)) Q E' s := by
  subst ex; subst ey
  refine AutoFloatOps.le_0 ?_
  rw [cmp_hf (by omega) (by omega), le_some, hv]; exact h
theorem r_ne_ff (ex : x = hf a) (ey : y = hf b) (ha : a.natAbs < 2 ^ 50) (hb : b.natAbs < 2 ^ 50) {v : Bool} (hv : decide (a ≠ b) = v) (h : Q (.bool v) s) : wpAny (model prog w) A (compareOp .NotEq (.float x t) (.float y u)) Q E' s := by
  subst ex; subst ey
  refine AutoFloatOps.ne_0 ?_
  rw [cmp_hf (by omega) (by omega), ne_some, hv]; exact h
/-! a whole number's float against one whose floor is known -/
theorem r_gt_ex (ex : x = hf a) (hy : Fl y n) (ha : a.natAbs < 2 ^ 50) (he : a % 2 = 0) {v : Bool} (hv : decide (2 * n < a) = v) (h : Q (.bool v) s) : wpAny (model prog w) A (compareOp .Gt (.float x t) (.float y u)) Q E' s := by
  subst ex
  refine AutoFloatOps.gt_0 ?_
  rw [(even_cmp hy (by omega) he).1, hv]; exact h
theorem r_le_ex (ex : x = hf a) (hy : Fl y n) (ha : a.natAbs < 2 ^ 50) (he : a % 2 = 0) {v : Bool} (hv : decide (a ≤ 2 * n) = v) (h : Q (.bool v) s) : wpAny (model prog w) A (compareOp .LtE (.float x t) (.float y u)) Q E' s := by
  subst ex
  refine AutoFloatOps.le_0 ?_
  rw [(even_cmp hy (by omega) he).2.1, hv]; exact h
theorem r_lt_xe (hx : Fl x n) (ey : y = hf a) (ha : a.natAbs < 2 ^ 50) (he : a % 2 = 0) {v : Bool} (hv : decide (2 * n < a) = v) (h : Q (.bool v) s) : wpAny (model prog w) A (compareOp .Lt (.float x t) (.float y u)) Q E' s := by
  subst ey
  refine AutoFloatOps.lt_0 ?_
  rw [(even_cmp hx (by omega) he).2.2, hv]; exact h

/-! floor, ceil, int, round -/
theorem r_floor (hx : Fl x n) (h : Q (.int n s.toks) { s with toks := s.toks + 1 }) : wpAny (model prog w) A (call (.builtin "math.floor") [.float x t]) Q E' s := by
  have e := floor_Fl hx
  obtain ⟨⟨_, _, _, hd⟩, _⟩ := hx
  rw [toInt_fin hd] at e
  subst e
  exact call_fn_gives kind_floor plain_floor entry_floor (args_floor _) (gives_mfloor t hd) h
theorem r_ceil (hx : Ce x n) (h : Q (.int n s.toks) { s with toks := s.toks + 1 }) : wpAny (model prog w) A (call (.builtin "math.ceil") [.float x t]) Q E' s := by
  have e := ceil_Ce hx
  obtain ⟨⟨_, _, _, hd⟩, _⟩ := hx
  rw [toInt_fin hd] at e
  subst e
  exact call_fn_gives kind_ceil plain_ceil entry_ceil (args_ceil _) (gives_mceil t hd) h
theorem r_round (hx : Rd x n) (h : Q (.int n s.toks) { s with toks := s.toks + 1 }) : wpAny (model prog w) A (call (.builtin "round") [.float x t]) Q E' s := by
  have e := round_Rd hx
  obtain ⟨⟨_, _, _, hd⟩, _⟩ := hx
  rw [toInt_fin hd] at e
  subst e
  refine round_via1 ?_
  exact call_gives F.slot_float_round (AutoFloatOps.typeIs_float s x t) F.entry_float_round (F.args_float_round_1 _) (gives_round t hd) h
theorem r_int (ex : x = hf a) (ha : a.natAbs < 2 ^ 50) (he : a % 2 = 0) (h : ∀ q, 2 * q = a → Q (.int q s.toks) { s with toks := s.toks + 1 }) : wpAny (model prog w) A (call (.type "int") [.float x t]) Q E' s := by
  subst ex
  obtain ⟨c, hc⟩ : ∃ c, a = 2 * c := ⟨a / 2, by omega⟩
  subst hc
  have e := trunc_hf (n := c) (by omega)
  obtain ⟨⟨_, _, _, hd⟩, _⟩ := hf_val (n := 2 * c) (by omega)
  rw [toInt_fin hd] at e
  have h' := h c rfl
  rw [← e] at h'
  exact call_int_float hd h'
theorem r_floor_div (ha : a.natAbs < 2 ^ 32) (hd0 : 0 < d) (hd : d ≤ 524288) (h : ∀ q, q = a / (2 * d) → Q (.int q s.toks) { s with toks := s.toks + 1 }) :
    wpAny (model prog w) A (call (.builtin "math.floor") [.float (Float64.div (hf a) (Float64.ofInt d)) t]) Q E' s := r_floor (Fl_div ha hd0 hd) (h _ rfl)
theorem r_ceil_div (ha : a.natAbs < 2 ^ 32) (hd0 : 0 < d) (hd : d ≤ 524288) (h : ∀ q, q = (a + 2 * d - 1) / (2 * d) → Q (.int q s.toks) { s with toks := s.toks + 1 }) :
    wpAny (model prog w) A (call (.builtin "math.ceil") [.float (Float64.div (hf a) (Float64.ofInt d)) t]) Q E' s := r_ceil (Ce_div ha hd0 hd) (h _ rfl)
theorem r_floor_qi (ha : a.natAbs < 2 ^ 32) (hd0 : 0 < d) (hd : d ≤ 1048576) (h : ∀ q, q = a / d → Q (.int q s.toks) { s with toks := s.toks + 1 }) :
    wpAny (model prog w) A (call (.builtin "math.floor") [.float (qi a d) t]) Q E' s := r_floor (Fl_qi ha hd0 hd) (h _ rfl)
theorem r_floor_sum {i j : Int} (ha : a.natAbs < 2 ^ 30) (hi : i.natAbs < 2 ^ 20) (hj : j.natAbs < 2 ^ 20) (h : ∀ q, q = a / 12 + i + j → Q (.int q s.toks) { s with toks := s.toks + 1 }) :
    wpAny (model prog w) A (call (.builtin "math.floor") [.float (Float64.add (Float64.add (qi a 12) (Float64.ofInt i)) (Float64.ofInt j)) t]) Q E' s := r_floor (Fl_sum ha hi hj) (h _ rfl)
end
end Mine
namespace Mine
open PySem PySem.W PyProof.Rows
set_option maxHeartbeats 8000000 in
open_top hd for PySem.Challenge.rw_ad5024_01
end Mine
namespace Mine
open PySem PySem.W PySem.Calls PyProof.Rows

def Mark (_ : OpenLaw) (_ : Params → Frag) : Prop := True
section
variable {prog : Program} {w : World} {A : Around} {E' : Value → Shared → Prop} {s : Shared} {a d : Int} {t u : Tok} {Q : Value → Shared → Prop}
theorem r_add_it {v : Int} (h : ∀ c, c = v + 1 → Q (.int c s.toks) { s with toks := s.toks + 1 }) : wpAny (model prog w) A (binaryOp .Add (.int v t) (.bool true)) Q E' s := PySem.add_int_bool (by exact h _ rfl)
theorem r_add_if' {v : Int} (h : ∀ c, c = v → Q (.int c s.toks) { s with toks := s.toks + 1 }) : wpAny (model prog w) A (binaryOp .Add (.int v t) (.bool false)) Q E' s := PySem.add_int_bool (by exact h _ (Int.add_zero _))
theorem r_sub_it {v : Int} (h : ∀ c, c = v - 1 → Q (.int c s.toks) { s with toks := s.toks + 1 }) : wpAny (model prog w) A (binaryOp .Sub (.int v t) (.bool true)) Q E' s := IntBool.sub_int_bool (by exact h _ rfl)
theorem r_sub_if' {v : Int} (h : ∀ c, c = v → Q (.int c s.toks) { s with toks := s.toks + 1 }) : wpAny (model prog w) A (binaryOp .Sub (.int v t) (.bool false)) Q E' s := IntBool.sub_int_bool (by exact h _ (Int.sub_zero _))
theorem r_mod_ii (hd0 : 0 < d) (h : Q (.int (a % d) s.toks) { s with toks := s.toks + 1 }) : wpAny (model prog w) A (binaryOp .Mod (.int a t) (.int d u)) Q E' s := by
  rw [← Int.fmod_eq_emod_of_nonneg _ (Int.le_of_lt hd0)] at h
  exact mod_int' (by omega) h
theorem r_in_tup {K : Frag} {h₀ : Heap} {L c : Addr} {m : Str → Option Value} {l : List Value} {n : Nat} {dd : Option Addr} {sl : Array (Option Value)} {ns : List Int} {k : Int} {b : Bool} (F : Fr h₀ L s.heap m) (X₀ : K.In h₀) (hl : K.lookup c = some ⟨.type "tuple", dd, .seq l.toArray n, sl⟩) (hi : IntsAre l ns)
    (hp : ns.any (· == k) = b) (h : Q (.bool b) s) : wpAny (model prog w) A (compareOp .In (.int k u) (.ref c)) Q E' s :=
  in_tuple_ints (tupK (X₀.keeps F.keep) hl) (by simpa using hi) (by rw [hp]; exact h)
theorem ia_a {t1 t2 t3 t4 : Tok} : IntsAre [.int 4 t1, .int 6 t2, .int 9 t3, .int 11 t4] [4, 6, 9, 11] := .cons _ _ (.cons _ _ (.cons _ _ (.cons _ _ (.nil))))
theorem ia_b {t1 t2 t3 t4 t5 t6 : Tok} : IntsAre [.int 1 t1, .int 2 t2, .int 3 t3, .int 4 t4, .int 5 t5, .int 6 t6] [1, 2, 3, 4, 5, 6] := .cons _ _ (.cons _ _ (.cons _ _ (.cons _ _ (.cons _ _ (.cons _ _ (.nil))))))
theorem ia_c {t1 t2 t3 t4 t5 : Tok} : IntsAre [.int 7 t1, .int 8 t2, .int 9 t3, .int 10 t4, .int 11 t5] [7, 8, 9, 10, 11] := .cons _ _ (.cons _ _ (.cons _ _ (.cons _ _ (.cons _ _ (.nil)))))
theorem any_a {k : Int} : ([4, 6, 9, 11] : List Int).any (· == k) = decide (k = 4 ∨ k = 6 ∨ k = 9 ∨ k = 11) := by
  rw [Bool.eq_iff_iff]; simp only [List.any_cons, List.any_nil, Bool.or_eq_true, beq_iff_eq, decide_eq_true_eq, Bool.false_eq_true, or_false]; omega
theorem any_b {k : Int} : ([1, 2, 3, 4, 5, 6] : List Int).any (· == k) = decide (1 ≤ k ∧ k ≤ 6) := by
  rw [Bool.eq_iff_iff]; simp only [List.any_cons, List.any_nil, Bool.or_eq_true, beq_iff_eq, decide_eq_true_eq, Bool.false_eq_true, or_false]; omega
theorem any_c {k : Int} : ([7, 8, 9, 10, 11] : List Int).any (· == k) = decide (7 ≤ k ∧ k ≤ 11) := by
  rw [Bool.eq_iff_iff]; simp only [List.any_cons, List.any_nil, Bool.or_eq_true, beq_iff_eq, decide_eq_true_eq, Bool.false_eq_true, or_false]; omega
theorem r_lt_ii {b : Int} {v : Bool} (hv : decide (a < b) = v) (h : Q (.bool v) s) : wpAny (model prog w) A (compareOp .Lt (.int a t) (.int b u)) Q E' s := lt_int (by rw [hv]; exact h)
theorem r_le_ii {b : Int} {v : Bool} (hv : decide (a ≤ b) = v) (h : Q (.bool v) s) : wpAny (model prog w) A (compareOp .LtE (.int a t) (.int b u)) Q E' s := le_int (by rw [hv]; exact h)
theorem r_gt_ii {b : Int} {v : Bool} (hv : decide (b < a) = v) (h : Q (.bool v) s) : wpAny (model prog w) A (compareOp .Gt (.int a t) (.int b u)) Q E' s := gt_int (by rw [hv]; exact h)
theorem r_ge_ii {b : Int} {v : Bool} (hv : decide (b ≤ a) = v) (h : Q (.bool v) s) : wpAny (model prog w) A (compareOp .GtE (.int a t) (.int b u)) Q E' s := ge_int (by rw [hv]; exact h)
theorem r_eq_ii {b : Int} {v : Bool} (hv : decide (a = b) = v) (h : Q (.bool v) s) : wpAny (model prog w) A (compareOp .Eq (.int a t) (.int b u)) Q E' s := eq_int (by
  have e : (a == b) = decide (a = b) := by rw [Bool.eq_iff_iff]; simp
  rw [e, hv]; exact h)
theorem r_ne_ii {b : Int} {v : Bool} (hv : decide (a ≠ b) = v) (h : Q (.bool v) s) : wpAny (model prog w) A (compareOp .NotEq (.int a t) (.int b u)) Q E' s := ne_int (by
  have e : (a != b) = decide (a ≠ b) := by rw [Bool.eq_iff_iff]; simp
  rw [e, hv]; exact h)
theorem beq_dec (a b : Int) : (a == b) = decide (a = b) := by rw [Bool.eq_iff_iff]; simp
end

section
variable (prog : Program) (w : World) (K : Frag) (p : Program) (loose : List Str) (mean : ExcName → Option Value) (mg mb : Str → Option Value)

/-- a call that hands back R t and leaves the ledger as it was -/
def Gives0 (k : Nat) (f : Addr) (vs : List Value) (R : Tok → Value) : Prop :=
  ∀ (dp un : Nat) (gd : Option (List Code)) (cn : Str) (cs : Scope) (a : Addr) (ccd : Value) (cl : List (Str × Addr)) (outer : List Env) (A₀ : Around) (base h₀ : Heap) (L : Addr) (m : Str → Option Value) (news : List (Addr × Obj)) (s : Shared) (Q E : Value → Shared → Prop),
    Below A₀ base outer h₀ → Fr h₀ L s.heap m → K.In h₀ → News h₀ L s.heap news → Top p loose mean mg mb h₀ → cs.kind = .function → dp + k < recursionLimit → un + 8 * k < cLine →
    (∀ (t : Tok) (h' : Heap) (tk' : Nat), Fr h₀ L h' m → News h₀ L h' news → Q (R t) { s with heap := h', toks := tk' }) →
    wpAny (model prog w) (ktrTop dp un gd cn cs L a ccd cl outer) (call (.ref f) vs) Q E s

/-- a call that hands back a tuple of three ints -/
def GivesT (k : Nat) (f : Addr) (vs : List Value) (P : Int → Int → Int → Prop) : Prop :=
  ∀ (dp un : Nat) (gd : Option (List Code)) (cn : Str) (cs : Scope) (a : Addr) (ccd : Value) (cl : List (Str × Addr)) (outer : List Env) (A₀ : Around) (base h₀ : Heap) (L : Addr) (m : Str → Option Value) (news : List (Addr × Obj)) (s : Shared) (Q E : Value → Shared → Prop),
    Below A₀ base outer h₀ → Fr h₀ L s.heap m → K.In h₀ → News h₀ L s.heap news → Top p loose mean mg mb h₀ → cs.kind = .function → dp + k < recursionLimit → un + 8 * k < cLine →
    (∀ (y mo d : Int) (D : Addr) (t1 t2 t3 : Tok) (c : Nat) (h' : Heap) (tk' : Nat), P y mo d → Fr h₀ L h' m → News h₀ L h' ((D, ({ cls := .type "tuple", data := .seq #[.int y t1, .int mo t2, .int d t3] c } : Obj)) :: news) → AllLt D news → Q (.ref D) { s with heap := h', toks := tk' }) →
    wpAny (model prog w) (ktrTop dp un gd cn cs L a ccd cl outer) (call (.ref f) vs) Q E s
/-- a call that hands back a tuple of an int and a float -/
def GivesIF (k : Nat) (f : Addr) (vs : List Value) (y b : Int) : Prop :=
  ∀ (dp un : Nat) (gd : Option (List Code)) (cn : Str) (cs : Scope) (a : Addr) (ccd : Value) (cl : List (Str × Addr)) (outer : List Env) (A₀ : Around) (base h₀ : Heap) (L : Addr) (m : Str → Option Value) (news : List (Addr × Obj)) (s : Shared) (Q E : Value → Shared → Prop),
    Below A₀ base outer h₀ → Fr h₀ L s.heap m → K.In h₀ → News h₀ L s.heap news → Top p loose mean mg mb h₀ → cs.kind = .function → dp + k < recursionLimit → un + 8 * k < cLine →
    (∀ (D : Addr) (t1 t2 : Tok) (c : Nat) (h' : Heap) (tk' : Nat), Fr h₀ L h' m → News h₀ L h' ((D, ({ cls := .type "tuple", data := .seq #[.int y t1, .float (hf b) t2] c } : Obj)) :: news) → AllLt D news → Q (.ref D) { s with heap := h', toks := tk' }) →
    wpAny (model prog w) (ktrTop dp un gd cn cs L a ccd cl outer) (call (.ref f) vs) Q E s
end

/-- the months' part of to_jd -/
@[irreducible] def mAdj (y m : Int) : Int := if m ≤ 2 then 0 else if lp y = true then -1 else -2
@[irreducible] def gJ (y m d : Int) : Int := 3442849 + 2 * J y + 2 * ((367 * m - 362) / 12 + mAdj y m + d)
theorem gJ_11 (y : Int) : gJ y 1 1 = 3442851 + 2 * J y := by unfold gJ mAdj; rw [if_pos (by decide)]; omega
theorem gJ_321 (y : Int) : gJ y 3 21 = 2 * E y + 1 := by
  have h := E_J' y
  unfold gJ mAdj
  rw [if_neg (by decide)]
  cases e : lp y
  · rw [lpI_f e] at h; simp only [Bool.false_eq_true, if_false]; omega
  · rw [lpI_t e] at h; simp only [if_true]; omega
theorem gJ_322 (y : Int) : gJ y 3 (22 - if lp y = true then 1 else 0) = 3443011 + 2 * J y := by
  unfold gJ mAdj
  rw [if_neg (by decide)]
  cases e : lp y
  · simp only [Bool.false_eq_true, if_false]; omega
  · simp only [if_true]; omega
theorem gJ_odd (y m d : Int) : gJ y m d % 2 = 1 := by unfold gJ; omega
theorem gJ_b {y m d : Int} (h : y.natAbs < 110000) (h1 : 1 ≤ m) (h2 : m ≤ 12) (h3 : 1 ≤ d) (h4 : d ≤ 28) : -100000000 < gJ y m d ∧ gJ y m d < 100000000 := by
  have hm : -2 ≤ mAdj y m ∧ mAdj y m ≤ 0 := by unfold mAdj; split <;> (try split) <;> omega
  unfold gJ J; omega
theorem greg_half {k c0 c1 q r c s d e i y : Int} (h0 : c0 = 2 * k + 1) (h1 : c1 = c0 - 3442851) (hq : q = c1 / (2 * 146097)) (hr : r = c1 % (2 * 146097)) (hc : c = r / (2 * 36524)) (hs : s = r % (2 * 36524)) (hd : d = s / (2 * 1461)) (he : e = s % (2 * 1461)) (hi : i = e / (2 * 365))
    (hy : y = q * 400 + c * 100 + d * 4 + i + (if c = 4 ∨ i = 4 then 0 else 1)) : J y ≤ k - 1721425 ∧ k - 1721425 < J (y + 1) := by
  refine greg_year (N := k - 1721425) (q := q) (r := r / 2) (c := c) (s := s / 2) (d := d) (e := e / 2) (i := i) ?_ ?_ ?_ ?_ ?_ ?_ ?_ hy <;> omega
/-- the Persian date's day number, twice -/
@[irreducible] def pJ (y m d : Int) : Int := 2 * E (y + 621) - 2 + 2 * (if m ≤ 7 then (m - 1) * 31 else (m - 1) * 30 + 6) + 2 * d + 1
/-- month and day of the year's day v (from 0 on) -/
@[irreducible] def pMo (v : Int) : Int := if v < 186 then v / 31 + 1 else (v - 186) / 30 + 7
@[irreducible] def pDa (v : Int) : Int := if v < 186 then v % 31 + 1 else (v - 186) % 30 + 1
@[irreducible] def mLen (y m : Int) : Int := if m ≤ 6 then 31 else if m ≤ 11 then 30 else 29 + lpI (y + 622)
/-- the Indian date's day number, twice -/
@[irreducible] def iJ (y m d : Int) : Int := 3443011 + 2 * J (y + 78) + 2 * (if m = 1 then d - 1 else 30 + lpI (y + 78) + (if m ≤ 7 then (m - 2) * 31 else 155 + (m - 7) * 30) + d - 1)
theorem Fl_hfo' {c n : Int} (hc : c = 2 * n + 1) (hn : n.natAbs < 2 ^ 50) : Fl (hf c) n := by subst hc; exact Fl_hfo hn
theorem half_back_o' {c n : Int} (hc : c = 2 * n + 1) (hn : n.natAbs < 2 ^ 40) : Fl (Float64.sub (hf c) (hf 1)) n := by subst hc; exact half_back_o hn
theorem E_bt {g : Int} (h : g.natAbs < 104000) : -36265000 ≤ E g ∧ E g ≤ 39708000 := by unfold E; omega
theorem year_of {g n k y : Int} (h1 : E g ≤ n) (h2 : n < E (g + 1)) (hk : k = n - 1 ∨ k = n) (h3 : J y ≤ k - 1721425) (h4 : k - 1721425 < J (y + 1)) : y = g ∨ y = g + 1 := by
  rw [E_J] at h1 h2
  have a1 : ¬ y + 1 ≤ g := fun h => by
    have := J_mono h
    have := J_next g
    have := lpI_b g
    omega
  have a2 : ¬ g + 1 + 1 ≤ y := fun h => by
    have := J_mono h
    omega
  omega
theorem Rd_ty' {g c c9 : Int} (hc : c = c9 - 3896641) (h9 : c9 = 2 * E g - 2) (hg : g.natAbs < 120000) : Rd (Float64.div (hf c) TY) (g - 622) := Rd_ty hg (by rw [hc, h9])
theorem Fl_g1 {c n : Int} {x : UInt64} (hc : c = 3896641 - 2 * 1) (h : Fl (Float64.add (hf 3896639) x) n) : Fl (Float64.add (hf c) x) n := by
  have e : c = 3896639 := by omega
  subst e; exact h
theorem gJ_3 {y c : Int} (h : c + lpI y = 22) : gJ y 3 c = 3443011 + 2 * J y := by
  unfold gJ mAdj
  rw [if_neg (by decide)]
  cases e : lp y
  · rw [lpI_f e] at h; simp only [Bool.false_eq_true, if_false]; omega
  · rw [lpI_t e] at h; simp only [if_true]; omega
def iP (g v : Int) (y mo d : Int) : Prop := (v = 0 ∧ lpI g = 0 → y = g - 79 ∧ mo = 12 ∧ d = 30) ∧ (v < 31 → 1 ≤ v + lpI g → y = g - 78 ∧ mo = 1 ∧ d = v + lpI g) ∧ (31 ≤ v → y = g - 78 ∧ mo = pMo v ∧ d = pDa v)
theorem iP_a {g v y mo d : Int} (h1 : v + lpI g < 1) (h0 : 0 ≤ v) (h2 : y = g - 79) (h3 : mo = 12) (h4 : d = 30) : iP g v y mo d := by
  have := lpI_b g
  exact ⟨fun _ => ⟨h2, h3, h4⟩, fun _ _ => by omega, fun _ => by omega⟩
theorem iP_b {g v y mo d : Int} (h1 : v < 31) (h0 : 1 ≤ v + lpI g) (h2 : y = g - 78) (h3 : mo = 1) (h4 : d = v + lpI g) : iP g v y mo d := by
  have := lpI_b g
  exact ⟨fun _ => by omega, fun _ _ => ⟨h2, h3, h4⟩, fun _ => by omega⟩
theorem iP_c {g v y mo d : Int} (h1 : 31 ≤ v) (h0 : v < 186) (h2 : y = g - 78) (h3 : mo = v / 31 + 1) (h4 : d = v % 31 + 1) : iP g v y mo d :=
  ⟨fun _ => by omega, fun _ _ => by omega, fun _ => ⟨h2, by unfold pMo; rw [if_pos h0]; exact h3, by unfold pDa; rw [if_pos h0]; exact h4⟩⟩
theorem iP_d {g v y mo d : Int} (h1 : 186 ≤ v) (h2 : y = g - 78) (h3 : mo = (v - 186) / 30 + 7) (h4 : d = (v - 186) % 30 + 1) : iP g v y mo d :=
  ⟨fun _ => by omega, fun _ _ => by omega, fun _ => ⟨h2, by unfold pMo; rw [if_neg (by omega)]; exact h3, by unfold pDa; rw [if_neg (by omega)]; exact h4⟩⟩
theorem J_inv {y N : Int} (h1 : J y ≤ N) (h2 : N < J (y + 1)) (h : N.natAbs < 39500000) : y.natAbs < 109000 := by unfold J at *; omega

section
variable (prog : Program) (w : World) (K : Frag) (p : Program) (loose : List Str) (mean : ExcName → Option Value) (mg mb : Str → Option Value)
def C_isleap : Prop := ∀ (y : Int) (t : Tok), Gives0 prog w K p loose mean mg mb 1 50 [.int y t] (fun _ => .bool (lp y))
def C_legal : Prop := ∀ (y mo d : Int) (t1 t2 t3 : Tok), 1 ≤ mo → mo ≤ 12 → 1 ≤ d → d ≤ 28 → Gives0 prog w K p loose mean mg mb 2 57 [.int y t1, .int mo t2, .int d t3] (fun _ => .bool (true))
def C_tojd : Prop := ∀ (y mo d : Int) (t1 t2 t3 : Tok), y.natAbs < 110000 → 1 ≤ mo → mo ≤ 12 → 1 ≤ d → d ≤ 28 → Gives0 prog w K p loose mean mg mb 3 64 [.int y t1, .int mo t2, .int d t3] (fun t => .float (hf (gJ y mo d)) t)
def C_fromjd : Prop := ∀ (x : UInt64) (k : Int) (t : Tok), Fl (Float64.sub x (hf 1)) k → (k - 1721425).natAbs < 39500000 → GivesT prog w K p loose mean mg mb 4 71 [.float x t] (fun y mo d => J y ≤ k - 1721425 ∧ k - 1721425 < J (y + 1) ∧ y.natAbs < 109000)
def C_eqx : Prop := ∀ (y : Int) (t : Tok), y.natAbs < 110000 → Gives0 prog w K p loose mean mg mb 4 136 [.int y t] (fun t => .float (hf (2 * E y)) t)
def C_lasteq : Prop := ∀ (x : UInt64) (n g : Int) (t : Tok), Fl x n → E g ≤ n → n < E (g + 1) → g.natAbs < 104000 → Gives0 prog w K p loose mean mg mb 5 87 [.float x t, .ref 136] (fun t => .float (hf (2 * E g - 2)) t)
def C_pyear : Prop := ∀ (x : UInt64) (n g : Int) (t : Tok), Fl x n → E g ≤ n → n < E (g + 1) → g.natAbs < 104000 → GivesIF prog w K p loose mean mg mb 6 94 [.float x t, .ref 136] (g - 621) (2 * E g - 2)
def C_tojdP : Prop := ∀ (y mo d : Int) (t1 t2 t3 : Tok), y.natAbs < 103000 → 1 ≤ mo → mo ≤ 12 → 1 ≤ d → d ≤ 31 → Gives0 prog w K p loose mean mg mb 7 101 [.int y t1, .int mo t2, .int d t3, .ref 136] (fun t => .float (hf (pJ y mo d)) t)
def C_fromjdP : Prop := ∀ (x : UInt64) (n g : Int) (t : Tok), Fl x n → E g ≤ n → n < E (g + 1) → g.natAbs < 104000 → GivesT prog w K p loose mean mg mb 6 108 [.float x t, .ref 136] (fun y mo d => y = g - 621 ∧ mo = pMo (n - E g) ∧ d = pDa (n - E g))
def C_leap : Prop := ∀ (y : Int) (t1 : Tok), y.natAbs < 102900 → Gives0 prog w K p loose mean mg mb 8 80 [.int y t1, .ref 136] (fun _ => .bool (lp (y + 622)))
def C_mlen : Prop := ∀ (y mo : Int) (t1 t2 : Tok), y.natAbs < 102900 → 1 ≤ mo → mo ≤ 12 → Gives0 prog w K p loose mean mg mb 9 115 [.int y t1, .int mo t2, .ref 136] (fun t => .int (mLen y mo) t)
def C_tojdI : Prop := ∀ (y mo d : Int) (t1 t2 t3 : Tok), y.natAbs < 105000 → 1 ≤ mo → mo ≤ 12 → 1 ≤ d → d ≤ 31 → Gives0 prog w K p loose mean mg mb 4 122 [.int y t1, .int mo t2, .int d t3] (fun t => .float (hf (iJ y mo d)) t)
def C_fromjdI : Prop := ∀ (x : UInt64) (n g : Int) (t : Tok), Fl x n → E g ≤ n → n < E (g + 1) → g.natAbs < 104000 → GivesT prog w K p loose mean mg mb 5 129 [.float x t] (fun y mo d => iP g (n - E g) y mo d)
def C_long : Prop := ∀ (y : Int) (t : Tok), Gives0 prog w K p loose mean mg mb 1 143 [.int y t] (fun _ => .bool (lp y))
end

section
variable {h₀ h' : Heap} {L : Addr} {m : Str → Option Value} {news news' : List (Addr × Obj)} {s : Shared} {Q : Value → Shared → Prop} {t : Tok} {tk' : Nat}
theorem ret_bool {x y : Bool} (hret : ∀ (t : Tok) (h' : Heap) (tk' : Nat), Fr h₀ L h' m → News h₀ L h' news → Q (.bool x) { s with heap := h', toks := tk' }) (F : Fr h₀ L h' m) (N : News h₀ L h' news') (hs : ∀ p ∈ news, p ∈ news') (e : y = x) : Q (.bool y) { s with heap := h', toks := tk' } := by
  subst e
  exact hret 0 h' tk' F (fun p hp => N p (hs p hp))
theorem ret_int {x y : Int} (hret : ∀ (t : Tok) (h' : Heap) (tk' : Nat), Fr h₀ L h' m → News h₀ L h' news → Q (.int x t) { s with heap := h', toks := tk' }) (F : Fr h₀ L h' m) (N : News h₀ L h' news') (hs : ∀ p ∈ news, p ∈ news') (e : y = x) : Q (.int y t) { s with heap := h', toks := tk' } := by
  subst e
  exact hret t h' tk' F (fun p hp => N p (hs p hp))
theorem ret_float {x y : Int} (hret : ∀ (t : Tok) (h' : Heap) (tk' : Nat), Fr h₀ L h' m → News h₀ L h' news → Q (.float (hf x) t) { s with heap := h', toks := tk' }) (F : Fr h₀ L h' m) (N : News h₀ L h' news') (hs : ∀ p ∈ news, p ∈ news') (e : y = x) : Q (.float (hf y) t) { s with heap := h', toks := tk' } := by
  subst e
  exact hret t h' tk' F (fun p hp => N p (hs p hp))
theorem ret_t3 {P : Int → Int → Int → Prop} {y mo d : Int} {D : Addr} {t1 t2 t3 : Tok} {c : Nat} (hret : ∀ (y mo d : Int) (D : Addr) (t1 t2 t3 : Tok) (c : Nat) (h' : Heap) (tk' : Nat), P y mo d → Fr h₀ L h' m → News h₀ L h' ((D, ({ cls := .type "tuple", data := .seq #[.int y t1, .int mo t2, .int d t3] c } : Obj)) :: news) → AllLt D news → Q (.ref D) { s with heap := h', toks := tk' })
    (F : Fr h₀ L h' m) (N : News h₀ L h' news') (hD : (D, ({ cls := .type "tuple", data := .seq #[.int y t1, .int mo t2, .int d t3] c } : Obj)) ∈ news') (hs : ∀ p ∈ news, p ∈ news') (hl : AllLt D news) (hP : P y mo d) : Q (.ref D) { s with heap := h', toks := tk' } :=
  hret y mo d D t1 t2 t3 c h' tk' hP F (fun p hp => (List.mem_cons.mp hp).elim (fun e => e ▸ N _ hD) fun h => N p (hs p h)) hl
theorem ret_if {x z y b : Int} {D : Addr} {t1 t2 : Tok} {c : Nat} (hret : ∀ (D : Addr) (t1 t2 : Tok) (c : Nat) (h' : Heap) (tk' : Nat), Fr h₀ L h' m → News h₀ L h' ((D, ({ cls := .type "tuple", data := .seq #[.int x t1, .float (hf z) t2] c } : Obj)) :: news) → AllLt D news → Q (.ref D) { s with heap := h', toks := tk' })
    (F : Fr h₀ L h' m) (N : News h₀ L h' news') (hD : (D, ({ cls := .type "tuple", data := .seq #[.int y t1, .float (hf b) t2] c } : Obj)) ∈ news') (hs : ∀ p ∈ news, p ∈ news') (hl : AllLt D news) (e1 : y = x) (e2 : b = z) : Q (.ref D) { s with heap := h', toks := tk' } := by
  subst e1; subst e2
  exact hret D t1 t2 c h' tk' F (fun p hp => (List.mem_cons.mp hp).elim (fun e => e ▸ N _ hD) fun h => N p (hs p h)) hl
end

section
variable {prog : Program} {w : World} {K : Frag} {p : Program} {loose : List Str} {mean : ExcName → Option Value} {mg mb : Str → Option Value}
variable {dp un : Nat} {gd : Option (List Code)} {cn : Str} {cs : Scope} {a : Addr} {ccd : Value} {cl : List (Str × Addr)} {outer : List Env} {A₀ : Around} {base h₀ : Heap} {L : Addr} {m : Str → Option Value} {news : List (Addr × Obj)} {s : Shared} {Q E' : Value → Shared → Prop}
theorem use_isleap {y : Int} {t : Tok} (C : C_isleap prog w K p loose mean mg mb) (B : Below A₀ base outer h₀) (F : Fr h₀ L s.heap m) (X : K.In h₀) (N : News h₀ L s.heap news) (T : Top p loose mean mg mb h₀) (hk : cs.kind = .function) (hd : dp + 1 < recursionLimit) (hu : un + 8 * 1 < cLine)
    (ret : ∀ (h' : Heap) (tk' : Nat), Fr h₀ L h' m → News h₀ L h' news → Q (.bool (lp y)) { s with heap := h', toks := tk' }) :
    wpAny (model prog w) (ktrTop dp un gd cn cs L a ccd cl outer) (call (.ref 50) [.int y t]) Q E' s := C y t  dp un gd cn cs a ccd cl outer A₀ base h₀ L m news s Q E' B F X N T hk hd hu (fun _ => ret)
theorem use_legal {y mo d : Int} {t1 t2 t3 : Tok} (C : C_legal prog w K p loose mean mg mb) (B : Below A₀ base outer h₀) (F : Fr h₀ L s.heap m) (X : K.In h₀) (N : News h₀ L s.heap news) (T : Top p loose mean mg mb h₀) (hk : cs.kind = .function) (hd : dp + 2 < recursionLimit) (hu : un + 8 * 2 < cLine)
    (p1 : 1 ≤ mo) (p2 : mo ≤ 12) (p3 : 1 ≤ d) (p4 : d ≤ 28) (ret : ∀ (h' : Heap) (tk' : Nat), Fr h₀ L h' m → News h₀ L h' news → Q (.bool (true)) { s with heap := h', toks := tk' }) :
    wpAny (model prog w) (ktrTop dp un gd cn cs L a ccd cl outer) (call (.ref 57) [.int y t1, .int mo t2, .int d t3]) Q E' s := C y mo d t1 t2 t3 p1 p2 p3 p4 dp un gd cn cs a ccd cl outer A₀ base h₀ L m news s Q E' B F X N T hk hd hu (fun _ => ret)
theorem use_tojd {y mo d : Int} {t1 t2 t3 : Tok} (C : C_tojd prog w K p loose mean mg mb) (B : Below A₀ base outer h₀) (F : Fr h₀ L s.heap m) (X : K.In h₀) (N : News h₀ L s.heap news) (T : Top p loose mean mg mb h₀) (hk : cs.kind = .function) (hd : dp + 3 < recursionLimit) (hu : un + 8 * 3 < cLine)
    (p0 : y.natAbs < 110000) (p1 : 1 ≤ mo) (p2 : mo ≤ 12) (p3 : 1 ≤ d) (p4 : d ≤ 28) (ret : ∀ (c : Int) (t : Tok) (h' : Heap) (tk' : Nat), c = gJ y mo d → c % 2 = 1 → -100000000 < c → c < 100000000 → Fr h₀ L h' m → News h₀ L h' news → Q (.float (hf c) t) { s with heap := h', toks := tk' }) :
    wpAny (model prog w) (ktrTop dp un gd cn cs L a ccd cl outer) (call (.ref 64) [.int y t1, .int mo t2, .int d t3]) Q E' s := C y mo d t1 t2 t3 p0 p1 p2 p3 p4 dp un gd cn cs a ccd cl outer A₀ base h₀ L m news s Q E' B F X N T hk hd hu (fun t h' tk' => ret _ t h' tk' rfl (gJ_odd _ _ _) (gJ_b p0 p1 p2 p3 p4).1 (gJ_b p0 p1 p2 p3 p4).2)
theorem use_fromjd {x : UInt64} {k : Int} {t : Tok} (C : C_fromjd prog w K p loose mean mg mb) (B : Below A₀ base outer h₀) (F : Fr h₀ L s.heap m) (X : K.In h₀) (N : News h₀ L s.heap news) (T : Top p loose mean mg mb h₀) (hk : cs.kind = .function) (hd : dp + 4 < recursionLimit) (hu : un + 8 * 4 < cLine)
    (p1 : Fl (Float64.sub x (hf 1)) k) (p2 : (k - 1721425).natAbs < 39500000) (ret : ∀ (y mo d : Int) (D : Addr) (t1 t2 t3 : Tok) (c : Nat) (h' : Heap) (tk' : Nat), (J y ≤ k - 1721425 ∧ k - 1721425 < J (y + 1) ∧ y.natAbs < 109000) → Fr h₀ L h' m → News h₀ L h' ((D, ({ cls := .type "tuple", data := .seq #[.int y t1, .int mo t2, .int d t3] c } : Obj)) :: news) → AllLt D news → Q (.ref D) { s with heap := h', toks := tk' }) :
    wpAny (model prog w) (ktrTop dp un gd cn cs L a ccd cl outer) (call (.ref 71) [.float x t]) Q E' s := C x k t p1 p2 dp un gd cn cs a ccd cl outer A₀ base h₀ L m news s Q E' B F X N T hk hd hu ret
theorem use_eqx {y : Int} {t : Tok} (C : C_eqx prog w K p loose mean mg mb) (B : Below A₀ base outer h₀) (F : Fr h₀ L s.heap m) (X : K.In h₀) (N : News h₀ L s.heap news) (T : Top p loose mean mg mb h₀) (hk : cs.kind = .function) (hd : dp + 4 < recursionLimit) (hu : un + 8 * 4 < cLine)
    (p0 : y.natAbs < 110000) (ret : ∀ (c : Int) (t : Tok) (h' : Heap) (tk' : Nat), c = 2 * E y → Fr h₀ L h' m → News h₀ L h' news → Q (.float (hf c) t) { s with heap := h', toks := tk' }) :
    wpAny (model prog w) (ktrTop dp un gd cn cs L a ccd cl outer) (call (.ref 136) [.int y t]) Q E' s := C y t p0 dp un gd cn cs a ccd cl outer A₀ base h₀ L m news s Q E' B F X N T hk hd hu (fun t h' tk' => ret _ t h' tk' rfl)
theorem use_lasteq {x : UInt64} {n g : Int} {t : Tok} (C : C_lasteq prog w K p loose mean mg mb) (B : Below A₀ base outer h₀) (F : Fr h₀ L s.heap m) (X : K.In h₀) (N : News h₀ L s.heap news) (T : Top p loose mean mg mb h₀) (hk : cs.kind = .function) (hd : dp + 5 < recursionLimit) (hu : un + 8 * 5 < cLine)
    (p1 : Fl x n) (p2 : E g ≤ n) (p3 : n < E (g + 1)) (p0 : g.natAbs < 104000) (ret : ∀ (c : Int) (t : Tok) (h' : Heap) (tk' : Nat), c = 2 * E g - 2 → Fr h₀ L h' m → News h₀ L h' news → Q (.float (hf c) t) { s with heap := h', toks := tk' }) :
    wpAny (model prog w) (ktrTop dp un gd cn cs L a ccd cl outer) (call (.ref 87) [.float x t, .ref 136]) Q E' s := C x n g t p1 p2 p3 p0 dp un gd cn cs a ccd cl outer A₀ base h₀ L m news s Q E' B F X N T hk hd hu (fun t h' tk' => ret _ t h' tk' rfl)
theorem use_pyear {x : UInt64} {n g : Int} {t : Tok} (C : C_pyear prog w K p loose mean mg mb) (B : Below A₀ base outer h₀) (F : Fr h₀ L s.heap m) (X : K.In h₀) (N : News h₀ L s.heap news) (T : Top p loose mean mg mb h₀) (hk : cs.kind = .function) (hd : dp + 6 < recursionLimit) (hu : un + 8 * 6 < cLine)
    (p1 : Fl x n) (p2 : E g ≤ n) (p3 : n < E (g + 1)) (p0 : g.natAbs < 104000) (ret : ∀ (y b : Int) (D : Addr) (t1 t2 : Tok) (c : Nat) (h' : Heap) (tk' : Nat), y = g - 621 → b = 2 * E g - 2 → Fr h₀ L h' m → News h₀ L h' ((D, ({ cls := .type "tuple", data := .seq #[.int y t1, .float (hf b) t2] c } : Obj)) :: news) → AllLt D news → Q (.ref D) { s with heap := h', toks := tk' }) :
    wpAny (model prog w) (ktrTop dp un gd cn cs L a ccd cl outer) (call (.ref 94) [.float x t, .ref 136]) Q E' s := C x n g t p1 p2 p3 p0 dp un gd cn cs a ccd cl outer A₀ base h₀ L m news s Q E' B F X N T hk hd hu (fun D t1 t2 c h' tk' => ret _ _ D t1 t2 c h' tk' rfl rfl)
theorem use_tojdP {y mo d : Int} {t1 t2 t3 : Tok} (C : C_tojdP prog w K p loose mean mg mb) (B : Below A₀ base outer h₀) (F : Fr h₀ L s.heap m) (X : K.In h₀) (N : News h₀ L s.heap news) (T : Top p loose mean mg mb h₀) (hk : cs.kind = .function) (hd : dp + 7 < recursionLimit) (hu : un + 8 * 7 < cLine)
    (p0 : y.natAbs < 103000) (p1 : 1 ≤ mo) (p2 : mo ≤ 12) (p3 : 1 ≤ d) (p4 : d ≤ 31) (ret : ∀ (c : Int) (t : Tok) (h' : Heap) (tk' : Nat), c = pJ y mo d → Fr h₀ L h' m → News h₀ L h' news → Q (.float (hf c) t) { s with heap := h', toks := tk' }) :
    wpAny (model prog w) (ktrTop dp un gd cn cs L a ccd cl outer) (call (.ref 101) [.int y t1, .int mo t2, .int d t3, .ref 136]) Q E' s := C y mo d t1 t2 t3 p0 p1 p2 p3 p4 dp un gd cn cs a ccd cl outer A₀ base h₀ L m news s Q E' B F X N T hk hd hu (fun t h' tk' => ret _ t h' tk' rfl)
theorem use_fromjdP {x : UInt64} {n g : Int} {t : Tok} (C : C_fromjdP prog w K p loose mean mg mb) (B : Below A₀ base outer h₀) (F : Fr h₀ L s.heap m) (X : K.In h₀) (N : News h₀ L s.heap news) (T : Top p loose mean mg mb h₀) (hk : cs.kind = .function) (hd : dp + 6 < recursionLimit) (hu : un + 8 * 6 < cLine)
    (p1 : Fl x n) (p2 : E g ≤ n) (p3 : n < E (g + 1)) (p0 : g.natAbs < 104000) (ret : ∀ (y mo d : Int) (D : Addr) (t1 t2 t3 : Tok) (c : Nat) (h' : Heap) (tk' : Nat), (y = g - 621 ∧ mo = pMo (n - E g) ∧ d = pDa (n - E g)) → Fr h₀ L h' m → News h₀ L h' ((D, ({ cls := .type "tuple", data := .seq #[.int y t1, .int mo t2, .int d t3] c } : Obj)) :: news) → AllLt D news → Q (.ref D) { s with heap := h', toks := tk' }) :
    wpAny (model prog w) (ktrTop dp un gd cn cs L a ccd cl outer) (call (.ref 108) [.float x t, .ref 136]) Q E' s := C x n g t p1 p2 p3 p0 dp un gd cn cs a ccd cl outer A₀ base h₀ L m news s Q E' B F X N T hk hd hu ret
theorem use_leap {y : Int} {t1 : Tok} (C : C_leap prog w K p loose mean mg mb) (B : Below A₀ base outer h₀) (F : Fr h₀ L s.heap m) (X : K.In h₀) (N : News h₀ L s.heap news) (T : Top p loose mean mg mb h₀) (hk : cs.kind = .function) (hd : dp + 8 < recursionLimit) (hu : un + 8 * 8 < cLine)
    (p0 : y.natAbs < 102900) (ret : ∀ (h' : Heap) (tk' : Nat), Fr h₀ L h' m → News h₀ L h' news → Q (.bool (lp (y + 622))) { s with heap := h', toks := tk' }) :
    wpAny (model prog w) (ktrTop dp un gd cn cs L a ccd cl outer) (call (.ref 80) [.int y t1, .ref 136]) Q E' s := C y t1 p0 dp un gd cn cs a ccd cl outer A₀ base h₀ L m news s Q E' B F X N T hk hd hu (fun _ => ret)
theorem use_mlen {y mo : Int} {t1 t2 : Tok} (C : C_mlen prog w K p loose mean mg mb) (B : Below A₀ base outer h₀) (F : Fr h₀ L s.heap m) (X : K.In h₀) (N : News h₀ L s.heap news) (T : Top p loose mean mg mb h₀) (hk : cs.kind = .function) (hd : dp + 9 < recursionLimit) (hu : un + 8 * 9 < cLine)
    (p0 : y.natAbs < 102900) (p1 : 1 ≤ mo) (p2 : mo ≤ 12) (ret : ∀ (c : Int) (t : Tok) (h' : Heap) (tk' : Nat), c = mLen y mo → Fr h₀ L h' m → News h₀ L h' news → Q (.int c t) { s with heap := h', toks := tk' }) :
    wpAny (model prog w) (ktrTop dp un gd cn cs L a ccd cl outer) (call (.ref 115) [.int y t1, .int mo t2, .ref 136]) Q E' s := C y mo t1 t2 p0 p1 p2 dp un gd cn cs a ccd cl outer A₀ base h₀ L m news s Q E' B F X N T hk hd hu (fun t h' tk' => ret _ t h' tk' rfl)
theorem use_tojdI {y mo d : Int} {t1 t2 t3 : Tok} (C : C_tojdI prog w K p loose mean mg mb) (B : Below A₀ base outer h₀) (F : Fr h₀ L s.heap m) (X : K.In h₀) (N : News h₀ L s.heap news) (T : Top p loose mean mg mb h₀) (hk : cs.kind = .function) (hd : dp + 4 < recursionLimit) (hu : un + 8 * 4 < cLine)
    (p0 : y.natAbs < 105000) (p1 : 1 ≤ mo) (p2 : mo ≤ 12) (p3 : 1 ≤ d) (p4 : d ≤ 31) (ret : ∀ (c : Int) (t : Tok) (h' : Heap) (tk' : Nat), c = iJ y mo d → Fr h₀ L h' m → News h₀ L h' news → Q (.float (hf c) t) { s with heap := h', toks := tk' }) :
    wpAny (model prog w) (ktrTop dp un gd cn cs L a ccd cl outer) (call (.ref 122) [.int y t1, .int mo t2, .int d t3]) Q E' s := C y mo d t1 t2 t3 p0 p1 p2 p3 p4 dp un gd cn cs a ccd cl outer A₀ base h₀ L m news s Q E' B F X N T hk hd hu (fun t h' tk' => ret _ t h' tk' rfl)
theorem use_fromjdI {x : UInt64} {n g : Int} {t : Tok} (C : C_fromjdI prog w K p loose mean mg mb) (B : Below A₀ base outer h₀) (F : Fr h₀ L s.heap m) (X : K.In h₀) (N : News h₀ L s.heap news) (T : Top p loose mean mg mb h₀) (hk : cs.kind = .function) (hd : dp + 5 < recursionLimit) (hu : un + 8 * 5 < cLine)
    (p1 : Fl x n) (p2 : E g ≤ n) (p3 : n < E (g + 1)) (p0 : g.natAbs < 104000) (ret : ∀ (y mo d : Int) (D : Addr) (t1 t2 t3 : Tok) (c : Nat) (h' : Heap) (tk' : Nat), (iP g (n - E g) y mo d) → Fr h₀ L h' m → News h₀ L h' ((D, ({ cls := .type "tuple", data := .seq #[.int y t1, .int mo t2, .int d t3] c } : Obj)) :: news) → AllLt D news → Q (.ref D) { s with heap := h', toks := tk' }) :
    wpAny (model prog w) (ktrTop dp un gd cn cs L a ccd cl outer) (call (.ref 129) [.float x t]) Q E' s := C x n g t p1 p2 p3 p0 dp un gd cn cs a ccd cl outer A₀ base h₀ L m news s Q E' B F X N T hk hd hu ret
theorem use_long {y : Int} {t : Tok} (C : C_long prog w K p loose mean mg mb) (B : Below A₀ base outer h₀) (F : Fr h₀ L s.heap m) (X : K.In h₀) (N : News h₀ L s.heap news) (T : Top p loose mean mg mb h₀) (hk : cs.kind = .function) (hd : dp + 1 < recursionLimit) (hu : un + 8 * 1 < cLine)
    (ret : ∀ (h' : Heap) (tk' : Nat), Fr h₀ L h' m → News h₀ L h' news → Q (.bool (lp y)) { s with heap := h', toks := tk' }) :
    wpAny (model prog w) (ktrTop dp un gd cn cs L a ccd cl outer) (call (.ref 143) [.int y t]) Q E' s := C y t  dp un gd cn cs a ccd cl outer A₀ base h₀ L m news s Q E' B F X N T hk hd hu (fun _ => ret)
theorem use_isleap_s {y : Int} {t : Tok} (C : C_isleap prog w K p loose mean mg mb) (B : Below A₀ base outer h₀) (F : Fr h₀ L s.heap m) (X : K.In h₀) (N : News h₀ L s.heap news) (T : Top p loose mean mg mb h₀) (hk : cs.kind = .function) (hd : dp + 1 < recursionLimit) (hu : un + 8 * 1 < cLine)
    (rt : ∀ (h' : Heap) (tk' : Nat), lp y = true → lpI y = 1 → Fr h₀ L h' m → News h₀ L h' news → Q (.bool true) { s with heap := h', toks := tk' })
    (rf : ∀ (h' : Heap) (tk' : Nat), lp y = false → lpI y = 0 → Fr h₀ L h' m → News h₀ L h' news → Q (.bool false) { s with heap := h', toks := tk' }) :
    wpAny (model prog w) (ktrTop dp un gd cn cs L a ccd cl outer) (call (.ref 50) [.int y t]) Q E' s := by
  refine use_isleap C B F X N T hk hd hu fun h' tk' F' N' => ?_
  cases e : lp y
  · exact rf h' tk' e (lpI_f e) F' N'
  · exact rt h' tk' e (lpI_t e) F' N'
theorem use_tojd_1 {k c0 c1 q r c sv d e i y : Int} {t1 t2 t3 : Tok} (C : C_tojd prog w K p loose mean mg mb) (B : Below A₀ base outer h₀) (F : Fr h₀ L s.heap m) (X : K.In h₀) (N : News h₀ L s.heap news) (T : Top p loose mean mg mb h₀) (hk : cs.kind = .function) (hd' : dp + 3 < recursionLimit) (hu : un + 8 * 3 < cLine)
    (hb : (k - 1721425).natAbs < 39500000) (h0 : c0 = 2 * k + 1) (h1 : c1 = c0 - 3442851) (hq : q = c1 / (2 * 146097)) (hr : r = c1 % (2 * 146097)) (hc : c = r / (2 * 36524)) (hs : sv = r % (2 * 36524)) (hd : d = sv / (2 * 1461)) (he : e = sv % (2 * 1461)) (hi : i = e / (2 * 365))
    (hy : y = q * 400 + c * 100 + d * 4 + i + (if c = 4 ∨ i = 4 then 0 else 1))
    (ret : ∀ (c : Int) (t : Tok) (h' : Heap) (tk' : Nat), c = 3442851 + 2 * J y → (J y).natAbs < 50000000 → y.natAbs < 109000 → J y ≤ k - 1721425 → k - 1721425 < J (y + 1) → k - 1721425 < J y + 365 + lpI y → Fr h₀ L h' m → News h₀ L h' news → Q (.float (hf c) t) { s with heap := h', toks := tk' }) :
    wpAny (model prog w) (ktrTop dp un gd cn cs L a ccd cl outer) (call (.ref 64) [.int y t1, .int 1 t2, .int 1 t3]) Q E' s := by
  have G := greg_half h0 h1 hq hr hc hs hd he hi hy
  have G2 := J_next y
  have b := J_inv G.1 G.2 hb
  refine use_tojd C B F X N T hk hd' hu (by omega) (by decide) (by decide) (by decide) (by decide) fun c t h' tk' hc _ _ _ F' N' => ?_
  rw [gJ_11] at hc
  exact ret c t h' tk' hc (J_b (by omega)) b G.1 G.2 (by omega) F' N'
theorem use_pyear_2 {b g : Int} {t : Tok} (C : C_pyear prog w K p loose mean mg mb) (B : Below A₀ base outer h₀) (F : Fr h₀ L s.heap m) (X : K.In h₀) (N : News h₀ L s.heap news) (T : Top p loose mean mg mb h₀) (hk : cs.kind = .function) (hd : dp + 6 < recursionLimit) (hu : un + 8 * 6 < cLine)
    (p1 : b = 2 * E g - 2) (p0 : g.natAbs < 103900)
    (ret : ∀ (y b : Int) (D : Addr) (t1 t2 : Tok) (c : Nat) (h' : Heap) (tk' : Nat), y = g + 1 - 621 → b = 2 * E (g + 1) - 2 → Fr h₀ L h' m → News h₀ L h' ((D, ({ cls := .type "tuple", data := .seq #[.int y t1, .float (hf b) t2] c } : Obj)) :: news) → AllLt D news → Q (.ref D) { s with heap := h', toks := tk' }) :
    wpAny (model prog w) (ktrTop dp un gd cn cs L a ccd cl outer) (call (.ref 94) [.float (Float64.add (Float64.add (hf b) TY) (Float64.ofInt 2)) t, .ref 136]) Q E' s := by
  obtain ⟨n, h1, h2, h3⟩ := guess2 (g := g) (by omega) p1
  exact use_pyear C B F X N T hk hd hu h1 h2 (by rw [show g + 1 + 1 = g + 2 by omega]; exact h3) (by omega) ret
theorem use_fromjd_g {x : UInt64} {k n g : Int} {t : Tok} (C : C_fromjd prog w K p loose mean mg mb) (B : Below A₀ base outer h₀) (F : Fr h₀ L s.heap m) (X : K.In h₀) (N : News h₀ L s.heap news) (T : Top p loose mean mg mb h₀) (hk : cs.kind = .function) (hd : dp + 4 < recursionLimit) (hu : un + 8 * 4 < cLine)
    (p1 : Fl (Float64.sub x (hf 1)) k) (p2 : k = n - 1 ∨ k = n) (p3 : E g ≤ n) (p4 : n < E (g + 1)) (p0 : g.natAbs < 104000)
    (r1 : ∀ (mo d : Int) (D : Addr) (t1 t2 t3 : Tok) (c : Nat) (h' : Heap) (tk' : Nat), J g ≤ k - 1721425 → Fr h₀ L h' m → News h₀ L h' ((D, ({ cls := .type "tuple", data := .seq #[.int g t1, .int mo t2, .int d t3] c } : Obj)) :: news) → AllLt D news → Q (.ref D) { s with heap := h', toks := tk' })
    (r2 : ∀ (mo d : Int) (D : Addr) (t1 t2 t3 : Tok) (c : Nat) (h' : Heap) (tk' : Nat), J (g + 1) ≤ k - 1721425 → Fr h₀ L h' m → News h₀ L h' ((D, ({ cls := .type "tuple", data := .seq #[.int (g + 1) t1, .int mo t2, .int d t3] c } : Obj)) :: news) → AllLt D news → Q (.ref D) { s with heap := h', toks := tk' }) :
    wpAny (model prog w) (ktrTop dp un gd cn cs L a ccd cl outer) (call (.ref 71) [.float x t]) Q E' s := by
  have gb := E_bt p0
  have gn := E_next g
  have gl := lpI_b (g + 1)
  refine use_fromjd C B F X N T hk hd hu p1 (by omega) fun y mo d D t1 t2 t3 c h' tk' hP F' N' hL => ?_
  rcases year_of p3 p4 p2 hP.1 hP.2.1 with rfl | rfl
  · exact r1 mo d D t1 t2 t3 c h' tk' hP.1 F' N' hL
  · exact r2 mo d D t1 t2 t3 c h' tk' hP.1 F' N' hL
end
end Mine
namespace Mine
open PySem PySem.W PySem.Calls PyProof.Rows

@[irreducible] def mOff (mo : Int) : Int := if mo ≤ 7 then (mo - 1) * 31 else (mo - 1) * 30 + 6

theorem pm_facts {v : Int} (h0 : 0 ≤ v) (h1 : v ≤ 365) : 1 ≤ pMo v ∧ pMo v ≤ 12 ∧ 1 ≤ pDa v ∧ pDa v ≤ 31 ∧ v = mOff (pMo v) + pDa v - 1 ∧ (v < 31 → pMo v = 1 ∧ pDa v = v + 1) ∧ (31 ≤ v → 2 ≤ pMo v) := by
  unfold mOff pMo pDa
  by_cases h : v < 186
  · rw [if_pos h, if_pos h]
    rw [if_pos (by omega)]
    omega
  · rw [if_neg h, if_neg h]
    by_cases h2 : (v - 186) / 30 + 7 ≤ 7
    · rw [if_pos h2]; omega
    · rw [if_neg h2]; omega

theorem pm_next {mo : Int} (h0 : 1 ≤ mo) (h1 : mo ≤ 11) : pMo (mOff (mo + 1)) = mo + 1 ∧ pDa (mOff (mo + 1)) = 1 := by
  have h : mo = 1 ∨ mo = 2 ∨ mo = 3 ∨ mo = 4 ∨ mo = 5 ∨ mo = 6 ∨ mo = 7 ∨ mo = 8 ∨ mo = 9 ∨ mo = 10 ∨ mo = 11 := by omega
  unfold pMo pDa mOff; rcases h with rfl | rfl | rfl | rfl | rfl | rfl | rfl | rfl | rfl | rfl | rfl <;> decide

/-- what is known of the day's Persian date -/
structure PD (n g y mo d : Int) : Prop where
  hy : y = g - 621
  m1 : 1 ≤ mo
  m2 : mo ≤ 12
  d1 : 1 ≤ d
  d2 : d ≤ 31
  e1 : E (y + 621) = E g
  e2 : E (y + 622) = E (g + 1)
  hv : n - E g = mOff mo + d - 1
  hp : pJ y mo d = 2 * n + 1
  a : n - E g < 31 → mo = 1 ∧ d = n - E g + 1
  b : 31 ≤ n - E g → 2 ≤ mo
  l1 : mo ≤ 6 → mLen y mo = 31
  l2 : 7 ≤ mo → mo ≤ 11 → mLen y mo = 30
  l3 : mo = 12 → mLen y mo = 29 + lpI (y + 622)
  d3 : d ≤ mLen y mo
  mo : mo = pMo (n - E g)
  da : d = pDa (n - E g)

theorem pd_of {n g y mo d : Int} (h1 : E g ≤ n) (h2 : n < E (g + 1)) (hy : y = g - 621) (hm : mo = pMo (n - E g)) (hd : d = pDa (n - E g)) : PD n g y mo d := by
  have gn := E_next g
  have gl := lpI_b (g + 1)
  obtain ⟨q1, q2, q3, q4, q5, q6, q7⟩ := pm_facts (v := n - E g) (by omega) (by omega)
  rw [← hm] at q1 q2 q5 q6 q7
  rw [← hd] at q3 q4 q5 q6
  have e1 : E (y + 621) = E g := congrArg E (by omega)
  have e2 : E (y + 622) = E (g + 1) := congrArg E (by omega)
  have l3 : lpI (y + 622) = lpI (g + 1) := congrArg lpI (by omega)
  have k1 : mo ≤ 6 → mLen y mo = 31 := fun h => by unfold mLen; rw [if_pos h]
  have k2 : 7 ≤ mo → mo ≤ 11 → mLen y mo = 30 := fun h h' => by unfold mLen; rw [if_neg (by omega), if_pos h']
  have k3 : mo = 12 → mLen y mo = 29 + lpI (y + 622) := fun h => by unfold mLen; rw [if_neg (by omega), if_neg (by omega)]
  have hw := q5
  refine ⟨hy, q1, q2, q3, q4, e1, e2, q5, ?_, q6, q7, k1, k2, k3, ?_, hm, hd⟩
  · unfold pJ mOff at *
    split at hw <;> omega
  · have hdm : mo ≤ 6 ∨ (7 ≤ mo ∧ mo ≤ 11) ∨ mo = 12 := by omega
    rcases hdm with h | ⟨h, h'⟩ | h
    · rw [k1 h]; exact q4
    · rw [k2 h h']
      unfold mOff at hw
      by_cases c : n - E g < 186
      · have : mo ≤ 6 := by rw [hm]; unfold pMo; rw [if_pos c]; omega
        omega
      · rw [hd]; unfold pDa; rw [if_neg c]; omega
    · rw [k3 h, l3]
      unfold mOff at hw
      rw [if_neg (by omega)] at hw
      omega

theorem pd_next {n g y mo d y' m' d' : Int} (P : PD n g y mo d) (h2 : n < E (g + 1))
    (hr : ∀ g', (mo < 12 → g' = g) → (mo = 12 → g' = g + 1) → y' = g' - 621 ∧ m' = pMo (n + mLen y mo - d + 1 - E g') ∧ d' = pDa (n + mLen y mo - d + 1 - E g')) :
    (mo < 12 → y' = y ∧ m' = mo + 1 ∧ d' = 1) ∧ (mo = 12 → y' = y + 1 ∧ m' = 1 ∧ d' = 1) := by
  have hy := P.hy
  have hv := P.hv
  constructor
  · intro h
    obtain ⟨a, b, c⟩ := hr g (fun _ => rfl) (fun q => by omega)
    have e : n + mLen y mo - d + 1 - E g = mOff (mo + 1) := by
      have hm1 := P.m1
      have hdm : mo ≤ 6 ∨ (7 ≤ mo ∧ mo ≤ 11) := by omega
      rcases hdm with q | ⟨q, q'⟩
      · have := P.l1 q; unfold mOff at *; rw [if_pos (by omega)] at hv; rw [if_pos (by omega)]; omega
      · have := P.l2 q q'
        unfold mOff at *
        rw [if_neg (show ¬ mo + 1 ≤ 7 by omega)]
        split at hv <;> omega
    rw [e] at b c
    have nx := pm_next P.m1 (by omega)
    rw [nx.1] at b
    rw [nx.2] at c
    exact ⟨by omega, b, c⟩
  · intro h
    obtain ⟨a, b, c⟩ := hr (g + 1) (fun q => by omega) (fun _ => rfl)
    have gn := E_next g
    have l3 : lpI (y + 622) = lpI (g + 1) := congrArg lpI (by omega)
    have e : n + mLen y mo - d + 1 - E (g + 1) = 0 := by
      have := P.l3 h
      unfold mOff at hv
      rw [if_neg (by omega)] at hv
      omega
    rw [e] at b c
    have z1 : pMo 0 = 1 := by unfold pMo; decide
    have z2 : pDa 0 = 1 := by unfold pDa; decide
    exact ⟨by omega, b.trans z1, c.trans z2⟩

theorem iP_iJ {g n y mo d : Int} (h1 : E g ≤ n) (h2 : n < E (g + 1)) (h : iP g (n - E g) y mo d) : iJ y mo d = 2 * n + 1 ∧ 1 ≤ mo ∧ mo ≤ 12 ∧ 1 ≤ d ∧ d ≤ 31 := by
  have gn := E_next g
  have gl := lpI_b (g + 1)
  have gm := lpI_b g
  have gj := E_J' g
  obtain ⟨a, b, c⟩ := h
  obtain ⟨q1, q2, q3, q4, q5, q6, q7⟩ := pm_facts (v := n - E g) (by omega) (by omega)
  by_cases k0 : n - E g = 0 ∧ lpI g = 0
  · obtain ⟨r1, r2, r3⟩ := a k0
    have e1 : J (y + 78) = J (g - 1) := congrArg J (by omega)
    have e2 : lpI (y + 78) = lpI (g - 1) := congrArg lpI (by omega)
    have e3 : J g = J (g - 1) + 365 + lpI (g - 1) := by have := J_next (g - 1); rwa [Int.sub_add_cancel] at this
    subst r2; subst r3
    refine ⟨?_, by decide, by decide, by decide, by decide⟩
    unfold iJ
    rw [if_neg (by decide), if_neg (by decide)]
    omega
  · by_cases k1 : n - E g < 31
    · obtain ⟨r1, r2, r3⟩ := b k1 (by omega)
      have e1 : J (y + 78) = J g := congrArg J (by omega)
      subst r2
      refine ⟨?_, by decide, by decide, by omega, by omega⟩
      unfold iJ
      rw [if_pos rfl]
      omega
    · obtain ⟨r1, r2, r3⟩ := c (by omega)
      have e1 : J (y + 78) = J g := congrArg J (by omega)
      have e2 : lpI (y + 78) = lpI g := congrArg lpI (by omega)
      rw [← r2] at q1 q2 q5 q7
      rw [← r3] at q3 q4 q5
      have := q7 (by omega)
      refine ⟨?_, q1, q2, q3, q4⟩
      unfold iJ
      rw [if_neg (by omega)]
      unfold mOff at q5
      split at q5 <;> rename_i hs
      · rw [if_pos hs]; omega
      · rw [if_neg hs]; omega

theorem mLen_b {n g y mo d : Int} (P : PD n g y mo d) : 29 ≤ mLen y mo ∧ mLen y mo ≤ 31 := by
  have hm1 := P.m1
  have hm2 := P.m2
  have gl := lpI_b (y + 622)
  have hdm : mo ≤ 6 ∨ (7 ≤ mo ∧ mo ≤ 11) ∨ mo = 12 := by omega
  rcases hdm with q | ⟨q, q'⟩ | q
  · have := P.l1 q; omega
  · have := P.l2 q q'; omega
  · have := P.l3 q; omega
theorem tup_ne {y9 m9 d9 y' m' d' : Int} (hq : (y9 == y' && (m9 == m' && d9 == d')) = false) (h : y9 = y' ∧ m9 = m' ∧ d9 = d') : False := by
  obtain ⟨rfl, rfl, rfl⟩ := h
  simp at hq
theorem tup_1 {n g y mo d y9 m9 d9 : Int} (P : PD n g y mo d) (p2 : E g ≤ n) (hI : iP g (n - E g) y9 m9 d9) (hl : lpI (y + 621) = 1) (hq : (y9 == y + 543 && (m9 == mo && d9 == d)) = false) : False := by
  have e : lpI (y + 621) = lpI g := congrArg lpI (by have := P.hy; omega)
  obtain ⟨a, b, c⟩ := hI
  have hy := P.hy
  refine tup_ne hq ?_
  by_cases h : n - E g < 31
  · have h1 := P.a h
    have h2 := b h (by omega)
    omega
  · have h2 := c (by omega)
    have h3 := P.mo
    have h4 := P.da
    rw [h3, h4]
    omega
theorem tup_4 {n g y mo d y9 m9 d9 : Int} (P : PD n g y mo d) (p2 : E g ≤ n) (hI : iP g (n - E g) y9 m9 d9) (hm : ¬ mo = 1) (hq : (y9 == y + 543 && (m9 == mo && d9 == d)) = false) : False := by
  obtain ⟨a, b, c⟩ := hI
  have hy := P.hy
  refine tup_ne hq ?_
  by_cases h : n - E g < 31
  · have h1 := P.a h
    omega
  · have h2 := c (by omega)
    have h3 := P.mo
    have h4 := P.da
    rw [h3, h4]
    omega
theorem tup_2 {n g y mo d y9 m9 d9 : Int} (P : PD n g y mo d) (p2 : E g ≤ n) (hI : iP g (n - E g) y9 m9 d9) (hm : mo = 1) (hl : lpI (y + 621) = 0) (hd : 1 < d) (hq : (y9 == y + 543 && (m9 == 1 && d9 == d - 1)) = false) : False := by
  have e : lpI (y + 621) = lpI g := congrArg lpI (by have := P.hy; omega)
  obtain ⟨a, b, c⟩ := hI
  have hy := P.hy
  refine tup_ne hq ?_
  by_cases h : n - E g < 31
  · have h1 := P.a h
    have h2 := b h (by omega)
    omega
  · have h2 := P.b (by omega)
    omega
theorem tup_3 {n g y mo d y9 m9 d9 : Int} (P : PD n g y mo d) (p2 : E g ≤ n) (hI : iP g (n - E g) y9 m9 d9) (hm : mo = 1) (hl : lpI (y + 621) = 0) (hd : ¬ 1 < d) (hq : (y9 == y + 542 && (m9 == 12 && d9 == 30)) = false) : False := by
  have e : lpI (y + 621) = lpI g := congrArg lpI (by have := P.hy; omega)
  obtain ⟨a, b, c⟩ := hI
  have hy := P.hy
  have h1 := P.d1
  refine tup_ne hq ?_
  by_cases h : n - E g < 31
  · have h1 := P.a h
    have h2 := a (by omega)
    omega
  · have h2 := P.b (by omega)
    omega
theorem end_a {y mo y' m' d' : Int} (h : mo < 12 → y' = y ∧ m' = mo + 1 ∧ d' = 1) (hm : mo < 12) : (y' == y && (m' == mo + 1 && d' == 1)) = true := by
  obtain ⟨rfl, rfl, rfl⟩ := h hm
  simp
theorem end_c {y mo y' m' d' : Int} (h : mo < 12 → y' = y ∧ m' = mo + 1 ∧ d' = 1) (hm : mo = 1) : (y' == y && (m' == mo + 1 && d' == 1)) = true := end_a h (by omega)
theorem end_b {y mo y' m' d' : Int} (h : mo = 12 → y' = y + 1 ∧ m' = 1 ∧ d' = 1) (hm : ¬ mo < 12) (h2 : mo ≤ 12) : (y' == y + 1 && (m' == 1 && d' == 1)) = true := by
  obtain ⟨rfl, rfl, rfl⟩ := h (by omega)
  simp
def l12 (z : Int) : List Int := [31, 31, 31, 31, 31, 31, 30, 30, 30, 30, 30, z]
theorem l12_at {z mo : Int} (h1 : 1 ≤ mo) (h2 : mo ≤ 12) : (mo ≤ 6 → (l12 z).getD (mo - 1).toNat 0 = 31) ∧ (7 ≤ mo → mo ≤ 11 → (l12 z).getD (mo - 1).toNat 0 = 30) ∧ (mo = 12 → (l12 z).getD (mo - 1).toNat 0 = z) := by
  have h : mo = 1 ∨ mo = 2 ∨ mo = 3 ∨ mo = 4 ∨ mo = 5 ∨ mo = 6 ∨ mo = 7 ∨ mo = 8 ∨ mo = 9 ∨ mo = 10 ∨ mo = 11 ∨ mo = 12 := by omega
  rcases h with rfl | rfl | rfl | rfl | rfl | rfl | rfl | rfl | rfl | rfl | rfl | rfl <;> refine ⟨fun q => ?_, fun q q' => ?_, fun q => ?_⟩ <;> first | rfl | omega
theorem l12_mLen {n g y mo d z : Int} (P : PD n g y mo d) (hz : lpI (y + 622) + 29 = z) : (l12 z).getD (mo - 1).toNat 0 = mLen y mo := by
  obtain ⟨a, b, c⟩ := l12_at (z := z) P.m1 P.m2
  have hm1 := P.m1
  have hm2 := P.m2
  have hdm : mo ≤ 6 ∨ (7 ≤ mo ∧ mo ≤ 11) ∨ mo = 12 := by omega
  rcases hdm with q | ⟨q, q'⟩ | q
  · rw [a q, P.l1 q]
  · rw [b q q', P.l2 q q']
  · rw [c q, P.l3 q]; omega

section
variable {prog : Program} {w : World} {A : Around} {E' : Value → Shared → Prop} {s : Shared} {Q : Value → Shared → Prop}
theorem r_ne_bb {b : Bool} (h : Q (.bool false) s) : wpAny (model prog w) A (compareOp .NotEq (.bool b) (.bool b)) Q E' s := ne_bool (by rw [show (b != b) = false by cases b <;> rfl]; exact h)
end

section
variable {prog : Program} {w : World} {K : Frag} {p : Program} {loose : List Str} {mean : ExcName → Option Value} {mg mb : Str → Option Value}
variable {dp un : Nat} {gd : Option (List Code)} {cn : Str} {cs : Scope} {a : Addr} {ccd : Value} {cl : List (Str × Addr)} {outer : List Env} {A₀ : Around} {base h₀ : Heap} {L : Addr} {m : Str → Option Value} {news : List (Addr × Obj)} {s : Shared} {Q E' : Value → Shared → Prop}
theorem use_fromjdP_1 {n pt g : Int} {t : Tok} (C : C_fromjdP prog w K p loose mean mg mb) (B : Below A₀ base outer h₀) (F : Fr h₀ L s.heap m) (X : K.In h₀) (N : News h₀ L s.heap news) (T : Top p loose mean mg mb h₀) (hk : cs.kind = .function) (hd : dp + 6 < recursionLimit) (hu : un + 8 * 6 < cLine)
    (q1 : 0 ≤ pt) (q2 : pt < 512) (p2 : E g ≤ n) (p3 : n < E (g + 1)) (p0 : g.natAbs < 104000)
    (ret : ∀ (y mo d : Int) (D : Addr) (t1 t2 t3 : Tok) (c : Nat) (h' : Heap) (tk' : Nat), PD n g y mo d → Fr h₀ L h' m → News h₀ L h' ((D, ({ cls := .type "tuple", data := .seq #[.int y t1, .int mo t2, .int d t3] c } : Obj)) :: news) → AllLt D news → Q (.ref D) { s with heap := h', toks := tk' }) :
    wpAny (model prog w) (ktrTop dp un gd cn cs L a ccd cl outer) (call (.ref 108) [.float (Float64.add (hf (2 * n + 1)) (qi pt 1024)) t, .ref 136]) Q E' s := by
  have gb := E_bt p0
  have gn := E_next g
  have gl := lpI_b (g + 1)
  exact use_fromjdP C B F X N T hk hd hu (Fl_part (by omega) q1 q2) p2 p3 p0 fun y mo d D t1 t2 t3 c h' tk' hP F' N' hL => ret y mo d D t1 t2 t3 c h' tk' (pd_of p2 p3 hP.1 hP.2.1 hP.2.2) F' N' hL
theorem use_fromjdP_n {n g y mo d c : Int} {t : Tok} (C : C_fromjdP prog w K p loose mean mg mb) (B : Below A₀ base outer h₀) (F : Fr h₀ L s.heap m) (X : K.In h₀) (N : News h₀ L s.heap news) (T : Top p loose mean mg mb h₀) (hk : cs.kind = .function) (hd : dp + 6 < recursionLimit) (hu : un + 8 * 6 < cLine)
    (P : PD n g y mo d) (p2 : E g ≤ n) (p3 : n < E (g + 1)) (p0 : g.natAbs < 103900) (hc : c = 2 * (n + mLen y mo - d + 1) + 1)
    (ret : ∀ (y' m' d' : Int) (D : Addr) (t1 t2 t3 : Tok) (c : Nat) (h' : Heap) (tk' : Nat), (mo < 12 → y' = y ∧ m' = mo + 1 ∧ d' = 1) → (mo = 12 → y' = y + 1 ∧ m' = 1 ∧ d' = 1) → Fr h₀ L h' m → News h₀ L h' ((D, ({ cls := .type "tuple", data := .seq #[.int y' t1, .int m' t2, .int d' t3] c } : Obj)) :: news) → AllLt D news → Q (.ref D) { s with heap := h', toks := tk' }) :
    wpAny (model prog w) (ktrTop dp un gd cn cs L a ccd cl outer) (call (.ref 108) [.float (hf c) t, .ref 136]) Q E' s := by
  have gb := E_bt (g := g) (by omega)
  have gn := E_next g
  have gn2 := E_next (g + 1)
  have gl := lpI_b (g + 1)
  have gl2 := lpI_b (g + 1 + 1)
  have hv := P.hv
  have l3' : lpI (y + 622) = lpI (g + 1) := congrArg lpI (by have := P.hy; omega)
  have hm1 := P.m1
  have hm2 := P.m2
  have hd3 := P.d3
  have hd1 := P.d1
  have hdm : mo ≤ 6 ∨ (7 ≤ mo ∧ mo ≤ 11) ∨ mo = 12 := by omega
  have hL : (mo < 12 → n + mLen y mo - d + 1 < E (g + 1)) ∧ (mo = 12 → n + mLen y mo - d + 1 = E (g + 1)) := by
    rcases hdm with q | ⟨q, q'⟩ | q
    · have := P.l1 q; unfold mOff at hv; rw [if_pos (by omega)] at hv; exact ⟨fun _ => by omega, fun _ => by omega⟩
    · have := P.l2 q q'; unfold mOff at hv; split at hv <;> exact ⟨fun _ => by omega, fun _ => by omega⟩
    · have := P.l3 q; unfold mOff at hv; rw [if_neg (by omega)] at hv; exact ⟨fun _ => by omega, fun _ => by omega⟩
  have hmb : mLen y mo ≤ 31 := by
    rcases hdm with q | ⟨q, q'⟩ | q
    · have := P.l1 q; omega
    · have := P.l2 q q'; omega
    · have := P.l3 q; omega
  by_cases h12 : mo < 12
  · refine use_fromjdP C B F X N T hk hd hu (Fl_hfo' hc (by omega)) (g := g) (by omega) (hL.1 h12) (by omega) fun y' m' d' D t1 t2 t3 c h' tk' hP F' N' hL' => ?_
    have := pd_next P p3 (y' := y') (m' := m') (d' := d') fun g' e1 _ => by
      have e := e1 h12
      subst e
      exact hP
    exact ret y' m' d' D t1 t2 t3 c h' tk' this.1 this.2 F' N' hL'
  · have h12' : mo = 12 := by omega
    refine use_fromjdP C B F X N T hk hd hu (Fl_hfo' hc (by omega)) (g := g + 1) (by have := hL.2 h12'; omega) (by have := hL.2 h12'; omega) (by omega) fun y' m' d' D t1 t2 t3 c h' tk' hP F' N' hL' => ?_
    have := pd_next P p3 (y' := y') (m' := m') (d' := d') fun g' _ e2 => by
      have e := e2 h12'
      subst e
      exact hP
    exact ret y' m' d' D t1 t2 t3 c h' tk' this.1 this.2 F' N' hL'
theorem use_tojdI_1 {g n y y9 mo m9 d d9 : Int} {t1 t2 t3 : Tok} (C : C_tojdI prog w K p loose mean mg mb) (B : Below A₀ base outer h₀) (F : Fr h₀ L s.heap m) (X : K.In h₀) (N : News h₀ L s.heap news) (T : Top p loose mean mg mb h₀) (hk : cs.kind = .function) (hd : dp + 4 < recursionLimit) (hu : un + 8 * 4 < cLine)
    (hI : iP g (n - E g) y9 m9 d9) (hq : (y9 == y && (m9 == mo && d9 == d)) = true) (p2 : E g ≤ n) (p3 : n < E (g + 1)) (p0 : y.natAbs < 105000)
    (ret : ∀ (c : Int) (t : Tok) (h' : Heap) (tk' : Nat), c = 2 * n + 1 → Fr h₀ L h' m → News h₀ L h' news → Q (.float (hf c) t) { s with heap := h', toks := tk' }) :
    wpAny (model prog w) (ktrTop dp un gd cn cs L a ccd cl outer) (call (.ref 122) [.int y t1, .int mo t2, .int d t3]) Q E' s := by
  simp only [Bool.and_eq_true, beq_iff_eq] at hq
  obtain ⟨rfl, rfl, rfl⟩ := hq
  obtain ⟨e, i1, i2, i3, i4⟩ := iP_iJ p2 p3 hI
  exact use_tojdI C B F X N T hk hd hu p0 i1 i2 i3 i4 fun c t h' tk' hc F' N' => ret c t h' tk' (hc.trans e) F' N'
theorem use_mlen_t {n g y mo d : Int} {t1 t2 : Tok} (C : C_mlen prog w K p loose mean mg mb) (B : Below A₀ base outer h₀) (F : Fr h₀ L s.heap m) (X : K.In h₀) (N : News h₀ L s.heap news) (T : Top p loose mean mg mb h₀) (hk : cs.kind = .function) (hd : dp + 9 < recursionLimit) (hu : un + 8 * 9 < cLine)
    (P : PD n g y mo d) (hl : lpI (y + 622) = 1) (p0 : y.natAbs < 102900)
    (ret : ∀ (c : Int) (t : Tok) (h' : Heap) (tk' : Nat), c = mLen y mo → 29 ≤ c → c ≤ 31 → ([31, 31, 31, 31, 31, 31, 30, 30, 30, 30, 30, 30] : List Int).getD (mo - 1).toNat 0 = c → Fr h₀ L h' m → News h₀ L h' news → Q (.int c t) { s with heap := h', toks := tk' }) :
    wpAny (model prog w) (ktrTop dp un gd cn cs L a ccd cl outer) (call (.ref 115) [.int y t1, .int mo t2, .ref 136]) Q E' s :=
  use_mlen C B F X N T hk hd hu p0 P.m1 P.m2 fun c t h' tk' hc F' N' => ret c t h' tk' hc (hc ▸ (mLen_b P).1) (hc ▸ (mLen_b P).2) ((l12_mLen P (by omega)).trans hc.symm) F' N'
theorem use_mlen_f {n g y mo d : Int} {t1 t2 : Tok} (C : C_mlen prog w K p loose mean mg mb) (B : Below A₀ base outer h₀) (F : Fr h₀ L s.heap m) (X : K.In h₀) (N : News h₀ L s.heap news) (T : Top p loose mean mg mb h₀) (hk : cs.kind = .function) (hd : dp + 9 < recursionLimit) (hu : un + 8 * 9 < cLine)
    (P : PD n g y mo d) (hl : lpI (y + 622) = 0) (p0 : y.natAbs < 102900)
    (ret : ∀ (c : Int) (t : Tok) (h' : Heap) (tk' : Nat), c = mLen y mo → 29 ≤ c → c ≤ 31 → ([31, 31, 31, 31, 31, 31, 30, 30, 30, 30, 30, 29] : List Int).getD (mo - 1).toNat 0 = c → Fr h₀ L h' m → News h₀ L h' news → Q (.int c t) { s with heap := h', toks := tk' }) :
    wpAny (model prog w) (ktrTop dp un gd cn cs L a ccd cl outer) (call (.ref 115) [.int y t1, .int mo t2, .ref 136]) Q E' s :=
  use_mlen C B F X N T hk hd hu p0 P.m1 P.m2 fun c t h' tk' hc F' N' => ret c t h' tk' hc (hc ▸ (mLen_b P).1) (hc ▸ (mLen_b P).2) ((l12_mLen P (by omega)).trans hc.symm) F' N'
theorem use_leap_s {y : Int} {t : Tok} (C : C_leap prog w K p loose mean mg mb) (B : Below A₀ base outer h₀) (F : Fr h₀ L s.heap m) (X : K.In h₀) (N : News h₀ L s.heap news) (T : Top p loose mean mg mb h₀) (hk : cs.kind = .function) (hd : dp + 8 < recursionLimit) (hu : un + 8 * 8 < cLine) (p0 : y.natAbs < 102900)
    (rt : ∀ (h' : Heap) (tk' : Nat), lp (y + 622) = true → lpI (y + 622) = 1 → Fr h₀ L h' m → News h₀ L h' news → Q (.bool true) { s with heap := h', toks := tk' })
    (rf : ∀ (h' : Heap) (tk' : Nat), lp (y + 622) = false → lpI (y + 622) = 0 → Fr h₀ L h' m → News h₀ L h' news → Q (.bool false) { s with heap := h', toks := tk' }) :
    wpAny (model prog w) (ktrTop dp un gd cn cs L a ccd cl outer) (call (.ref 80) [.int y t, .ref 136]) Q E' s := by
  refine use_leap C B F X N T hk hd hu p0 fun h' tk' F' N' => ?_
  cases e : lp (y + 622)
  · exact rf h' tk' e (lpI_f e) F' N'
  · exact rt h' tk' e (lpI_t e) F' N'
theorem use_long_k {y : Int} {t : Tok} {b : Bool} (C : C_long prog w K p loose mean mg mb) (B : Below A₀ base outer h₀) (F : Fr h₀ L s.heap m) (X : K.In h₀) (N : News h₀ L s.heap news) (T : Top p loose mean mg mb h₀) (hk : cs.kind = .function) (hd : dp + 1 < recursionLimit) (hu : un + 8 * 1 < cLine)
    (he : lp y = b) (ret : ∀ (h' : Heap) (tk' : Nat), Fr h₀ L h' m → News h₀ L h' news → Q (.bool b) { s with heap := h', toks := tk' }) :
    wpAny (model prog w) (ktrTop dp un gd cn cs L a ccd cl outer) (call (.ref 143) [.int y t]) Q E' s :=
  use_long C B F X N T hk hd hu fun h' tk' F' N' => by rw [he]; exact ret h' tk' F' N'
theorem use_long_s {y : Int} {t : Tok} (C : C_long prog w K p loose mean mg mb) (B : Below A₀ base outer h₀) (F : Fr h₀ L s.heap m) (X : K.In h₀) (N : News h₀ L s.heap news) (T : Top p loose mean mg mb h₀) (hk : cs.kind = .function) (hd : dp + 1 < recursionLimit) (hu : un + 8 * 1 < cLine)
    (rt : ∀ (h' : Heap) (tk' : Nat), lp y = true → lpI y = 1 → Fr h₀ L h' m → News h₀ L h' news → Q (.bool true) { s with heap := h', toks := tk' })
    (rf : ∀ (h' : Heap) (tk' : Nat), lp y = false → lpI y = 0 → Fr h₀ L h' m → News h₀ L h' news → Q (.bool false) { s with heap := h', toks := tk' }) :
    wpAny (model prog w) (ktrTop dp un gd cn cs L a ccd cl outer) (call (.ref 143) [.int y t]) Q E' s := by
  refine use_long C B F X N T hk hd hu fun h' tk' F' N' => ?_
  cases e : lp y
  · exact rf h' tk' e (lpI_f e) F' N'
  · exact rt h' tk' e (lpI_t e) F' N'
end
end Mine
namespace Mine
open PySem PySem.W PySem.Calls PyProof.Rows
section
local macro_rules | `(tactic| walk_at "binaryOp Add float float") => `(tactic| (k_here; refine' r_add_ff ?ex ?ey ?ha ?hb ?_; (case ex => first | with_reducible exact rfl | with_reducible exact lit_epg | with_reducible exact lit_epp | with_reducible exact lit_half); (case ey => first | with_reducible exact rfl | with_reducible exact lit_epg | with_reducible exact lit_epp | with_reducible exact lit_half); (case ha => omega); (case hb => omega); intro c hc))
local macro_rules | `(tactic| walk_at "binaryOp Sub float float") => `(tactic| (k_here; first
  | (refine' r_sub_ff ?ex ?ey ?ha ?hb ?_; (case ex => first | with_reducible exact rfl | with_reducible exact lit_epg | with_reducible exact lit_epp | with_reducible exact lit_half); (case ey => first | with_reducible exact rfl | with_reducible exact lit_epg | with_reducible exact lit_epp | with_reducible exact lit_half); (case ha => omega); (case hb => omega); intro c hc)
  | (refine' r_sub_xf ?ey ?_; (case ey => first | with_reducible exact rfl | with_reducible exact lit_half); (try dsimp only))))
local macro_rules | `(tactic| walk_at "binaryOp Add float int") => `(tactic| (k_here; first
  | (refine' r_add_fi ?ex ?ha ?hn ?_; (case ex => first | with_reducible exact rfl | with_reducible exact lit_epg | with_reducible exact lit_epp); (case ha => omega); (case hn => omega); intro c hc)
  | (refine' r_add_xi ?hn ?_; (case hn => omega); (try dsimp only))))
local macro_rules | `(tactic| walk_at "binaryOp Add int float") => `(tactic| (k_here; refine' r_add_if ?ex ?ha ?hn ?_; (case ex => first | with_reducible exact rfl | with_reducible exact lit_half); (case ha => omega); (case hn => omega); intro c hc))
local macro_rules | `(tactic| walk_at "binaryOp Sub float int") => `(tactic| (k_here; refine' r_sub_fi ?ex ?ha ?hn ?_; (case ex => first | with_reducible exact rfl | with_reducible exact lit_epg | with_reducible exact lit_epp); (case ha => omega); (case hn => omega); intro c hc))
local macro_rules | `(tactic| walk_at "inplaceOp Add float int") => `(tactic| (k_here; refine' r_iadd_fi ?ex ?ha ?hn ?_; (case ex => with_reducible exact rfl); (case ha => omega); (case hn => omega); intro c hc))
local macro_rules | `(tactic| walk_at "inplaceOp Sub float int") => `(tactic| (k_here; refine' r_isub_fi ?ex ?ha ?hn ?_; (case ex => with_reducible exact rfl); (case ha => omega); (case hn => omega); intro c hc))
local macro_rules | `(tactic| walk_at "binaryOp Mult float int") => `(tactic| (k_here; first
  | (refine' r_mul_fi ?ex ?ha ?hd0 ?hd ?_; (case ex => with_reducible exact rfl); (case ha => omega); (case hd0 => omega); (case hd => omega); intro c hc)
  | (refine' r_mul_xi ?hn ?_; (case hn => omega); (try dsimp only))))
local macro_rules | `(tactic| walk_at "binaryOp Div float int") => `(tactic| (k_here; refine' r_div_fi ?ex ?hd0 ?hd ?_; (case ex => with_reducible exact rfl); (case hd0 => omega); (case hd => omega); (try dsimp only)))
local macro_rules | `(tactic| walk_at "binaryOp Div float float") => `(tactic| (k_here; refine' r_div_ty ?ex ?_; (case ex => with_reducible exact rfl); (try dsimp only)))
local macro_rules | `(tactic| walk_at "binaryOp Div int int") => `(tactic| (k_here; refine' r_div_ii ?hd0 ?hn ?_; (case hd0 => omega); (case hn => omega); (try dsimp only)))
local macro_rules | `(tactic| walk_at "binaryOp Mod float int") => `(tactic| (k_here; refine' r_mod_fi ?ex ?ha ?hd0 ?hd ?_; (case ex => with_reducible exact rfl); (case ha => omega); (case hd0 => omega); (case hd => omega); intro c hc))
local macro_rules | `(tactic| walk_at "binaryOp FloorDiv float int") => `(tactic| (k_here; refine' r_fdiv_fi ?ex ?ha ?ho ?hd ?_; (case ex => with_reducible exact rfl); (case ha => omega); (case ho => omega); (case hd => exact rfl); intro c hc))
local macro_rules | `(tactic| walk_at "compareOp Lt float int") => `(tactic| (k_here; refine' r_lt_fi ?ex ?ha ?hv ?_; (case ex => with_reducible exact rfl); (case ha => omega); (case hv => first | exact decide_eq_true (by omega) | exact decide_eq_false (by omega) | exact rfl); (try dsimp only)))
local macro_rules | `(tactic| walk_at "compareOp LtE float int") => `(tactic| (k_here; refine' r_le_fi ?ex ?ha ?hv ?_; (case ex => with_reducible exact rfl); (case ha => omega); (case hv => first | exact decide_eq_true (by omega) | exact decide_eq_false (by omega) | exact rfl); (try dsimp only)))
local macro_rules | `(tactic| walk_at "compareOp Gt float int") => `(tactic| (k_here; refine' r_gt_fi ?ex ?ha ?hv ?_; (case ex => with_reducible exact rfl); (case ha => omega); (case hv => first | exact decide_eq_true (by omega) | exact decide_eq_false (by omega) | exact rfl); (try dsimp only)))
local macro_rules | `(tactic| walk_at "compareOp Lt float float") => `(tactic| (k_here; first
  | (refine' r_lt_ff ?ex ?ey ?ha ?hb ?hv ?_; (case ex => with_reducible exact rfl); (case ey => with_reducible exact rfl); (case ha => omega); (case hb => omega); (case hv => first | exact decide_eq_true (by omega) | exact decide_eq_false (by omega) | exact rfl); (try dsimp only))
  | (refine' r_lt_xe ?hx ?ey ?ha ?he ?hv ?_; (case hx => with_reducible assumption); (case ey => with_reducible exact rfl); (case ha => omega); (case he => omega); (case hv => first | exact decide_eq_true (by omega) | exact decide_eq_false (by omega) | exact rfl); (try dsimp only))))
local macro_rules | `(tactic| walk_at "compareOp LtE float float") => `(tactic| (k_here; first
  | (refine' r_le_ff ?ex ?ey ?ha ?hb ?hv ?_; (case ex => with_reducible exact rfl); (case ey => with_reducible exact rfl); (case ha => omega); (case hb => omega); (case hv => first | exact decide_eq_true (by omega) | exact decide_eq_false (by omega) | exact rfl); (try dsimp only))
  | (refine' r_le_ex ?ex ?hy ?ha ?he ?hv ?_; (case ex => with_reducible exact rfl); (case hy => with_reducible assumption); (case ha => omega); (case he => omega); (case hv => first | exact decide_eq_true (by omega) | exact decide_eq_false (by omega) | exact rfl); (try dsimp only))))
local macro_rules | `(tactic| walk_at "compareOp Gt float float") => `(tactic| (k_here; refine' r_gt_ex ?ex ?hy ?ha ?he ?hv ?_; (case ex => with_reducible exact rfl); (case hy => with_reducible assumption); (case ha => omega); (case he => omega); (case hv => first | exact decide_eq_true (by omega) | exact decide_eq_false (by omega) | exact rfl); (try dsimp only)))
local macro_rules | `(tactic| walk_at "compareOp NotEq float float") => `(tactic| (k_here; refine' r_ne_ff ?ex ?ey ?ha ?hb ?hv ?_; (case ex => with_reducible exact rfl); (case ey => with_reducible exact rfl); (case ha => omega); (case hb => omega); (case hv => first | exact decide_eq_true (by omega) | exact decide_eq_false (by omega) | exact rfl); (try dsimp only)))
local macro_rules | `(tactic| walk_at "call builtin:math.floor") => `(tactic| (k_here; first
  | (with_reducible refine' r_floor_div ?ha ?hd0 ?hd ?_; (case ha => omega); (case hd0 => omega); (case hd => omega); intro c hc)
  | (with_reducible refine' r_floor_qi ?ha ?hd0 ?hd ?_; (case ha => omega); (case hd0 => omega); (case hd => omega); intro c hc)
  | (with_reducible refine' r_floor_sum ?ha ?hi ?hj ?_; (case ha => omega); (case hi => omega); (case hj => omega); intro c hc)
  | (with_reducible refine' r_floor ?hx ?_; (case hx => with_reducible assumption); (try dsimp only))))
local macro_rules | `(tactic| walk_at "call builtin:math.ceil") => `(tactic| (k_here; with_reducible refine' r_ceil_div ?ha ?hd0 ?hd ?_; (case ha => omega); (case hd0 => omega); (case hd => omega); intro c hc))
local macro_rules | `(tactic| walk_at "call builtin:round") => `(tactic| (k_here; with_reducible refine' r_round ?hx ?_; (case hx => first | with_reducible assumption | exact Rd_ty' (by with_reducible assumption) (by with_reducible assumption) (by omega)); (try dsimp only)))
local macro_rules | `(tactic| walk_at "call type:int") => `(tactic| (k_here; refine' r_int ?ex ?ha ?he ?_; (case ex => with_reducible exact rfl); (case ha => omega); (case he => omega); intro c hc))
local macro_rules | `(tactic| walk_at "binaryOp Mod int int") => `(tactic| (k_here; refine' r_mod_ii ?hd0 ?_; (case hd0 => omega); (try dsimp only)))
local macro_rules | `(tactic| walk_at "compareOp In int ref") => `(tactic| (k_here; k_dflt (refine' r_in_tup ?F ?X ?hl ?hi ?hp ?_; (case F => k_asm); (case X => k_asm); (case hl => k_is); (case hi => first | exact ia_a | exact ia_b | exact ia_c); (case hp => first | exact any_a | exact any_b | exact any_c); (try dsimp only))))
local macro_rules | `(tactic| walk_at "compareOp Lt int int") => `(tactic| (k_here; refine' r_lt_ii ?hv ?_; (case hv => first | exact decide_eq_true (by omega) | exact decide_eq_false (by omega) | exact rfl); (try dsimp only)))
local macro_rules | `(tactic| walk_at "compareOp LtE int int") => `(tactic| (k_here; refine' r_le_ii ?hv ?_; (case hv => first | exact decide_eq_true (by omega) | exact decide_eq_false (by omega) | exact rfl); (try dsimp only)))
local macro_rules | `(tactic| walk_at "compareOp Gt int int") => `(tactic| (k_here; refine' r_gt_ii ?hv ?_; (case hv => first | exact decide_eq_true (by omega) | exact decide_eq_false (by omega) | exact rfl); (try dsimp only)))
local macro_rules | `(tactic| walk_at "compareOp GtE int int") => `(tactic| (k_here; refine' r_ge_ii ?hv ?_; (case hv => first | exact decide_eq_true (by omega) | exact decide_eq_false (by omega) | exact rfl); (try dsimp only)))
local macro_rules | `(tactic| walk_at "compareOp Eq int int") => `(tactic| (k_here; refine' r_eq_ii ?hv ?_; (case hv => first | exact decide_eq_true (by omega) | exact decide_eq_false (by omega) | exact rfl); (try dsimp only)))
local macro_rules | `(tactic| walk_at "compareOp NotEq int int") => `(tactic| (k_here; refine' r_ne_ii ?hv ?_; (case hv => first | exact decide_eq_true (by omega) | exact decide_eq_false (by omega) | exact rfl); (try dsimp only)))
local macro_rules | `(tactic| walk_at "binaryOp Add int bool") => `(tactic| (k_here; first | (with_reducible refine' r_add_it ?_; intro c hc) | (with_reducible refine' r_add_if' ?_; intro c hc)))
local macro_rules | `(tactic| walk_at "binaryOp Sub int bool") => `(tactic| (k_here; first | (with_reducible refine' r_sub_it ?_; intro c hc) | (with_reducible refine' r_sub_if' ?_; intro c hc)))
local macro_rules | `(tactic| walk_at "ite") => `(tactic| (k_here; first | with_reducible refine ite_tt ?_ | with_reducible refine ite_ff ?_))
local macro_rules | `(tactic| walk_at "call ref") => `(tactic| (k_here; k_dflt (refine' use_isleap ?kC ?k1 ?k2 ?k3 ?k4 ?k5 ?k6 ?k7 ?k8  ?_; (case kC => with_reducible assumption); (case k1 => k_asm); (case k2 => k_asm); (case k3 => k_asm); (case k4 => k_asm); (case k5 => k_asm); (case k6 => first | exact rfl | with_reducible assumption); (case k7 => ktr_room); (case k8 => ktr_units); k_whole; intro h9 tk9 F9 N9; (try dsimp only); (try k_fold))))
local macro_rules | `(tactic| walk_at "call ref") => `(tactic| (k_here; k_dflt (refine' use_legal ?kC ?k1 ?k2 ?k3 ?k4 ?k5 ?k6 ?k7 ?k8 ?p1 ?p2 ?p3 ?p4 ?_; (case kC => with_reducible assumption); (case k1 => k_asm); (case k2 => k_asm); (case k3 => k_asm); (case k4 => k_asm); (case k5 => k_asm); (case k6 => first | exact rfl | with_reducible assumption); (case k7 => ktr_room); (case k8 => ktr_units); (case p1 => omega); (case p2 => omega); (case p3 => omega); (case p4 => omega); k_whole; intro h9 tk9 F9 N9; (try dsimp only); (try k_fold))))
set_option maxHeartbeats 4000000 in
theorem isleap_ok {prog : Program} {w : World} {p : Program} {loose : List Str} {mean : ExcName → Option Value} {mg mb : Str → Option Value} : C_isleap prog w (hd.heap_39 w.params) p loose mean mg mb := by
  have hmk : Mark PySem.Challenge.rw_ad5024_01 hd.heap_39 := by (k_fill; exact trivial)
  unfold C_isleap Gives0
  intro y t dp un gd cn cs a ccd cl outer A₀ base h₀ L m news s Q E B F X N T hk hd' hu hret
  refine wpAny_call ?_
  k_dflt cell_enter
  k_steps
  all_goals (refine ret_bool (Q := Q) hret ?_ ?_ (fun _ h => h) ?_; (· k_asm); (· k_asm))
  all_goals (unfold lp; simp_all [beq_dec])
set_option maxHeartbeats 4000000 in
theorem legal_ok {prog : Program} {w : World} {p : Program} {loose : List Str} {mean : ExcName → Option Value} {mg mb : Str → Option Value} (C1 : C_isleap prog w (hd.heap_39 w.params) p loose mean mg mb) : C_legal prog w (hd.heap_39 w.params) p loose mean mg mb := by
  have hmk : Mark PySem.Challenge.rw_ad5024_01 hd.heap_39 := by (k_fill; exact trivial)
  unfold C_legal Gives0
  intro y mo d t1 t2 t3 p1 p2 p3 p4 dp un gd cn cs a ccd cl outer A₀ base h₀ L m news s Q E B F X N T hk hd' hu hret
  refine wpAny_call ?_
  k_dflt cell_enter
  k_steps
  all_goals first
    | (refine ret_bool (Q := Q) hret ?_ ?_ (fun _ h => h) ?_; (· k_asm); (· k_asm); exact rfl)
    | (exfalso; trace_state; omega)
end
section
local macro_rules | `(tactic| walk_at "zz1") => `(tactic| skip)
local macro_rules | `(tactic| walk_at "binaryOp Add float float") => `(tactic| (k_here; refine' r_add_ff ?ex ?ey ?ha ?hb ?_; (case ex => first | with_reducible exact rfl | with_reducible exact lit_epg | with_reducible exact lit_epp | with_reducible exact lit_half); (case ey => first | with_reducible exact rfl | with_reducible exact lit_epg | with_reducible exact lit_epp | with_reducible exact lit_half); (case ha => omega); (case hb => omega); intro c hc))
local macro_rules | `(tactic| walk_at "binaryOp Sub float float") => `(tactic| (k_here; first
  | (refine' r_sub_ff ?ex ?ey ?ha ?hb ?_; (case ex => first | with_reducible exact rfl | with_reducible exact lit_epg | with_reducible exact lit_epp | with_reducible exact lit_half); (case ey => first | with_reducible exact rfl | with_reducible exact lit_epg | with_reducible exact lit_epp | with_reducible exact lit_half); (case ha => omega); (case hb => omega); intro c hc)
  | (refine' r_sub_xf ?ey ?_; (case ey => first | with_reducible exact rfl | with_reducible exact lit_half); (try dsimp only))))
local macro_rules | `(tactic| walk_at "binaryOp Add float int") => `(tactic| (k_here; first
  | (refine' r_add_fi ?ex ?ha ?hn ?_; (case ex => first | with_reducible exact rfl | with_reducible exact lit_epg | with_reducible exact lit_epp); (case ha => omega); (case hn => omega); intro c hc)
  | (refine' r_add_xi ?hn ?_; (case hn => omega); (try dsimp only))))
local macro_rules | `(tactic| walk_at "binaryOp Add int float") => `(tactic| (k_here; refine' r_add_if ?ex ?ha ?hn ?_; (case ex => first | with_reducible exact rfl | with_reducible exact lit_half); (case ha => omega); (case hn => omega); intro c hc))
local macro_rules | `(tactic| walk_at "binaryOp Sub float int") => `(tactic| (k_here; refine' r_sub_fi ?ex ?ha ?hn ?_; (case ex => first | with_reducible exact rfl | with_reducible exact lit_epg | with_reducible exact lit_epp); (case ha => omega); (case hn => omega); intro c hc))
local macro_rules | `(tactic| walk_at "inplaceOp Add float int") => `(tactic| (k_here; refine' r_iadd_fi ?ex ?ha ?hn ?_; (case ex => with_reducible exact rfl); (case ha => omega); (case hn => omega); intro c hc))
local macro_rules | `(tactic| walk_at "inplaceOp Sub float int") => `(tactic| (k_here; refine' r_isub_fi ?ex ?ha ?hn ?_; (case ex => with_reducible exact rfl); (case ha => omega); (case hn => omega); intro c hc))
local macro_rules | `(tactic| walk_at "binaryOp Mult float int") => `(tactic| (k_here; first
  | (refine' r_mul_fi ?ex ?ha ?hd0 ?hd ?_; (case ex => with_reducible exact rfl); (case ha => omega); (case hd0 => omega); (case hd => omega); intro c hc)
  | (refine' r_mul_xi ?hn ?_; (case hn => omega); (try dsimp only))))
local macro_rules | `(tactic| walk_at "binaryOp Div float int") => `(tactic| (k_here; refine' r_div_fi ?ex ?hd0 ?hd ?_; (case ex => with_reducible exact rfl); (case hd0 => omega); (case hd => omega); (try dsimp only)))
local macro_rules | `(tactic| walk_at "binaryOp Div float float") => `(tactic| (k_here; refine' r_div_ty ?ex ?_; (case ex => with_reducible exact rfl); (try dsimp only)))
local macro_rules | `(tactic| walk_at "binaryOp Div int int") => `(tactic| (k_here; refine' r_div_ii ?hd0 ?hn ?_; (case hd0 => omega); (case hn => omega); (try dsimp only)))
local macro_rules | `(tactic| walk_at "binaryOp Mod float int") => `(tactic| (k_here; refine' r_mod_fi ?ex ?ha ?hd0 ?hd ?_; (case ex => with_reducible exact rfl); (case ha => omega); (case hd0 => omega); (case hd => omega); intro c hc))
local macro_rules | `(tactic| walk_at "binaryOp FloorDiv float int") => `(tactic| (k_here; refine' r_fdiv_fi ?ex ?ha ?ho ?hd ?_; (case ex => with_reducible exact rfl); (case ha => omega); (case ho => omega); (case hd => exact rfl); intro c hc))
local macro_rules | `(tactic| walk_at "compareOp Lt float int") => `(tactic| (k_here; refine' r_lt_fi ?ex ?ha ?hv ?_; (case ex => with_reducible exact rfl); (case ha => omega); (case hv => first | exact decide_eq_true (by omega) | exact decide_eq_false (by omega) | exact rfl); (try dsimp only)))
local macro_rules | `(tactic| walk_at "compareOp LtE float int") => `(tactic| (k_here; refine' r_le_fi ?ex ?ha ?hv ?_; (case ex => with_reducible exact rfl); (case ha => omega); (case hv => first | exact decide_eq_true (by omega) | exact decide_eq_false (by omega) | exact rfl); (try dsimp only)))
local macro_rules | `(tactic| walk_at "compareOp Gt float int") => `(tactic| (k_here; refine' r_gt_fi ?ex ?ha ?hv ?_; (case ex => with_reducible exact rfl); (case ha => omega); (case hv => first | exact decide_eq_true (by omega) | exact decide_eq_false (by omega) | exact rfl); (try dsimp only)))
local macro_rules | `(tactic| walk_at "compareOp Lt float float") => `(tactic| (k_here; first
  | (refine' r_lt_ff ?ex ?ey ?ha ?hb ?hv ?_; (case ex => with_reducible exact rfl); (case ey => with_reducible exact rfl); (case ha => omega); (case hb => omega); (case hv => first | exact decide_eq_true (by omega) | exact decide_eq_false (by omega) | exact rfl); (try dsimp only))
  | (refine' r_lt_xe ?hx ?ey ?ha ?he ?hv ?_; (case hx => with_reducible assumption); (case ey => with_reducible exact rfl); (case ha => omega); (case he => omega); (case hv => first | exact decide_eq_true (by omega) | exact decide_eq_false (by omega) | exact rfl); (try dsimp only))))
local macro_rules | `(tactic| walk_at "compareOp LtE float float") => `(tactic| (k_here; first
  | (refine' r_le_ff ?ex ?ey ?ha ?hb ?hv ?_; (case ex => with_reducible exact rfl); (case ey => with_reducible exact rfl); (case ha => omega); (case hb => omega); (case hv => first | exact decide_eq_true (by omega) | exact decide_eq_false (by omega) | exact rfl); (try dsimp only))
  | (refine' r_le_ex ?ex ?hy ?ha ?he ?hv ?_; (case ex => with_reducible exact rfl); (case hy => with_reducible assumption); (case ha => omega); (case he => omega); (case hv => first | exact decide_eq_true (by omega) | exact decide_eq_false (by omega) | exact rfl); (try dsimp only))))
local macro_rules | `(tactic| walk_at "compareOp Gt float float") => `(tactic| (k_here; refine' r_gt_ex ?ex ?hy ?ha ?he ?hv ?_; (case ex => with_reducible exact rfl); (case hy => with_reducible assumption); (case ha => omega); (case he => omega); (case hv => first | exact decide_eq_true (by omega) | exact decide_eq_false (by omega) | exact rfl); (try dsimp only)))
local macro_rules | `(tactic| walk_at "compareOp NotEq float float") => `(tactic| (k_here; refine' r_ne_ff ?ex ?ey ?ha ?hb ?hv ?_; (case ex => with_reducible exact rfl); (case ey => with_reducible exact rfl); (case ha => omega); (case hb => omega); (case hv => first | exact decide_eq_true (by omega) | exact decide_eq_false (by omega) | exact rfl); (try dsimp only)))
local macro_rules | `(tactic| walk_at "call builtin:math.floor") => `(tactic| (k_here; first
  | (with_reducible refine' r_floor_div ?ha ?hd0 ?hd ?_; (case ha => omega); (case hd0 => omega); (case hd => omega); intro c hc)
  | (with_reducible refine' r_floor_qi ?ha ?hd0 ?hd ?_; (case ha => omega); (case hd0 => omega); (case hd => omega); intro c hc)
  | (with_reducible refine' r_floor_sum ?ha ?hi ?hj ?_; (case ha => omega); (case hi => omega); (case hj => omega); intro c hc)
  | (with_reducible refine' r_floor ?hx ?_; (case hx => with_reducible assumption); (try dsimp only))))
local macro_rules | `(tactic| walk_at "call builtin:math.ceil") => `(tactic| (k_here; with_reducible refine' r_ceil_div ?ha ?hd0 ?hd ?_; (case ha => omega); (case hd0 => omega); (case hd => omega); intro c hc))
local macro_rules | `(tactic| walk_at "call builtin:round") => `(tactic| (k_here; with_reducible refine' r_round ?hx ?_; (case hx => first | with_reducible assumption | exact Rd_ty' (by with_reducible assumption) (by with_reducible assumption) (by omega)); (try dsimp only)))
local macro_rules | `(tactic| walk_at "call type:int") => `(tactic| (k_here; refine' r_int ?ex ?ha ?he ?_; (case ex => with_reducible exact rfl); (case ha => omega); (case he => omega); intro c hc))
local macro_rules | `(tactic| walk_at "binaryOp Mod int int") => `(tactic| (k_here; refine' r_mod_ii ?hd0 ?_; (case hd0 => omega); (try dsimp only)))
local macro_rules | `(tactic| walk_at "compareOp In int ref") => `(tactic| (k_here; k_dflt (refine' r_in_tup ?F ?X ?hl ?hi ?hp ?_; (case F => k_asm); (case X => k_asm); (case hl => k_is); (case hi => first | exact ia_a | exact ia_b | exact ia_c); (case hp => first | exact any_a | exact any_b | exact any_c); (try dsimp only))))
local macro_rules | `(tactic| walk_at "compareOp Lt int int") => `(tactic| (k_here; refine' r_lt_ii ?hv ?_; (case hv => first | exact decide_eq_true (by omega) | exact decide_eq_false (by omega) | exact rfl); (try dsimp only)))
local macro_rules | `(tactic| walk_at "compareOp LtE int int") => `(tactic| (k_here; refine' r_le_ii ?hv ?_; (case hv => first | exact decide_eq_true (by omega) | exact decide_eq_false (by omega) | exact rfl); (try dsimp only)))
local macro_rules | `(tactic| walk_at "compareOp Gt int int") => `(tactic| (k_here; refine' r_gt_ii ?hv ?_; (case hv => first | exact decide_eq_true (by omega) | exact decide_eq_false (by omega) | exact rfl); (try dsimp only)))
local macro_rules | `(tactic| walk_at "compareOp GtE int int") => `(tactic| (k_here; refine' r_ge_ii ?hv ?_; (case hv => first | exact decide_eq_true (by omega) | exact decide_eq_false (by omega) | exact rfl); (try dsimp only)))
local macro_rules | `(tactic| walk_at "compareOp Eq int int") => `(tactic| (k_here; refine' r_eq_ii ?hv ?_; (case hv => first | exact decide_eq_true (by omega) | exact decide_eq_false (by omega) | exact rfl); (try dsimp only)))
local macro_rules | `(tactic| walk_at "compareOp NotEq int int") => `(tactic| (k_here; refine' r_ne_ii ?hv ?_; (case hv => first | exact decide_eq_true (by omega) | exact decide_eq_false (by omega) | exact rfl); (try dsimp only)))
local macro_rules | `(tactic| walk_at "binaryOp Add int bool") => `(tactic| (k_here; first | (with_reducible refine' r_add_it ?_; intro c hc) | (with_reducible refine' r_add_if' ?_; intro c hc)))
local macro_rules | `(tactic| walk_at "binaryOp Sub int bool") => `(tactic| (k_here; first | (with_reducible refine' r_sub_it ?_; intro c hc) | (with_reducible refine' r_sub_if' ?_; intro c hc)))
local macro_rules | `(tactic| walk_at "ite") => `(tactic| (k_here; first | with_reducible refine ite_tt ?_ | with_reducible refine ite_ff ?_))
local macro_rules | `(tactic| walk_at "call ref") => `(tactic| (k_here; k_dflt (refine' use_isleap ?kC ?k1 ?k2 ?k3 ?k4 ?k5 ?k6 ?k7 ?k8  ?_; (case kC => with_reducible assumption); (case k1 => k_asm); (case k2 => k_asm); (case k3 => k_asm); (case k4 => k_asm); (case k5 => k_asm); (case k6 => first | exact rfl | with_reducible assumption); (case k7 => ktr_room); (case k8 => ktr_units); k_whole; intro h9 tk9 F9 N9; (try dsimp only); (try k_fold))))
local macro_rules | `(tactic| walk_at "call ref") => `(tactic| (k_here; k_dflt (refine' use_legal ?kC ?k1 ?k2 ?k3 ?k4 ?k5 ?k6 ?k7 ?k8 ?p1 ?p2 ?p3 ?p4 ?_; (case kC => with_reducible assumption); (case k1 => k_asm); (case k2 => k_asm); (case k3 => k_asm); (case k4 => k_asm); (case k5 => k_asm); (case k6 => first | exact rfl | with_reducible assumption); (case k7 => ktr_room); (case k8 => ktr_units); (case p1 => omega); (case p2 => omega); (case p3 => omega); (case p4 => omega); k_whole; intro h9 tk9 F9 N9; (try dsimp only); (try k_fold))))
set_option maxHeartbeats 4000000 in
theorem tojd_ok {prog : Program} {w : World} {p : Program} {loose : List Str} {mean : ExcName → Option Value} {mg mb : Str → Option Value} (C1 : C_isleap prog w (hd.heap_39 w.params) p loose mean mg mb) (C2 : C_legal prog w (hd.heap_39 w.params) p loose mean mg mb) : C_tojd prog w (hd.heap_39 w.params) p loose mean mg mb := by
  have hmk : Mark PySem.Challenge.rw_ad5024_01 hd.heap_39 := by (k_fill; exact trivial)
  unfold C_tojd Gives0
  intro y mo d t1 t2 t3 p0 p1 p2 p3 p4 dp un gd cn cs a ccd cl outer A₀ base h₀ L m news s Q E B F X N T hk hd' hu hret
  refine wpAny_call ?_
  k_dflt cell_enter
  k_steps
  all_goals (refine ret_float (Q := Q) hret ?_ ?_ (fun _ h => h) ?_; (· k_asm); (· k_asm))
  all_goals (unfold gJ mAdj J; simp only [*, if_true, if_false, Bool.false_eq_true]; omega)
end
section
local macro_rules | `(tactic| walk_at "zz2") => `(tactic| skip)
local macro_rules | `(tactic| walk_at "binaryOp Add float float") => `(tactic| (k_here; refine' r_add_ff ?ex ?ey ?ha ?hb ?_; (case ex => first | with_reducible exact rfl | with_reducible exact lit_epg | with_reducible exact lit_epp | with_reducible exact lit_half); (case ey => first | with_reducible exact rfl | with_reducible exact lit_epg | with_reducible exact lit_epp | with_reducible exact lit_half); (case ha => omega); (case hb => omega); intro c hc))
local macro_rules | `(tactic| walk_at "binaryOp Sub float float") => `(tactic| (k_here; first
  | (refine' r_sub_ff ?ex ?ey ?ha ?hb ?_; (case ex => first | with_reducible exact rfl | with_reducible exact lit_epg | with_reducible exact lit_epp | with_reducible exact lit_half); (case ey => first | with_reducible exact rfl | with_reducible exact lit_epg | with_reducible exact lit_epp | with_reducible exact lit_half); (case ha => omega); (case hb => omega); intro c hc)
  | (refine' r_sub_xf ?ey ?_; (case ey => first | with_reducible exact rfl | with_reducible exact lit_half); (try dsimp only))))
local macro_rules | `(tactic| walk_at "binaryOp Add float int") => `(tactic| (k_here; first
  | (refine' r_add_fi ?ex ?ha ?hn ?_; (case ex => first | with_reducible exact rfl | with_reducible exact lit_epg | with_reducible exact lit_epp); (case ha => omega); (case hn => omega); intro c hc)
  | (refine' r_add_xi ?hn ?_; (case hn => omega); (try dsimp only))))
local macro_rules | `(tactic| walk_at "binaryOp Add int float") => `(tactic| (k_here; refine' r_add_if ?ex ?ha ?hn ?_; (case ex => first | with_reducible exact rfl | with_reducible exact lit_half); (case ha => omega); (case hn => omega); intro c hc))
local macro_rules | `(tactic| walk_at "binaryOp Sub float int") => `(tactic| (k_here; refine' r_sub_fi ?ex ?ha ?hn ?_; (case ex => first | with_reducible exact rfl | with_reducible exact lit_epg | with_reducible exact lit_epp); (case ha => omega); (case hn => omega); intro c hc))
local macro_rules | `(tactic| walk_at "inplaceOp Add float int") => `(tactic| (k_here; refine' r_iadd_fi ?ex ?ha ?hn ?_; (case ex => with_reducible exact rfl); (case ha => omega); (case hn => omega); intro c hc))
local macro_rules | `(tactic| walk_at "inplaceOp Sub float int") => `(tactic| (k_here; refine' r_isub_fi ?ex ?ha ?hn ?_; (case ex => with_reducible exact rfl); (case ha => omega); (case hn => omega); intro c hc))
local macro_rules | `(tactic| walk_at "binaryOp Mult float int") => `(tactic| (k_here; first
  | (refine' r_mul_fi ?ex ?ha ?hd0 ?hd ?_; (case ex => with_reducible exact rfl); (case ha => omega); (case hd0 => omega); (case hd => omega); intro c hc)
  | (refine' r_mul_xi ?hn ?_; (case hn => omega); (try dsimp only))))
local macro_rules | `(tactic| walk_at "binaryOp Div float int") => `(tactic| (k_here; refine' r_div_fi ?ex ?hd0 ?hd ?_; (case ex => with_reducible exact rfl); (case hd0 => omega); (case hd => omega); (try dsimp only)))
local macro_rules | `(tactic| walk_at "binaryOp Div float float") => `(tactic| (k_here; refine' r_div_ty ?ex ?_; (case ex => with_reducible exact rfl); (try dsimp only)))
local macro_rules | `(tactic| walk_at "binaryOp Div int int") => `(tactic| (k_here; refine' r_div_ii ?hd0 ?hn ?_; (case hd0 => omega); (case hn => omega); (try dsimp only)))
local macro_rules | `(tactic| walk_at "binaryOp Mod float int") => `(tactic| (k_here; refine' r_mod_fi ?ex ?ha ?hd0 ?hd ?_; (case ex => with_reducible exact rfl); (case ha => omega); (case hd0 => omega); (case hd => omega); intro c hc))
local macro_rules | `(tactic| walk_at "binaryOp FloorDiv float int") => `(tactic| (k_here; refine' r_fdiv_fi ?ex ?ha ?ho ?hd ?_; (case ex => with_reducible exact rfl); (case ha => omega); (case ho => omega); (case hd => exact rfl); intro c hc))
local macro_rules | `(tactic| walk_at "compareOp Lt float int") => `(tactic| (k_here; refine' r_lt_fi ?ex ?ha ?hv ?_; (case ex => with_reducible exact rfl); (case ha => omega); (case hv => first | exact decide_eq_true (by omega) | exact decide_eq_false (by omega) | exact rfl); (try dsimp only)))
local macro_rules | `(tactic| walk_at "compareOp LtE float int") => `(tactic| (k_here; refine' r_le_fi ?ex ?ha ?hv ?_; (case ex => with_reducible exact rfl); (case ha => omega); (case hv => first | exact decide_eq_true (by omega) | exact decide_eq_false (by omega) | exact rfl); (try dsimp only)))
local macro_rules | `(tactic| walk_at "compareOp Gt float int") => `(tactic| (k_here; refine' r_gt_fi ?ex ?ha ?hv ?_; (case ex => with_reducible exact rfl); (case ha => omega); (case hv => first | exact decide_eq_true (by omega) | exact decide_eq_false (by omega) | exact rfl); (try dsimp only)))
local macro_rules | `(tactic| walk_at "compareOp Lt float float") => `(tactic| (k_here; first
  | (refine' r_lt_ff ?ex ?ey ?ha ?hb ?hv ?_; (case ex => with_reducible exact rfl); (case ey => with_reducible exact rfl); (case ha => omega); (case hb => omega); (case hv => first | exact decide_eq_true (by omega) | exact decide_eq_false (by omega) | exact rfl); (try dsimp only))
  | (refine' r_lt_xe ?hx ?ey ?ha ?he ?hv ?_; (case hx => with_reducible assumption); (case ey => with_reducible exact rfl); (case ha => omega); (case he => omega); (case hv => first | exact decide_eq_true (by omega) | exact decide_eq_false (by omega) | exact rfl); (try dsimp only))))
local macro_rules | `(tactic| walk_at "compareOp LtE float float") => `(tactic| (k_here; first
  | (refine' r_le_ff ?ex ?ey ?ha ?hb ?hv ?_; (case ex => with_reducible exact rfl); (case ey => with_reducible exact rfl); (case ha => omega); (case hb => omega); (case hv => first | exact decide_eq_true (by omega) | exact decide_eq_false (by omega) | exact rfl); (try dsimp only))
  | (refine' r_le_ex ?ex ?hy ?ha ?he ?hv ?_; (case ex => with_reducible exact rfl); (case hy => with_reducible assumption); (case ha => omega); (case he => omega); (case hv => first | exact decide_eq_true (by omega) | exact decide_eq_false (by omega) | exact rfl); (try dsimp only))))
local macro_rules | `(tactic| walk_at "compareOp Gt float float") => `(tactic| (k_here; refine' r_gt_ex ?ex ?hy ?ha ?he ?hv ?_; (case ex => with_reducible exact rfl); (case hy => with_reducible assumption); (case ha => omega); (case he => omega); (case hv => first | exact decide_eq_true (by omega) | exact decide_eq_false (by omega) | exact rfl); (try dsimp only)))
local macro_rules | `(tactic| walk_at "compareOp NotEq float float") => `(tactic| (k_here; refine' r_ne_ff ?ex ?ey ?ha ?hb ?hv ?_; (case ex => with_reducible exact rfl); (case ey => with_reducible exact rfl); (case ha => omega); (case hb => omega); (case hv => first | exact decide_eq_true (by omega) | exact decide_eq_false (by omega) | exact rfl); (try dsimp only)))
local macro_rules | `(tactic| walk_at "call builtin:math.floor") => `(tactic| (k_here; first
  | (with_reducible refine' r_floor_div ?ha ?hd0 ?hd ?_; (case ha => omega); (case hd0 => omega); (case hd => omega); intro c hc)
  | (with_reducible refine' r_floor_qi ?ha ?hd0 ?hd ?_; (case ha => omega); (case hd0 => omega); (case hd => omega); intro c hc)
  | (with_reducible refine' r_floor_sum ?ha ?hi ?hj ?_; (case ha => omega); (case hi => omega); (case hj => omega); intro c hc)
  | (with_reducible refine' r_floor ?hx ?_; (case hx => with_reducible assumption); (try dsimp only))))
local macro_rules | `(tactic| walk_at "call builtin:math.ceil") => `(tactic| (k_here; with_reducible refine' r_ceil_div ?ha ?hd0 ?hd ?_; (case ha => omega); (case hd0 => omega); (case hd => omega); intro c hc))
local macro_rules | `(tactic| walk_at "call builtin:round") => `(tactic| (k_here; with_reducible refine' r_round ?hx ?_; (case hx => first | with_reducible assumption | exact Rd_ty' (by with_reducible assumption) (by with_reducible assumption) (by omega)); (try dsimp only)))
local macro_rules | `(tactic| walk_at "call type:int") => `(tactic| (k_here; refine' r_int ?ex ?ha ?he ?_; (case ex => with_reducible exact rfl); (case ha => omega); (case he => omega); intro c hc))
local macro_rules | `(tactic| walk_at "binaryOp Mod int int") => `(tactic| (k_here; refine' r_mod_ii ?hd0 ?_; (case hd0 => omega); (try dsimp only)))
local macro_rules | `(tactic| walk_at "compareOp In int ref") => `(tactic| (k_here; k_dflt (refine' r_in_tup ?F ?X ?hl ?hi ?hp ?_; (case F => k_asm); (case X => k_asm); (case hl => k_is); (case hi => first | exact ia_a | exact ia_b | exact ia_c); (case hp => first | exact any_a | exact any_b | exact any_c); (try dsimp only))))
local macro_rules | `(tactic| walk_at "compareOp Lt int int") => `(tactic| (k_here; refine' r_lt_ii ?hv ?_; (case hv => first | exact decide_eq_true (by omega) | exact decide_eq_false (by omega) | exact rfl); (try dsimp only)))
local macro_rules | `(tactic| walk_at "compareOp LtE int int") => `(tactic| (k_here; refine' r_le_ii ?hv ?_; (case hv => first | exact decide_eq_true (by omega) | exact decide_eq_false (by omega) | exact rfl); (try dsimp only)))
local macro_rules | `(tactic| walk_at "compareOp Gt int int") => `(tactic| (k_here; refine' r_gt_ii ?hv ?_; (case hv => first | exact decide_eq_true (by omega) | exact decide_eq_false (by omega) | exact rfl); (try dsimp only)))
local macro_rules | `(tactic| walk_at "compareOp GtE int int") => `(tactic| (k_here; refine' r_ge_ii ?hv ?_; (case hv => first | exact decide_eq_true (by omega) | exact decide_eq_false (by omega) | exact rfl); (try dsimp only)))
local macro_rules | `(tactic| walk_at "compareOp Eq int int") => `(tactic| (k_here; refine' r_eq_ii ?hv ?_; (case hv => first | exact decide_eq_true (by omega) | exact decide_eq_false (by omega) | exact rfl); (try dsimp only)))
local macro_rules | `(tactic| walk_at "compareOp NotEq int int") => `(tactic| (k_here; refine' r_ne_ii ?hv ?_; (case hv => first | exact decide_eq_true (by omega) | exact decide_eq_false (by omega) | exact rfl); (try dsimp only)))
local macro_rules | `(tactic| walk_at "binaryOp Add int bool") => `(tactic| (k_here; first | (with_reducible refine' r_add_it ?_; intro c hc) | (with_reducible refine' r_add_if' ?_; intro c hc)))
local macro_rules | `(tactic| walk_at "binaryOp Sub int bool") => `(tactic| (k_here; first | (with_reducible refine' r_sub_it ?_; intro c hc) | (with_reducible refine' r_sub_if' ?_; intro c hc)))
local macro_rules | `(tactic| walk_at "ite") => `(tactic| (k_here; first | with_reducible refine ite_tt ?_ | with_reducible refine ite_ff ?_))
local macro_rules | `(tactic| walk_at "call ref") => `(tactic| (k_here; k_dflt (refine' use_tojd ?kC ?k1 ?k2 ?k3 ?k4 ?k5 ?k6 ?k7 ?k8 ?p0 ?p1 ?p2 ?p3 ?p4 ?_; (case kC => with_reducible assumption); (case k1 => k_asm); (case k2 => k_asm); (case k3 => k_asm); (case k4 => k_asm); (case k5 => k_asm); (case k6 => first | exact rfl | with_reducible assumption); (case k7 => ktr_room); (case k8 => ktr_units); (case p0 => omega); (case p1 => omega); (case p2 => omega); (case p3 => omega); (case p4 => omega); k_whole; intro c9 t9 h9 tk9 hc9 hp9 hb9 hB9 F9 N9; (first | rw [gJ_11] at hc9 | rw [gJ_321] at hc9 | rw [gJ_322] at hc9 | skip); (try dsimp only); (try k_fold))))
local macro_rules | `(tactic| walk_at "call ref") => `(tactic| (k_here; k_dflt (refine' use_tojd_1 ?kC ?k1 ?k2 ?k3 ?k4 ?k5 ?k6 ?k7 ?k8 ?hb ?h0 ?h1 ?hq ?hr ?hc ?hs ?hd ?he ?hi ?hy ?_; (case kC => with_reducible assumption); (case k1 => k_asm); (case k2 => k_asm); (case k3 => k_asm); (case k4 => k_asm); (case k5 => k_asm); (case k6 => first | exact rfl | with_reducible assumption); (case k7 => ktr_room); (case k8 => ktr_units); (case h0 => with_reducible assumption); (case h1 => with_reducible assumption); (case hb => with_reducible assumption); (case hq => with_reducible assumption); (case hr => with_reducible assumption); (case hc => with_reducible assumption); (case hs => with_reducible assumption); (case hd => with_reducible assumption); (case he => with_reducible assumption); (case hi => with_reducible assumption); (case hy => first | (rw [if_pos (by omega)]; omega) | (rw [if_neg (by omega)]; done) | (rw [if_neg (by omega)]; omega)); k_whole; intro c9 t9 h9 tk9 hc9 hb9 hy9 hJ9 hJn9 hJm9 F9 N9; (try dsimp only); (try k_fold))))
local macro_rules | `(tactic| walk_at "call ref") => `(tactic| (k_here; k_dflt (refine' use_isleap_s ?kC ?k1 ?k2 ?k3 ?k4 ?k5 ?k6 ?k7 ?k8 ?_ ?_; (case kC => assumption); (case k1 => k_asm); (case k2 => k_asm); (case k3 => k_asm); (case k4 => k_asm); (case k5 => k_asm); (case k6 => first | exact rfl | assumption); (case k7 => ktr_room); (case k8 => ktr_units); (all_goals (k_whole; intro h9 tk9 hl9 hi9 F9 N9; (try dsimp only); (try k_fold))))))
set_option maxHeartbeats 8000000 in
theorem fromjd_ok {prog : Program} {w : World} {p : Program} {loose : List Str} {mean : ExcName → Option Value} {mg mb : Str → Option Value} (C1 : C_isleap prog w (hd.heap_39 w.params) p loose mean mg mb) (C3 : C_tojd prog w (hd.heap_39 w.params) p loose mean mg mb) : C_fromjd prog w (hd.heap_39 w.params) p loose mean mg mb := by
  have hmk : Mark PySem.Challenge.rw_ad5024_01 hd.heap_39 := by (k_fill; exact trivial)
  unfold C_fromjd GivesT
  intro x k t p1 p2 dp un gd cn cs a ccd cl outer A₀ base h₀ L m news s Q E B F X N T hk hd' hu hret
  refine wpAny_call ?_
  k_dflt cell_enter
  k_steps
  all_goals (refine' ret_t3 (Q := Q) hret ?rF ?rN ?rD ?rS ?rL ?rP; (case rF => with_reducible assumption); (case rN => with_reducible assumption); (case rD => k_mem); (case rS => exact fun p h => List.Mem.tail _ h); (case rL => first | with_reducible assumption | exact allLt_of (by with_reducible assumption) | exact And.right (by with_reducible assumption)); (case rP => exact ⟨by with_reducible assumption, by with_reducible assumption, by with_reducible assumption⟩))
end
section
local macro_rules | `(tactic| walk_at "binaryOp Add float float") => `(tactic| (k_here; refine' r_add_ff ?ex ?ey ?ha ?hb ?_; (case ex => first | with_reducible exact rfl | with_reducible exact lit_epg | with_reducible exact lit_epp | with_reducible exact lit_half); (case ey => first | with_reducible exact rfl | with_reducible exact lit_epg | with_reducible exact lit_epp | with_reducible exact lit_half); (case ha => omega); (case hb => omega); intro c hc))
local macro_rules | `(tactic| walk_at "binaryOp Sub float float") => `(tactic| (k_here; first
  | (refine' r_sub_ff ?ex ?ey ?ha ?hb ?_; (case ex => first | with_reducible exact rfl | with_reducible exact lit_epg | with_reducible exact lit_epp | with_reducible exact lit_half); (case ey => first | with_reducible exact rfl | with_reducible exact lit_epg | with_reducible exact lit_epp | with_reducible exact lit_half); (case ha => omega); (case hb => omega); intro c hc)
  | (refine' r_sub_xf ?ey ?_; (case ey => first | with_reducible exact rfl | with_reducible exact lit_half); (try dsimp only))))
local macro_rules | `(tactic| walk_at "binaryOp Add float int") => `(tactic| (k_here; first
  | (refine' r_add_fi ?ex ?ha ?hn ?_; (case ex => first | with_reducible exact rfl | with_reducible exact lit_epg | with_reducible exact lit_epp); (case ha => omega); (case hn => omega); intro c hc)
  | (refine' r_add_xi ?hn ?_; (case hn => omega); (try dsimp only))))
local macro_rules | `(tactic| walk_at "binaryOp Add int float") => `(tactic| (k_here; refine' r_add_if ?ex ?ha ?hn ?_; (case ex => first | with_reducible exact rfl | with_reducible exact lit_half); (case ha => omega); (case hn => omega); intro c hc))
local macro_rules | `(tactic| walk_at "binaryOp Sub float int") => `(tactic| (k_here; refine' r_sub_fi ?ex ?ha ?hn ?_; (case ex => first | with_reducible exact rfl | with_reducible exact lit_epg | with_reducible exact lit_epp); (case ha => omega); (case hn => omega); intro c hc))
local macro_rules | `(tactic| walk_at "inplaceOp Add float int") => `(tactic| (k_here; refine' r_iadd_fi ?ex ?ha ?hn ?_; (case ex => with_reducible exact rfl); (case ha => omega); (case hn => omega); intro c hc))
local macro_rules | `(tactic| walk_at "inplaceOp Sub float int") => `(tactic| (k_here; refine' r_isub_fi ?ex ?ha ?hn ?_; (case ex => with_reducible exact rfl); (case ha => omega); (case hn => omega); intro c hc))
local macro_rules | `(tactic| walk_at "binaryOp Mult float int") => `(tactic| (k_here; first
  | (refine' r_mul_fi ?ex ?ha ?hd0 ?hd ?_; (case ex => with_reducible exact rfl); (case ha => omega); (case hd0 => omega); (case hd => omega); intro c hc)
  | (refine' r_mul_xi ?hn ?_; (case hn => omega); (try dsimp only))))
local macro_rules | `(tactic| walk_at "binaryOp Div float int") => `(tactic| (k_here; refine' r_div_fi ?ex ?hd0 ?hd ?_; (case ex => with_reducible exact rfl); (case hd0 => omega); (case hd => omega); (try dsimp only)))
local macro_rules | `(tactic| walk_at "binaryOp Div float float") => `(tactic| (k_here; refine' r_div_ty ?ex ?_; (case ex => with_reducible exact rfl); (try dsimp only)))
local macro_rules | `(tactic| walk_at "binaryOp Div int int") => `(tactic| (k_here; refine' r_div_ii ?hd0 ?hn ?_; (case hd0 => omega); (case hn => omega); (try dsimp only)))
local macro_rules | `(tactic| walk_at "binaryOp Mod float int") => `(tactic| (k_here; refine' r_mod_fi ?ex ?ha ?hd0 ?hd ?_; (case ex => with_reducible exact rfl); (case ha => omega); (case hd0 => omega); (case hd => omega); intro c hc))
local macro_rules | `(tactic| walk_at "binaryOp FloorDiv float int") => `(tactic| (k_here; refine' r_fdiv_fi ?ex ?ha ?ho ?hd ?_; (case ex => with_reducible exact rfl); (case ha => omega); (case ho => omega); (case hd => exact rfl); intro c hc))
local macro_rules | `(tactic| walk_at "compareOp Lt float int") => `(tactic| (k_here; refine' r_lt_fi ?ex ?ha ?hv ?_; (case ex => with_reducible exact rfl); (case ha => omega); (case hv => first | exact decide_eq_true (by omega) | exact decide_eq_false (by omega) | exact rfl); (try dsimp only)))
local macro_rules | `(tactic| walk_at "compareOp LtE float int") => `(tactic| (k_here; refine' r_le_fi ?ex ?ha ?hv ?_; (case ex => with_reducible exact rfl); (case ha => omega); (case hv => first | exact decide_eq_true (by omega) | exact decide_eq_false (by omega) | exact rfl); (try dsimp only)))
local macro_rules | `(tactic| walk_at "compareOp Gt float int") => `(tactic| (k_here; refine' r_gt_fi ?ex ?ha ?hv ?_; (case ex => with_reducible exact rfl); (case ha => omega); (case hv => first | exact decide_eq_true (by omega) | exact decide_eq_false (by omega) | exact rfl); (try dsimp only)))
local macro_rules | `(tactic| walk_at "compareOp Lt float float") => `(tactic| (k_here; first
  | (refine' r_lt_ff ?ex ?ey ?ha ?hb ?hv ?_; (case ex => with_reducible exact rfl); (case ey => with_reducible exact rfl); (case ha => omega); (case hb => omega); (case hv => first | exact decide_eq_true (by omega) | exact decide_eq_false (by omega) | exact rfl); (try dsimp only))
  | (refine' r_lt_xe ?hx ?ey ?ha ?he ?hv ?_; (case hx => with_reducible assumption); (case ey => with_reducible exact rfl); (case ha => omega); (case he => omega); (case hv => first | exact decide_eq_true (by omega) | exact decide_eq_false (by omega) | exact rfl); (try dsimp only))))
local macro_rules | `(tactic| walk_at "compareOp LtE float float") => `(tactic| (k_here; first
  | (refine' r_le_ff ?ex ?ey ?ha ?hb ?hv ?_; (case ex => with_reducible exact rfl); (case ey => with_reducible exact rfl); (case ha => omega); (case hb => omega); (case hv => first | exact decide_eq_true (by omega) | exact decide_eq_false (by omega) | exact rfl); (try dsimp only))
  | (refine' r_le_ex ?ex ?hy ?ha ?he ?hv ?_; (case ex => with_reducible exact rfl); (case hy => with_reducible assumption); (case ha => omega); (case he => omega); (case hv => first | exact decide_eq_true (by omega) | exact decide_eq_false (by omega) | exact rfl); (try dsimp only))))
local macro_rules | `(tactic| walk_at "compareOp Gt float float") => `(tactic| (k_here; refine' r_gt_ex ?ex ?hy ?ha ?he ?hv ?_; (case ex => with_reducible exact rfl); (case hy => with_reducible assumption); (case ha => omega); (case he => omega); (case hv => first | exact decide_eq_true (by omega) | exact decide_eq_false (by omega) | exact rfl); (try dsimp only)))
local macro_rules | `(tactic| walk_at "compareOp NotEq float float") => `(tactic| (k_here; refine' r_ne_ff ?ex ?ey ?ha ?hb ?hv ?_; (case ex => with_reducible exact rfl); (case ey => with_reducible exact rfl); (case ha => omega); (case hb => omega); (case hv => first | exact decide_eq_true (by omega) | exact decide_eq_false (by omega) | exact rfl); (try dsimp only)))
local macro_rules | `(tactic| walk_at "call builtin:math.floor") => `(tactic| (k_here; first
  | (with_reducible refine' r_floor_div ?ha ?hd0 ?hd ?_; (case ha => omega); (case hd0 => omega); (case hd => omega); intro c hc)
  | (with_reducible refine' r_floor_qi ?ha ?hd0 ?hd ?_; (case ha => omega); (case hd0 => omega); (case hd => omega); intro c hc)
  | (with_reducible refine' r_floor_sum ?ha ?hi ?hj ?_; (case ha => omega); (case hi => omega); (case hj => omega); intro c hc)
  | (with_reducible refine' r_floor ?hx ?_; (case hx => with_reducible assumption); (try dsimp only))))
local macro_rules | `(tactic| walk_at "call builtin:math.ceil") => `(tactic| (k_here; with_reducible refine' r_ceil_div ?ha ?hd0 ?hd ?_; (case ha => omega); (case hd0 => omega); (case hd => omega); intro c hc))
local macro_rules | `(tactic| walk_at "call builtin:round") => `(tactic| (k_here; with_reducible refine' r_round ?hx ?_; (case hx => first | with_reducible assumption | exact Rd_ty' (by with_reducible assumption) (by with_reducible assumption) (by omega)); (try dsimp only)))
local macro_rules | `(tactic| walk_at "call type:int") => `(tactic| (k_here; refine' r_int ?ex ?ha ?he ?_; (case ex => with_reducible exact rfl); (case ha => omega); (case he => omega); intro c hc))
local macro_rules | `(tactic| walk_at "binaryOp Mod int int") => `(tactic| (k_here; refine' r_mod_ii ?hd0 ?_; (case hd0 => omega); (try dsimp only)))
local macro_rules | `(tactic| walk_at "compareOp In int ref") => `(tactic| (k_here; k_dflt (refine' r_in_tup ?F ?X ?hl ?hi ?hp ?_; (case F => k_asm); (case X => k_asm); (case hl => k_is); (case hi => first | exact ia_a | exact ia_b | exact ia_c); (case hp => first | exact any_a | exact any_b | exact any_c); (try dsimp only))))
local macro_rules | `(tactic| walk_at "compareOp Lt int int") => `(tactic| (k_here; refine' r_lt_ii ?hv ?_; (case hv => first | exact decide_eq_true (by omega) | exact decide_eq_false (by omega) | exact rfl); (try dsimp only)))
local macro_rules | `(tactic| walk_at "compareOp LtE int int") => `(tactic| (k_here; refine' r_le_ii ?hv ?_; (case hv => first | exact decide_eq_true (by omega) | exact decide_eq_false (by omega) | exact rfl); (try dsimp only)))
local macro_rules | `(tactic| walk_at "compareOp Gt int int") => `(tactic| (k_here; refine' r_gt_ii ?hv ?_; (case hv => first | exact decide_eq_true (by omega) | exact decide_eq_false (by omega) | exact rfl); (try dsimp only)))
local macro_rules | `(tactic| walk_at "compareOp GtE int int") => `(tactic| (k_here; refine' r_ge_ii ?hv ?_; (case hv => first | exact decide_eq_true (by omega) | exact decide_eq_false (by omega) | exact rfl); (try dsimp only)))
local macro_rules | `(tactic| walk_at "compareOp Eq int int") => `(tactic| (k_here; refine' r_eq_ii ?hv ?_; (case hv => first | exact decide_eq_true (by omega) | exact decide_eq_false (by omega) | exact rfl); (try dsimp only)))
local macro_rules | `(tactic| walk_at "compareOp NotEq int int") => `(tactic| (k_here; refine' r_ne_ii ?hv ?_; (case hv => first | exact decide_eq_true (by omega) | exact decide_eq_false (by omega) | exact rfl); (try dsimp only)))
local macro_rules | `(tactic| walk_at "binaryOp Add int bool") => `(tactic| (k_here; first | (with_reducible refine' r_add_it ?_; intro c hc) | (with_reducible refine' r_add_if' ?_; intro c hc)))
local macro_rules | `(tactic| walk_at "binaryOp Sub int bool") => `(tactic| (k_here; first | (with_reducible refine' r_sub_it ?_; intro c hc) | (with_reducible refine' r_sub_if' ?_; intro c hc)))
local macro_rules | `(tactic| walk_at "ite") => `(tactic| (k_here; first | with_reducible refine ite_tt ?_ | with_reducible refine ite_ff ?_))
local macro_rules | `(tactic| walk_at "call ref") => `(tactic| (k_here; k_dflt (refine' use_tojd ?kC ?k1 ?k2 ?k3 ?k4 ?k5 ?k6 ?k7 ?k8 ?p0 ?p1 ?p2 ?p3 ?p4 ?_; (case kC => with_reducible assumption); (case k1 => k_asm); (case k2 => k_asm); (case k3 => k_asm); (case k4 => k_asm); (case k5 => k_asm); (case k6 => first | exact rfl | with_reducible assumption); (case k7 => ktr_room); (case k8 => ktr_units); (case p0 => omega); (case p1 => omega); (case p2 => omega); (case p3 => omega); (case p4 => omega); k_whole; intro c9 t9 h9 tk9 hc9 hp9 hb9 hB9 F9 N9; (first | rw [gJ_11] at hc9 | rw [gJ_321] at hc9 | rw [gJ_322] at hc9 | skip); (try dsimp only); (try k_fold))))
set_option maxHeartbeats 8000000 in
theorem eqx_ok {prog : Program} {w : World} {p : Program} {loose : List Str} {mean : ExcName → Option Value} {mg mb : Str → Option Value} (C3 : C_tojd prog w (hd.heap_39 w.params) p loose mean mg mb) : C_eqx prog w (hd.heap_39 w.params) p loose mean mg mb := by
  have hmk : Mark PySem.Challenge.rw_ad5024_01 hd.heap_39 := by (k_fill; exact trivial)
  unfold C_eqx Gives0
  intro y t p0 dp un gd cn cs a ccd cl outer A₀ base h₀ L m news s Q E B F X N T hk hd' hu hret
  refine wpAny_call ?_
  k_dflt cell_enter
  k_steps
  all_goals (refine ret_float (Q := Q) hret ?_ ?_ (fun _ h => h) ?_; (· k_asm); (· k_asm))
  all_goals omega
set_option maxHeartbeats 8000000 in
theorem long_ok {prog : Program} {w : World} {p : Program} {loose : List Str} {mean : ExcName → Option Value} {mg mb : Str → Option Value} : C_long prog w (hd.heap_39 w.params) p loose mean mg mb := by
  have hmk : Mark PySem.Challenge.rw_ad5024_01 hd.heap_39 := by (k_fill; exact trivial)
  unfold C_long Gives0
  intro y t dp un gd cn cs a ccd cl outer A₀ base h₀ L m news s Q E B F X N T hk hd' hu hret
  refine wpAny_call ?_
  k_dflt cell_enter
  k_steps
  all_goals (refine ret_bool (Q := Q) hret ?_ ?_ (fun _ h => h) ?_; (· k_asm); (· k_asm))
  all_goals (unfold lp; rw [Bool.eq_iff_iff]; simp only [Bool.and_eq_true, Bool.or_eq_true, decide_eq_true_eq]; omega)
end
section
local macro_rules | `(tactic| walk_at "zz5") => `(tactic| skip)
local macro_rules | `(tactic| walk_at "zz4") => `(tactic| skip)
local macro_rules | `(tactic| walk_at "zz3") => `(tactic| skip)
local macro_rules | `(tactic| walk_at "binaryOp Add float float") => `(tactic| (k_here; refine' r_add_ff ?ex ?ey ?ha ?hb ?_; (case ex => first | with_reducible exact rfl | with_reducible exact lit_epg | with_reducible exact lit_epp | with_reducible exact lit_half); (case ey => first | with_reducible exact rfl | with_reducible exact lit_epg | with_reducible exact lit_epp | with_reducible exact lit_half); (case ha => omega); (case hb => omega); intro c hc))
local macro_rules | `(tactic| walk_at "binaryOp Sub float float") => `(tactic| (k_here; first
  | (refine' r_sub_ff ?ex ?ey ?ha ?hb ?_; (case ex => first | with_reducible exact rfl | with_reducible exact lit_epg | with_reducible exact lit_epp | with_reducible exact lit_half); (case ey => first | with_reducible exact rfl | with_reducible exact lit_epg | with_reducible exact lit_epp | with_reducible exact lit_half); (case ha => omega); (case hb => omega); intro c hc)
  | (refine' r_sub_xf ?ey ?_; (case ey => first | with_reducible exact rfl | with_reducible exact lit_half); (try dsimp only))))
local macro_rules | `(tactic| walk_at "binaryOp Add float int") => `(tactic| (k_here; first
  | (refine' r_add_fi ?ex ?ha ?hn ?_; (case ex => first | with_reducible exact rfl | with_reducible exact lit_epg | with_reducible exact lit_epp); (case ha => omega); (case hn => omega); intro c hc)
  | (refine' r_add_xi ?hn ?_; (case hn => omega); (try dsimp only))))
local macro_rules | `(tactic| walk_at "binaryOp Add int float") => `(tactic| (k_here; refine' r_add_if ?ex ?ha ?hn ?_; (case ex => first | with_reducible exact rfl | with_reducible exact lit_half); (case ha => omega); (case hn => omega); intro c hc))
local macro_rules | `(tactic| walk_at "binaryOp Sub float int") => `(tactic| (k_here; refine' r_sub_fi ?ex ?ha ?hn ?_; (case ex => first | with_reducible exact rfl | with_reducible exact lit_epg | with_reducible exact lit_epp); (case ha => omega); (case hn => omega); intro c hc))
local macro_rules | `(tactic| walk_at "inplaceOp Add float int") => `(tactic| (k_here; refine' r_iadd_fi ?ex ?ha ?hn ?_; (case ex => with_reducible exact rfl); (case ha => omega); (case hn => omega); intro c hc))
local macro_rules | `(tactic| walk_at "inplaceOp Sub float int") => `(tactic| (k_here; refine' r_isub_fi ?ex ?ha ?hn ?_; (case ex => with_reducible exact rfl); (case ha => omega); (case hn => omega); intro c hc))
local macro_rules | `(tactic| walk_at "binaryOp Mult float int") => `(tactic| (k_here; first
  | (refine' r_mul_fi ?ex ?ha ?hd0 ?hd ?_; (case ex => with_reducible exact rfl); (case ha => omega); (case hd0 => omega); (case hd => omega); intro c hc)
  | (refine' r_mul_xi ?hn ?_; (case hn => omega); (try dsimp only))))
local macro_rules | `(tactic| walk_at "binaryOp Div float int") => `(tactic| (k_here; refine' r_div_fi ?ex ?hd0 ?hd ?_; (case ex => with_reducible exact rfl); (case hd0 => omega); (case hd => omega); (try dsimp only)))
local macro_rules | `(tactic| walk_at "binaryOp Div float float") => `(tactic| (k_here; refine' r_div_ty ?ex ?_; (case ex => with_reducible exact rfl); (try dsimp only)))
local macro_rules | `(tactic| walk_at "binaryOp Div int int") => `(tactic| (k_here; refine' r_div_ii ?hd0 ?hn ?_; (case hd0 => omega); (case hn => omega); (try dsimp only)))
local macro_rules | `(tactic| walk_at "binaryOp Mod float int") => `(tactic| (k_here; refine' r_mod_fi ?ex ?ha ?hd0 ?hd ?_; (case ex => with_reducible exact rfl); (case ha => omega); (case hd0 => omega); (case hd => omega); intro c hc))
local macro_rules | `(tactic| walk_at "binaryOp FloorDiv float int") => `(tactic| (k_here; refine' r_fdiv_fi ?ex ?ha ?ho ?hd ?_; (case ex => with_reducible exact rfl); (case ha => omega); (case ho => omega); (case hd => exact rfl); intro c hc))
local macro_rules | `(tactic| walk_at "compareOp Lt float int") => `(tactic| (k_here; refine' r_lt_fi ?ex ?ha ?hv ?_; (case ex => with_reducible exact rfl); (case ha => omega); (case hv => first | exact decide_eq_true (by omega) | exact decide_eq_false (by omega) | exact rfl); (try dsimp only)))
local macro_rules | `(tactic| walk_at "compareOp LtE float int") => `(tactic| (k_here; refine' r_le_fi ?ex ?ha ?hv ?_; (case ex => with_reducible exact rfl); (case ha => omega); (case hv => first | exact decide_eq_true (by omega) | exact decide_eq_false (by omega) | exact rfl); (try dsimp only)))
local macro_rules | `(tactic| walk_at "compareOp Gt float int") => `(tactic| (k_here; refine' r_gt_fi ?ex ?ha ?hv ?_; (case ex => with_reducible exact rfl); (case ha => omega); (case hv => first | exact decide_eq_true (by omega) | exact decide_eq_false (by omega) | exact rfl); (try dsimp only)))
local macro_rules | `(tactic| walk_at "compareOp Lt float float") => `(tactic| (k_here; first
  | (refine' r_lt_ff ?ex ?ey ?ha ?hb ?hv ?_; (case ex => with_reducible exact rfl); (case ey => with_reducible exact rfl); (case ha => omega); (case hb => omega); (case hv => first | exact decide_eq_true (by omega) | exact decide_eq_false (by omega) | exact rfl); (try dsimp only))
  | (refine' r_lt_xe ?hx ?ey ?ha ?he ?hv ?_; (case hx => with_reducible assumption); (case ey => with_reducible exact rfl); (case ha => omega); (case he => omega); (case hv => first | exact decide_eq_true (by omega) | exact decide_eq_false (by omega) | exact rfl); (try dsimp only))))
local macro_rules | `(tactic| walk_at "compareOp LtE float float") => `(tactic| (k_here; first
  | (refine' r_le_ff ?ex ?ey ?ha ?hb ?hv ?_; (case ex => with_reducible exact rfl); (case ey => with_reducible exact rfl); (case ha => omega); (case hb => omega); (case hv => first | exact decide_eq_true (by omega) | exact decide_eq_false (by omega) | exact rfl); (try dsimp only))
  | (refine' r_le_ex ?ex ?hy ?ha ?he ?hv ?_; (case ex => with_reducible exact rfl); (case hy => with_reducible assumption); (case ha => omega); (case he => omega); (case hv => first | exact decide_eq_true (by omega) | exact decide_eq_false (by omega) | exact rfl); (try dsimp only))))
local macro_rules | `(tactic| walk_at "compareOp Gt float float") => `(tactic| (k_here; refine' r_gt_ex ?ex ?hy ?ha ?he ?hv ?_; (case ex => with_reducible exact rfl); (case hy => with_reducible assumption); (case ha => omega); (case he => omega); (case hv => first | exact decide_eq_true (by omega) | exact decide_eq_false (by omega) | exact rfl); (try dsimp only)))
local macro_rules | `(tactic| walk_at "compareOp NotEq float float") => `(tactic| (k_here; refine' r_ne_ff ?ex ?ey ?ha ?hb ?hv ?_; (case ex => with_reducible exact rfl); (case ey => with_reducible exact rfl); (case ha => omega); (case hb => omega); (case hv => first | exact decide_eq_true (by omega) | exact decide_eq_false (by omega) | exact rfl); (try dsimp only)))
local macro_rules | `(tactic| walk_at "call builtin:math.floor") => `(tactic| (k_here; first
  | (with_reducible refine' r_floor_div ?ha ?hd0 ?hd ?_; (case ha => omega); (case hd0 => omega); (case hd => omega); intro c hc)
  | (with_reducible refine' r_floor_qi ?ha ?hd0 ?hd ?_; (case ha => omega); (case hd0 => omega); (case hd => omega); intro c hc)
  | (with_reducible refine' r_floor_sum ?ha ?hi ?hj ?_; (case ha => omega); (case hi => omega); (case hj => omega); intro c hc)
  | (with_reducible refine' r_floor ?hx ?_; (case hx => with_reducible assumption); (try dsimp only))))
local macro_rules | `(tactic| walk_at "call builtin:math.ceil") => `(tactic| (k_here; with_reducible refine' r_ceil_div ?ha ?hd0 ?hd ?_; (case ha => omega); (case hd0 => omega); (case hd => omega); intro c hc))
local macro_rules | `(tactic| walk_at "call builtin:round") => `(tactic| (k_here; with_reducible refine' r_round ?hx ?_; (case hx => first | with_reducible assumption | exact Rd_ty' (by with_reducible assumption) (by with_reducible assumption) (by omega)); (try dsimp only)))
local macro_rules | `(tactic| walk_at "call type:int") => `(tactic| (k_here; refine' r_int ?ex ?ha ?he ?_; (case ex => with_reducible exact rfl); (case ha => omega); (case he => omega); intro c hc))
local macro_rules | `(tactic| walk_at "binaryOp Mod int int") => `(tactic| (k_here; refine' r_mod_ii ?hd0 ?_; (case hd0 => omega); (try dsimp only)))
local macro_rules | `(tactic| walk_at "compareOp In int ref") => `(tactic| (k_here; k_dflt (refine' r_in_tup ?F ?X ?hl ?hi ?hp ?_; (case F => k_asm); (case X => k_asm); (case hl => k_is); (case hi => first | exact ia_a | exact ia_b | exact ia_c); (case hp => first | exact any_a | exact any_b | exact any_c); (try dsimp only))))
local macro_rules | `(tactic| walk_at "compareOp Lt int int") => `(tactic| (k_here; refine' r_lt_ii ?hv ?_; (case hv => first | exact decide_eq_true (by omega) | exact decide_eq_false (by omega) | exact rfl); (try dsimp only)))
local macro_rules | `(tactic| walk_at "compareOp LtE int int") => `(tactic| (k_here; refine' r_le_ii ?hv ?_; (case hv => first | exact decide_eq_true (by omega) | exact decide_eq_false (by omega) | exact rfl); (try dsimp only)))
local macro_rules | `(tactic| walk_at "compareOp Gt int int") => `(tactic| (k_here; refine' r_gt_ii ?hv ?_; (case hv => first | exact decide_eq_true (by omega) | exact decide_eq_false (by omega) | exact rfl); (try dsimp only)))
local macro_rules | `(tactic| walk_at "compareOp GtE int int") => `(tactic| (k_here; refine' r_ge_ii ?hv ?_; (case hv => first | exact decide_eq_true (by omega) | exact decide_eq_false (by omega) | exact rfl); (try dsimp only)))
local macro_rules | `(tactic| walk_at "compareOp Eq int int") => `(tactic| (k_here; refine' r_eq_ii ?hv ?_; (case hv => first | exact decide_eq_true (by omega) | exact decide_eq_false (by omega) | exact rfl); (try dsimp only)))
local macro_rules | `(tactic| walk_at "compareOp NotEq int int") => `(tactic| (k_here; refine' r_ne_ii ?hv ?_; (case hv => first | exact decide_eq_true (by omega) | exact decide_eq_false (by omega) | exact rfl); (try dsimp only)))
local macro_rules | `(tactic| walk_at "binaryOp Add int bool") => `(tactic| (k_here; first | (with_reducible refine' r_add_it ?_; intro c hc) | (with_reducible refine' r_add_if' ?_; intro c hc)))
local macro_rules | `(tactic| walk_at "binaryOp Sub int bool") => `(tactic| (k_here; first | (with_reducible refine' r_sub_it ?_; intro c hc) | (with_reducible refine' r_sub_if' ?_; intro c hc)))
local macro_rules | `(tactic| walk_at "ite") => `(tactic| (k_here; first | with_reducible refine ite_tt ?_ | with_reducible refine ite_ff ?_))
local macro_rules | `(tactic| walk_at "call ref") => `(tactic| (k_here; k_dflt (refine' use_eqx ?kC ?k1 ?k2 ?k3 ?k4 ?k5 ?k6 ?k7 ?k8 ?p0 ?_; (case kC => with_reducible assumption); (case k1 => k_asm); (case k2 => k_asm); (case k3 => k_asm); (case k4 => k_asm); (case k5 => k_asm); (case k6 => first | exact rfl | with_reducible assumption); (case k7 => ktr_room); (case k8 => ktr_units); (case p0 => omega); k_whole; intro c9 t9 h9 tk9 hc9 F9 N9; (try simp only [Int.add_sub_cancel] at hc9); (try dsimp only); (try k_fold))))
local macro_rules | `(tactic| walk_at "call ref") => `(tactic| (k_here; k_dflt (refine' use_fromjd_g ?kC ?k1 ?k2 ?k3 ?k4 ?k5 ?k6 ?k7 ?k8 ?p1 ?p2 ?p3 ?p4 ?p0 ?_ ?_; (case kC => with_reducible assumption); (case k1 => k_asm); (case k2 => k_asm); (case k3 => k_asm); (case k4 => k_asm); (case k5 => k_asm); (case k6 => first | exact rfl | with_reducible assumption); (case k7 => ktr_room); (case k8 => ktr_units); (case p1 => first | with_reducible assumption | exact half_back_o' (by with_reducible assumption) (by omega)); (case p2 => first | with_reducible assumption | exact Or.inr rfl); (case p3 => with_reducible assumption); (case p4 => with_reducible assumption); (case p0 => with_reducible assumption); (all_goals (k_whole; intro m9 d9 D9 t91 t92 t93 c9 h9 tk9 hJ9 F9 N9 L9; (try simp only [AllLt, and_true] at L9); (try dsimp only); (try k_fold))))))
set_option maxHeartbeats 8000000 in
theorem lasteq_ok {prog : Program} {w : World} {p : Program} {loose : List Str} {mean : ExcName → Option Value} {mg mb : Str → Option Value} (C4 : C_fromjd prog w (hd.heap_39 w.params) p loose mean mg mb) (C5 : C_eqx prog w (hd.heap_39 w.params) p loose mean mg mb) : C_lasteq prog w (hd.heap_39 w.params) p loose mean mg mb := by
  have hmk : Mark PySem.Challenge.rw_ad5024_01 hd.heap_39 := by (k_fill; exact trivial)
  unfold C_lasteq Gives0
  intro x n g t p1 p2 p3 p0 dp un gd cn cs a ccd cl outer A₀ base h₀ L m news s Q E' B F X N T hk hd' hu hret
  have gb := E_bt (g := g) (by omega)
  have gn := E_next g
  have gl := lpI_b (g + 1)
  obtain ⟨k, hk1, hk2⟩ := half_back p1 (by omega)
  refine wpAny_call ?_
  k_dflt cell_enter
  k_steps
  all_goals (refine' ret_float (Q := Q) hret ?rF ?rN ?rS ?rE; (case rF => k_asm); (case rN => k_asm); (case rS => kcj_all); (case rE => (clear hret; omega)))
end
section
local macro_rules | `(tactic| walk_at "zz10") => `(tactic| skip)
local macro_rules | `(tactic| walk_at "zz9") => `(tactic| skip)
local macro_rules | `(tactic| walk_at "zz8") => `(tactic| skip)
local macro_rules | `(tactic| walk_at "zz7") => `(tactic| skip)
local macro_rules | `(tactic| walk_at "zz6") => `(tactic| skip)
local macro_rules | `(tactic| walk_at "binaryOp Add float float") => `(tactic| (k_here; refine' r_add_ff ?ex ?ey ?ha ?hb ?_; (case ex => first | with_reducible exact rfl | with_reducible exact lit_epg | with_reducible exact lit_epp | with_reducible exact lit_half); (case ey => first | with_reducible exact rfl | with_reducible exact lit_epg | with_reducible exact lit_epp | with_reducible exact lit_half); (case ha => omega); (case hb => omega); intro c hc))
local macro_rules | `(tactic| walk_at "binaryOp Sub float float") => `(tactic| (k_here; first
  | (refine' r_sub_ff ?ex ?ey ?ha ?hb ?_; (case ex => first | with_reducible exact rfl | with_reducible exact lit_epg | with_reducible exact lit_epp | with_reducible exact lit_half); (case ey => first | with_reducible exact rfl | with_reducible exact lit_epg | with_reducible exact lit_epp | with_reducible exact lit_half); (case ha => omega); (case hb => omega); intro c hc)
  | (refine' r_sub_xf ?ey ?_; (case ey => first | with_reducible exact rfl | with_reducible exact lit_half); (try dsimp only))))
local macro_rules | `(tactic| walk_at "binaryOp Add float int") => `(tactic| (k_here; first
  | (refine' r_add_fi ?ex ?ha ?hn ?_; (case ex => first | with_reducible exact rfl | with_reducible exact lit_epg | with_reducible exact lit_epp); (case ha => omega); (case hn => omega); intro c hc)
  | (refine' r_add_xi ?hn ?_; (case hn => omega); (try dsimp only))))
local macro_rules | `(tactic| walk_at "binaryOp Add int float") => `(tactic| (k_here; refine' r_add_if ?ex ?ha ?hn ?_; (case ex => first | with_reducible exact rfl | with_reducible exact lit_half); (case ha => omega); (case hn => omega); intro c hc))
local macro_rules | `(tactic| walk_at "binaryOp Sub float int") => `(tactic| (k_here; refine' r_sub_fi ?ex ?ha ?hn ?_; (case ex => first | with_reducible exact rfl | with_reducible exact lit_epg | with_reducible exact lit_epp); (case ha => omega); (case hn => omega); intro c hc))
local macro_rules | `(tactic| walk_at "inplaceOp Add float int") => `(tactic| (k_here; refine' r_iadd_fi ?ex ?ha ?hn ?_; (case ex => with_reducible exact rfl); (case ha => omega); (case hn => omega); intro c hc))
local macro_rules | `(tactic| walk_at "inplaceOp Sub float int") => `(tactic| (k_here; refine' r_isub_fi ?ex ?ha ?hn ?_; (case ex => with_reducible exact rfl); (case ha => omega); (case hn => omega); intro c hc))
local macro_rules | `(tactic| walk_at "binaryOp Mult float int") => `(tactic| (k_here; first
  | (refine' r_mul_fi ?ex ?ha ?hd0 ?hd ?_; (case ex => with_reducible exact rfl); (case ha => omega); (case hd0 => omega); (case hd => omega); intro c hc)
  | (refine' r_mul_xi ?hn ?_; (case hn => omega); (try dsimp only))))
local macro_rules | `(tactic| walk_at "binaryOp Div float int") => `(tactic| (k_here; refine' r_div_fi ?ex ?hd0 ?hd ?_; (case ex => with_reducible exact rfl); (case hd0 => omega); (case hd => omega); (try dsimp only)))
local macro_rules | `(tactic| walk_at "binaryOp Div float float") => `(tactic| (k_here; refine' r_div_ty ?ex ?_; (case ex => with_reducible exact rfl); (try dsimp only)))
local macro_rules | `(tactic| walk_at "binaryOp Div int int") => `(tactic| (k_here; refine' r_div_ii ?hd0 ?hn ?_; (case hd0 => omega); (case hn => omega); (try dsimp only)))
local macro_rules | `(tactic| walk_at "binaryOp Mod float int") => `(tactic| (k_here; refine' r_mod_fi ?ex ?ha ?hd0 ?hd ?_; (case ex => with_reducible exact rfl); (case ha => omega); (case hd0 => omega); (case hd => omega); intro c hc))
local macro_rules | `(tactic| walk_at "binaryOp FloorDiv float int") => `(tactic| (k_here; refine' r_fdiv_fi ?ex ?ha ?ho ?hd ?_; (case ex => with_reducible exact rfl); (case ha => omega); (case ho => omega); (case hd => exact rfl); intro c hc))
local macro_rules | `(tactic| walk_at "compareOp Lt float int") => `(tactic| (k_here; refine' r_lt_fi ?ex ?ha ?hv ?_; (case ex => with_reducible exact rfl); (case ha => omega); (case hv => first | exact decide_eq_true (by omega) | exact decide_eq_false (by omega) | exact rfl); (try dsimp only)))
local macro_rules | `(tactic| walk_at "compareOp LtE float int") => `(tactic| (k_here; refine' r_le_fi ?ex ?ha ?hv ?_; (case ex => with_reducible exact rfl); (case ha => omega); (case hv => first | exact decide_eq_true (by omega) | exact decide_eq_false (by omega) | exact rfl); (try dsimp only)))
local macro_rules | `(tactic| walk_at "compareOp Gt float int") => `(tactic| (k_here; refine' r_gt_fi ?ex ?ha ?hv ?_; (case ex => with_reducible exact rfl); (case ha => omega); (case hv => first | exact decide_eq_true (by omega) | exact decide_eq_false (by omega) | exact rfl); (try dsimp only)))
local macro_rules | `(tactic| walk_at "compareOp Lt float float") => `(tactic| (k_here; first
  | (refine' r_lt_ff ?ex ?ey ?ha ?hb ?hv ?_; (case ex => with_reducible exact rfl); (case ey => with_reducible exact rfl); (case ha => omega); (case hb => omega); (case hv => first | exact decide_eq_true (by omega) | exact decide_eq_false (by omega) | exact rfl); (try dsimp only))
  | (refine' r_lt_xe ?hx ?ey ?ha ?he ?hv ?_; (case hx => with_reducible assumption); (case ey => with_reducible exact rfl); (case ha => omega); (case he => omega); (case hv => first | exact decide_eq_true (by omega) | exact decide_eq_false (by omega) | exact rfl); (try dsimp only))))
local macro_rules | `(tactic| walk_at "compareOp LtE float float") => `(tactic| (k_here; first
  | (refine' r_le_ff ?ex ?ey ?ha ?hb ?hv ?_; (case ex => with_reducible exact rfl); (case ey => with_reducible exact rfl); (case ha => omega); (case hb => omega); (case hv => first | exact decide_eq_true (by omega) | exact decide_eq_false (by omega) | exact rfl); (try dsimp only))
  | (refine' r_le_ex ?ex ?hy ?ha ?he ?hv ?_; (case ex => with_reducible exact rfl); (case hy => with_reducible assumption); (case ha => omega); (case he => omega); (case hv => first | exact decide_eq_true (by omega) | exact decide_eq_false (by omega) | exact rfl); (try dsimp only))))
local macro_rules | `(tactic| walk_at "compareOp Gt float float") => `(tactic| (k_here; refine' r_gt_ex ?ex ?hy ?ha ?he ?hv ?_; (case ex => with_reducible exact rfl); (case hy => with_reducible assumption); (case ha => omega); (case he => omega); (case hv => first | exact decide_eq_true (by omega) | exact decide_eq_false (by omega) | exact rfl); (try dsimp only)))
local macro_rules | `(tactic| walk_at "compareOp NotEq float float") => `(tactic| (k_here; refine' r_ne_ff ?ex ?ey ?ha ?hb ?hv ?_; (case ex => with_reducible exact rfl); (case ey => with_reducible exact rfl); (case ha => omega); (case hb => omega); (case hv => first | exact decide_eq_true (by omega) | exact decide_eq_false (by omega) | exact rfl); (try dsimp only)))
local macro_rules | `(tactic| walk_at "call builtin:math.floor") => `(tactic| (k_here; first
  | (with_reducible refine' r_floor_div ?ha ?hd0 ?hd ?_; (case ha => omega); (case hd0 => omega); (case hd => omega); intro c hc)
  | (with_reducible refine' r_floor_qi ?ha ?hd0 ?hd ?_; (case ha => omega); (case hd0 => omega); (case hd => omega); intro c hc)
  | (with_reducible refine' r_floor_sum ?ha ?hi ?hj ?_; (case ha => omega); (case hi => omega); (case hj => omega); intro c hc)
  | (with_reducible refine' r_floor ?hx ?_; (case hx => with_reducible assumption); (try dsimp only))))
local macro_rules | `(tactic| walk_at "call builtin:math.ceil") => `(tactic| (k_here; with_reducible refine' r_ceil_div ?ha ?hd0 ?hd ?_; (case ha => omega); (case hd0 => omega); (case hd => omega); intro c hc))
local macro_rules | `(tactic| walk_at "call builtin:round") => `(tactic| (k_here; with_reducible refine' r_round ?hx ?_; (case hx => first | with_reducible assumption | exact Rd_ty' (by with_reducible assumption) (by with_reducible assumption) (by omega)); (try dsimp only)))
local macro_rules | `(tactic| walk_at "call type:int") => `(tactic| (k_here; refine' r_int ?ex ?ha ?he ?_; (case ex => with_reducible exact rfl); (case ha => omega); (case he => omega); intro c hc))
local macro_rules | `(tactic| walk_at "binaryOp Mod int int") => `(tactic| (k_here; refine' r_mod_ii ?hd0 ?_; (case hd0 => omega); (try dsimp only)))
local macro_rules | `(tactic| walk_at "compareOp In int ref") => `(tactic| (k_here; k_dflt (refine' r_in_tup ?F ?X ?hl ?hi ?hp ?_; (case F => k_asm); (case X => k_asm); (case hl => k_is); (case hi => first | exact ia_a | exact ia_b | exact ia_c); (case hp => first | exact any_a | exact any_b | exact any_c); (try dsimp only))))
local macro_rules | `(tactic| walk_at "compareOp Lt int int") => `(tactic| (k_here; refine' r_lt_ii ?hv ?_; (case hv => first | exact decide_eq_true (by omega) | exact decide_eq_false (by omega) | exact rfl); (try dsimp only)))
local macro_rules | `(tactic| walk_at "compareOp LtE int int") => `(tactic| (k_here; refine' r_le_ii ?hv ?_; (case hv => first | exact decide_eq_true (by omega) | exact decide_eq_false (by omega) | exact rfl); (try dsimp only)))
local macro_rules | `(tactic| walk_at "compareOp Gt int int") => `(tactic| (k_here; refine' r_gt_ii ?hv ?_; (case hv => first | exact decide_eq_true (by omega) | exact decide_eq_false (by omega) | exact rfl); (try dsimp only)))
local macro_rules | `(tactic| walk_at "compareOp GtE int int") => `(tactic| (k_here; refine' r_ge_ii ?hv ?_; (case hv => first | exact decide_eq_true (by omega) | exact decide_eq_false (by omega) | exact rfl); (try dsimp only)))
local macro_rules | `(tactic| walk_at "compareOp Eq int int") => `(tactic| (k_here; refine' r_eq_ii ?hv ?_; (case hv => first | exact decide_eq_true (by omega) | exact decide_eq_false (by omega) | exact rfl); (try dsimp only)))
local macro_rules | `(tactic| walk_at "compareOp NotEq int int") => `(tactic| (k_here; refine' r_ne_ii ?hv ?_; (case hv => first | exact decide_eq_true (by omega) | exact decide_eq_false (by omega) | exact rfl); (try dsimp only)))
local macro_rules | `(tactic| walk_at "binaryOp Add int bool") => `(tactic| (k_here; first | (with_reducible refine' r_add_it ?_; intro c hc) | (with_reducible refine' r_add_if' ?_; intro c hc)))
local macro_rules | `(tactic| walk_at "binaryOp Sub int bool") => `(tactic| (k_here; first | (with_reducible refine' r_sub_it ?_; intro c hc) | (with_reducible refine' r_sub_if' ?_; intro c hc)))
local macro_rules | `(tactic| walk_at "ite") => `(tactic| (k_here; first | with_reducible refine ite_tt ?_ | with_reducible refine ite_ff ?_))
local macro_rules | `(tactic| walk_at "call ref") => `(tactic| (k_here; k_dflt (refine' use_lasteq ?kC ?k1 ?k2 ?k3 ?k4 ?k5 ?k6 ?k7 ?k8 ?p1 ?p2 ?p3 ?p0 ?_; (case kC => with_reducible assumption); (case k1 => k_asm); (case k2 => k_asm); (case k3 => k_asm); (case k4 => k_asm); (case k5 => k_asm); (case k6 => first | exact rfl | with_reducible assumption); (case k7 => ktr_room); (case k8 => ktr_units); (case p1 => first | with_reducible assumption | exact Fl_g1 (by with_reducible assumption) (by with_reducible assumption) | exact Fl_hfo' (by with_reducible assumption) (by omega) | exact Fl_hfo (by omega) | exact Fl_part (by omega) (by omega) (by omega)); (case p2 => first | with_reducible assumption | omega); (case p3 => first | with_reducible assumption | omega); (case p0 => omega); k_whole; intro c9 t9 h9 tk9 hc9 F9 N9; (try dsimp only); (try k_fold))))
set_option maxHeartbeats 8000000 in
theorem pyear_ok {prog : Program} {w : World} {p : Program} {loose : List Str} {mean : ExcName → Option Value} {mg mb : Str → Option Value} (C6 : C_lasteq prog w (hd.heap_39 w.params) p loose mean mg mb) : C_pyear prog w (hd.heap_39 w.params) p loose mean mg mb := by
  have hmk : Mark PySem.Challenge.rw_ad5024_01 hd.heap_39 := by (k_fill; exact trivial)
  unfold C_pyear GivesIF
  intro x n g t p1 p2 p3 p0 dp un gd cn cs a ccd cl outer A₀ base h₀ L m news s Q E' B F X N T hk hd' hu hret
  have gb := E_bt (g := g) (by omega)
  refine wpAny_call ?_
  k_dflt cell_enter
  k_steps
  all_goals (refine' ret_if (Q := Q) hret ?rF ?rN ?rD ?rS ?rL ?rE ?rG; (case rF => k_asm); (case rN => k_asm); (case rD => k_mem); (case rS => kcj_all); (case rL => kcu_lt); (case rE => (clear hret; omega)); (case rG => (clear hret; omega)))
end
section
local macro_rules | `(tactic| walk_at "zz12") => `(tactic| skip)
local macro_rules | `(tactic| walk_at "zz11") => `(tactic| skip)
local macro_rules | `(tactic| walk_at "binaryOp Add float float") => `(tactic| (k_here; refine' r_add_ff ?ex ?ey ?ha ?hb ?_; (case ex => first | with_reducible exact rfl | with_reducible exact lit_epg | with_reducible exact lit_epp | with_reducible exact lit_half); (case ey => first | with_reducible exact rfl | with_reducible exact lit_epg | with_reducible exact lit_epp | with_reducible exact lit_half); (case ha => omega); (case hb => omega); intro c hc))
local macro_rules | `(tactic| walk_at "binaryOp Sub float float") => `(tactic| (k_here; first
  | (refine' r_sub_ff ?ex ?ey ?ha ?hb ?_; (case ex => first | with_reducible exact rfl | with_reducible exact lit_epg | with_reducible exact lit_epp | with_reducible exact lit_half); (case ey => first | with_reducible exact rfl | with_reducible exact lit_epg | with_reducible exact lit_epp | with_reducible exact lit_half); (case ha => omega); (case hb => omega); intro c hc)
  | (refine' r_sub_xf ?ey ?_; (case ey => first | with_reducible exact rfl | with_reducible exact lit_half); (try dsimp only))))
local macro_rules | `(tactic| walk_at "binaryOp Add float int") => `(tactic| (k_here; first
  | (refine' r_add_fi ?ex ?ha ?hn ?_; (case ex => first | with_reducible exact rfl | with_reducible exact lit_epg | with_reducible exact lit_epp); (case ha => omega); (case hn => omega); intro c hc)
  | (refine' r_add_xi ?hn ?_; (case hn => omega); (try dsimp only))))
local macro_rules | `(tactic| walk_at "binaryOp Add int float") => `(tactic| (k_here; refine' r_add_if ?ex ?ha ?hn ?_; (case ex => first | with_reducible exact rfl | with_reducible exact lit_half); (case ha => omega); (case hn => omega); intro c hc))
local macro_rules | `(tactic| walk_at "binaryOp Sub float int") => `(tactic| (k_here; refine' r_sub_fi ?ex ?ha ?hn ?_; (case ex => first | with_reducible exact rfl | with_reducible exact lit_epg | with_reducible exact lit_epp); (case ha => omega); (case hn => omega); intro c hc))
local macro_rules | `(tactic| walk_at "inplaceOp Add float int") => `(tactic| (k_here; refine' r_iadd_fi ?ex ?ha ?hn ?_; (case ex => with_reducible exact rfl); (case ha => omega); (case hn => omega); intro c hc))
local macro_rules | `(tactic| walk_at "inplaceOp Sub float int") => `(tactic| (k_here; refine' r_isub_fi ?ex ?ha ?hn ?_; (case ex => with_reducible exact rfl); (case ha => omega); (case hn => omega); intro c hc))
local macro_rules | `(tactic| walk_at "binaryOp Mult float int") => `(tactic| (k_here; first
  | (refine' r_mul_fi ?ex ?ha ?hd0 ?hd ?_; (case ex => with_reducible exact rfl); (case ha => omega); (case hd0 => omega); (case hd => omega); intro c hc)
  | (refine' r_mul_xi ?hn ?_; (case hn => omega); (try dsimp only))))
local macro_rules | `(tactic| walk_at "binaryOp Div float int") => `(tactic| (k_here; refine' r_div_fi ?ex ?hd0 ?hd ?_; (case ex => with_reducible exact rfl); (case hd0 => omega); (case hd => omega); (try dsimp only)))
local macro_rules | `(tactic| walk_at "binaryOp Div float float") => `(tactic| (k_here; refine' r_div_ty ?ex ?_; (case ex => with_reducible exact rfl); (try dsimp only)))
local macro_rules | `(tactic| walk_at "binaryOp Div int int") => `(tactic| (k_here; refine' r_div_ii ?hd0 ?hn ?_; (case hd0 => omega); (case hn => omega); (try dsimp only)))
local macro_rules | `(tactic| walk_at "binaryOp Mod float int") => `(tactic| (k_here; refine' r_mod_fi ?ex ?ha ?hd0 ?hd ?_; (case ex => with_reducible exact rfl); (case ha => omega); (case hd0 => omega); (case hd => omega); intro c hc))
local macro_rules | `(tactic| walk_at "binaryOp FloorDiv float int") => `(tactic| (k_here; refine' r_fdiv_fi ?ex ?ha ?ho ?hd ?_; (case ex => with_reducible exact rfl); (case ha => omega); (case ho => omega); (case hd => exact rfl); intro c hc))
local macro_rules | `(tactic| walk_at "compareOp Lt float int") => `(tactic| (k_here; refine' r_lt_fi ?ex ?ha ?hv ?_; (case ex => with_reducible exact rfl); (case ha => omega); (case hv => first | exact decide_eq_true (by omega) | exact decide_eq_false (by omega) | exact rfl); (try dsimp only)))
local macro_rules | `(tactic| walk_at "compareOp LtE float int") => `(tactic| (k_here; refine' r_le_fi ?ex ?ha ?hv ?_; (case ex => with_reducible exact rfl); (case ha => omega); (case hv => first | exact decide_eq_true (by omega) | exact decide_eq_false (by omega) | exact rfl); (try dsimp only)))
local macro_rules | `(tactic| walk_at "compareOp Gt float int") => `(tactic| (k_here; refine' r_gt_fi ?ex ?ha ?hv ?_; (case ex => with_reducible exact rfl); (case ha => omega); (case hv => first | exact decide_eq_true (by omega) | exact decide_eq_false (by omega) | exact rfl); (try dsimp only)))
local macro_rules | `(tactic| walk_at "compareOp Lt float float") => `(tactic| (k_here; first
  | (refine' r_lt_ff ?ex ?ey ?ha ?hb ?hv ?_; (case ex => with_reducible exact rfl); (case ey => with_reducible exact rfl); (case ha => omega); (case hb => omega); (case hv => first | exact decide_eq_true (by omega) | exact decide_eq_false (by omega) | exact rfl); (try dsimp only))
  | (refine' r_lt_xe ?hx ?ey ?ha ?he ?hv ?_; (case hx => with_reducible assumption); (case ey => with_reducible exact rfl); (case ha => omega); (case he => omega); (case hv => first | exact decide_eq_true (by omega) | exact decide_eq_false (by omega) | exact rfl); (try dsimp only))))
local macro_rules | `(tactic| walk_at "compareOp LtE float float") => `(tactic| (k_here; first
  | (refine' r_le_ff ?ex ?ey ?ha ?hb ?hv ?_; (case ex => with_reducible exact rfl); (case ey => with_reducible exact rfl); (case ha => omega); (case hb => omega); (case hv => first | exact decide_eq_true (by omega) | exact decide_eq_false (by omega) | exact rfl); (try dsimp only))
  | (refine' r_le_ex ?ex ?hy ?ha ?he ?hv ?_; (case ex => with_reducible exact rfl); (case hy => with_reducible assumption); (case ha => omega); (case he => omega); (case hv => first | exact decide_eq_true (by omega) | exact decide_eq_false (by omega) | exact rfl); (try dsimp only))))
local macro_rules | `(tactic| walk_at "compareOp Gt float float") => `(tactic| (k_here; refine' r_gt_ex ?ex ?hy ?ha ?he ?hv ?_; (case ex => with_reducible exact rfl); (case hy => with_reducible assumption); (case ha => omega); (case he => omega); (case hv => first | exact decide_eq_true (by omega) | exact decide_eq_false (by omega) | exact rfl); (try dsimp only)))
local macro_rules | `(tactic| walk_at "compareOp NotEq float float") => `(tactic| (k_here; refine' r_ne_ff ?ex ?ey ?ha ?hb ?hv ?_; (case ex => with_reducible exact rfl); (case ey => with_reducible exact rfl); (case ha => omega); (case hb => omega); (case hv => first | exact decide_eq_true (by omega) | exact decide_eq_false (by omega) | exact rfl); (try dsimp only)))
local macro_rules | `(tactic| walk_at "call builtin:math.floor") => `(tactic| (k_here; first
  | (with_reducible refine' r_floor_div ?ha ?hd0 ?hd ?_; (case ha => omega); (case hd0 => omega); (case hd => omega); intro c hc)
  | (with_reducible refine' r_floor_qi ?ha ?hd0 ?hd ?_; (case ha => omega); (case hd0 => omega); (case hd => omega); intro c hc)
  | (with_reducible refine' r_floor_sum ?ha ?hi ?hj ?_; (case ha => omega); (case hi => omega); (case hj => omega); intro c hc)
  | (with_reducible refine' r_floor ?hx ?_; (case hx => with_reducible assumption); (try dsimp only))))
local macro_rules | `(tactic| walk_at "call builtin:math.ceil") => `(tactic| (k_here; with_reducible refine' r_ceil_div ?ha ?hd0 ?hd ?_; (case ha => omega); (case hd0 => omega); (case hd => omega); intro c hc))
local macro_rules | `(tactic| walk_at "call builtin:round") => `(tactic| (k_here; with_reducible refine' r_round ?hx ?_; (case hx => first | with_reducible assumption | exact Rd_ty' (by with_reducible assumption) (by with_reducible assumption) (by omega)); (try dsimp only)))
local macro_rules | `(tactic| walk_at "call type:int") => `(tactic| (k_here; refine' r_int ?ex ?ha ?he ?_; (case ex => with_reducible exact rfl); (case ha => omega); (case he => omega); intro c hc))
local macro_rules | `(tactic| walk_at "binaryOp Mod int int") => `(tactic| (k_here; refine' r_mod_ii ?hd0 ?_; (case hd0 => omega); (try dsimp only)))
local macro_rules | `(tactic| walk_at "compareOp In int ref") => `(tactic| (k_here; k_dflt (refine' r_in_tup ?F ?X ?hl ?hi ?hp ?_; (case F => k_asm); (case X => k_asm); (case hl => k_is); (case hi => first | exact ia_a | exact ia_b | exact ia_c); (case hp => first | exact any_a | exact any_b | exact any_c); (try dsimp only))))
local macro_rules | `(tactic| walk_at "compareOp Lt int int") => `(tactic| (k_here; refine' r_lt_ii ?hv ?_; (case hv => first | exact decide_eq_true (by omega) | exact decide_eq_false (by omega) | exact rfl); (try dsimp only)))
local macro_rules | `(tactic| walk_at "compareOp LtE int int") => `(tactic| (k_here; refine' r_le_ii ?hv ?_; (case hv => first | exact decide_eq_true (by omega) | exact decide_eq_false (by omega) | exact rfl); (try dsimp only)))
local macro_rules | `(tactic| walk_at "compareOp Gt int int") => `(tactic| (k_here; refine' r_gt_ii ?hv ?_; (case hv => first | exact decide_eq_true (by omega) | exact decide_eq_false (by omega) | exact rfl); (try dsimp only)))
local macro_rules | `(tactic| walk_at "compareOp GtE int int") => `(tactic| (k_here; refine' r_ge_ii ?hv ?_; (case hv => first | exact decide_eq_true (by omega) | exact decide_eq_false (by omega) | exact rfl); (try dsimp only)))
local macro_rules | `(tactic| walk_at "compareOp Eq int int") => `(tactic| (k_here; refine' r_eq_ii ?hv ?_; (case hv => first | exact decide_eq_true (by omega) | exact decide_eq_false (by omega) | exact rfl); (try dsimp only)))
local macro_rules | `(tactic| walk_at "compareOp NotEq int int") => `(tactic| (k_here; refine' r_ne_ii ?hv ?_; (case hv => first | exact decide_eq_true (by omega) | exact decide_eq_false (by omega) | exact rfl); (try dsimp only)))
local macro_rules | `(tactic| walk_at "binaryOp Add int bool") => `(tactic| (k_here; first | (with_reducible refine' r_add_it ?_; intro c hc) | (with_reducible refine' r_add_if' ?_; intro c hc)))
local macro_rules | `(tactic| walk_at "binaryOp Sub int bool") => `(tactic| (k_here; first | (with_reducible refine' r_sub_it ?_; intro c hc) | (with_reducible refine' r_sub_if' ?_; intro c hc)))
local macro_rules | `(tactic| walk_at "ite") => `(tactic| (k_here; first | with_reducible refine ite_tt ?_ | with_reducible refine ite_ff ?_))
local macro_rules | `(tactic| walk_at "exec While Compare cons nil") => `(tactic| (k_here; k_dflt (refine whl_start 100 ?_)))
local macro_rules | `(tactic| walk_at "exec While Compare") => `(tactic| (k_here; k_dflt (refine whl_start 100 ?_)))
local macro_rules | `(tactic| walk_at "exec While") => `(tactic| (k_here; k_dflt (refine whl_start 100 ?_)))
local macro_rules | `(tactic| walk_at "call ref") => `(tactic| (k_here; k_dflt (refine' use_pyear ?kC ?k1 ?k2 ?k3 ?k4 ?k5 ?k6 ?k7 ?k8 ?p1 ?p2 ?p3 ?p0 ?_; (case kC => with_reducible assumption); (case k1 => k_asm); (case k2 => k_asm); (case k3 => k_asm); (case k4 => k_asm); (case k5 => k_asm); (case k6 => first | exact rfl | with_reducible assumption); (case k7 => ktr_room); (case k8 => ktr_units); (case p1 => first | with_reducible assumption | exact Fl_g1 (by with_reducible assumption) (by with_reducible assumption) | exact Fl_hfo' (by with_reducible assumption) (by omega) | exact Fl_hfo (by omega) | exact Fl_part (by omega) (by omega) (by omega)); (case p2 => first | with_reducible assumption | omega); (case p3 => first | with_reducible assumption | omega); (case p0 => omega); k_whole; intro y9 b9 D9 t91 t92 c9 h9 tk9 hc9 hd9 F9 N9 L9; (try simp only [AllLt, and_true] at L9); (try dsimp only); (try k_fold))))
local macro_rules | `(tactic| walk_at "call ref") => `(tactic| (k_here; k_dflt (refine' use_pyear_2 ?kC ?k1 ?k2 ?k3 ?k4 ?k5 ?k6 ?k7 ?k8 ?p1 ?p0 ?_; (case kC => with_reducible assumption); (case k1 => k_asm); (case k2 => k_asm); (case k3 => k_asm); (case k4 => k_asm); (case k5 => k_asm); (case k6 => first | exact rfl | with_reducible assumption); (case k7 => ktr_room); (case k8 => ktr_units); (case p1 => with_reducible assumption); (case p0 => omega); k_whole; intro y9 b9 D9 t91 t92 c9 h9 tk9 hc9 hd9 F9 N9 L9; (try simp only [AllLt, and_true] at L9); (try dsimp only); (try k_fold))))
set_option maxHeartbeats 8000000 in
theorem tojdP_ok {prog : Program} {w : World} {p : Program} {loose : List Str} {mean : ExcName → Option Value} {mg mb : Str → Option Value} (C7 : C_pyear prog w (hd.heap_39 w.params) p loose mean mg mb) : C_tojdP prog w (hd.heap_39 w.params) p loose mean mg mb := by
  have hmk : Mark PySem.Challenge.rw_ad5024_01 hd.heap_39 := by (k_fill; exact trivial)
  unfold C_tojdP Gives0
  intro y mo d t1 t2 t3 p0 p1 p2 p3 p4 dp un gd cn cs a ccd cl outer A₀ base h₀ L m news s Q E' B F X N T hk hd' hu hret
  have e1 : E (y + 619 + 1) = E (y + 620) := congrArg E (by omega)
  have e2 : E (y + 619 + 1 + 1) = E (y + 621) := congrArg E (by omega)
  have e3 : E (y + 620 + 1) = E (y + 621) := congrArg E (by omega)
  have b1 := E_bt (g := y + 619) (by omega)
  have b2 := E_bt (g := y + 620) (by omega)
  have b3 := E_bt (g := y + 621) (by omega)
  obtain ⟨n, hn1, hn2, hn3⟩ := guess1 (k := y - 1 - 1) (g := y + 620) (by omega) (by omega)
  have hn2' : E (y + 619) ≤ n := by rw [show y + 619 = y + 620 - 1 by omega]; exact hn2
  clear hn2
  refine wpAny_call ?_
  k_dflt cell_enter
  by_cases hs : n < E (y + 620)
  · have hs1 : n < E (y + 619 + 1) := by rw [e1]; exact hs
    clear hn3
    k_steps
    all_goals (refine' ret_float (Q := Q) hret ?rF ?rN ?rS ?rE; (case rF => k_asm); (case rN => k_asm); (case rS => kcj_all); (case rE => (clear hret; unfold pJ; split <;> omega)))
  · have hs1 : E (y + 620) ≤ n := by omega
    clear hn2'
    k_steps
    all_goals (refine' ret_float (Q := Q) hret ?rF ?rN ?rS ?rE; (case rF => k_asm); (case rN => k_asm); (case rS => kcj_all); (case rE => (clear hret; unfold pJ; split <;> omega)))
end
section
local macro_rules | `(tactic| walk_at "zz19") => `(tactic| skip)
local macro_rules | `(tactic| walk_at "zz18") => `(tactic| skip)
local macro_rules | `(tactic| walk_at "zz17") => `(tactic| skip)
local macro_rules | `(tactic| walk_at "zz16") => `(tactic| skip)
local macro_rules | `(tactic| walk_at "zz15") => `(tactic| skip)
local macro_rules | `(tactic| walk_at "zz14") => `(tactic| skip)
local macro_rules | `(tactic| walk_at "zz13") => `(tactic| skip)
local macro_rules | `(tactic| walk_at "binaryOp Add float float") => `(tactic| (k_here; refine' r_add_ff ?ex ?ey ?ha ?hb ?_; (case ex => first | with_reducible exact rfl | with_reducible exact lit_epg | with_reducible exact lit_epp | with_reducible exact lit_half); (case ey => first | with_reducible exact rfl | with_reducible exact lit_epg | with_reducible exact lit_epp | with_reducible exact lit_half); (case ha => omega); (case hb => omega); intro c hc))
local macro_rules | `(tactic| walk_at "binaryOp Sub float float") => `(tactic| (k_here; first
  | (refine' r_sub_ff ?ex ?ey ?ha ?hb ?_; (case ex => first | with_reducible exact rfl | with_reducible exact lit_epg | with_reducible exact lit_epp | with_reducible exact lit_half); (case ey => first | with_reducible exact rfl | with_reducible exact lit_epg | with_reducible exact lit_epp | with_reducible exact lit_half); (case ha => omega); (case hb => omega); intro c hc)
  | (refine' r_sub_xf ?ey ?_; (case ey => first | with_reducible exact rfl | with_reducible exact lit_half); (try dsimp only))))
local macro_rules | `(tactic| walk_at "binaryOp Add float int") => `(tactic| (k_here; first
  | (refine' r_add_fi ?ex ?ha ?hn ?_; (case ex => first | with_reducible exact rfl | with_reducible exact lit_epg | with_reducible exact lit_epp); (case ha => omega); (case hn => omega); intro c hc)
  | (refine' r_add_xi ?hn ?_; (case hn => omega); (try dsimp only))))
local macro_rules | `(tactic| walk_at "binaryOp Add int float") => `(tactic| (k_here; refine' r_add_if ?ex ?ha ?hn ?_; (case ex => first | with_reducible exact rfl | with_reducible exact lit_half); (case ha => omega); (case hn => omega); intro c hc))
local macro_rules | `(tactic| walk_at "binaryOp Sub float int") => `(tactic| (k_here; refine' r_sub_fi ?ex ?ha ?hn ?_; (case ex => first | with_reducible exact rfl | with_reducible exact lit_epg | with_reducible exact lit_epp); (case ha => omega); (case hn => omega); intro c hc))
local macro_rules | `(tactic| walk_at "inplaceOp Add float int") => `(tactic| (k_here; refine' r_iadd_fi ?ex ?ha ?hn ?_; (case ex => with_reducible exact rfl); (case ha => omega); (case hn => omega); intro c hc))
local macro_rules | `(tactic| walk_at "inplaceOp Sub float int") => `(tactic| (k_here; refine' r_isub_fi ?ex ?ha ?hn ?_; (case ex => with_reducible exact rfl); (case ha => omega); (case hn => omega); intro c hc))
local macro_rules | `(tactic| walk_at "binaryOp Mult float int") => `(tactic| (k_here; first
  | (refine' r_mul_fi ?ex ?ha ?hd0 ?hd ?_; (case ex => with_reducible exact rfl); (case ha => omega); (case hd0 => omega); (case hd => omega); intro c hc)
  | (refine' r_mul_xi ?hn ?_; (case hn => omega); (try dsimp only))))
local macro_rules | `(tactic| walk_at "binaryOp Div float int") => `(tactic| (k_here; refine' r_div_fi ?ex ?hd0 ?hd ?_; (case ex => with_reducible exact rfl); (case hd0 => omega); (case hd => omega); (try dsimp only)))
local macro_rules | `(tactic| walk_at "binaryOp Div float float") => `(tactic| (k_here; refine' r_div_ty ?ex ?_; (case ex => with_reducible exact rfl); (try dsimp only)))
local macro_rules | `(tactic| walk_at "binaryOp Div int int") => `(tactic| (k_here; refine' r_div_ii ?hd0 ?hn ?_; (case hd0 => omega); (case hn => omega); (try dsimp only)))
local macro_rules | `(tactic| walk_at "binaryOp Mod float int") => `(tactic| (k_here; refine' r_mod_fi ?ex ?ha ?hd0 ?hd ?_; (case ex => with_reducible exact rfl); (case ha => omega); (case hd0 => omega); (case hd => omega); intro c hc))
local macro_rules | `(tactic| walk_at "binaryOp FloorDiv float int") => `(tactic| (k_here; refine' r_fdiv_fi ?ex ?ha ?ho ?hd ?_; (case ex => with_reducible exact rfl); (case ha => omega); (case ho => omega); (case hd => exact rfl); intro c hc))
local macro_rules | `(tactic| walk_at "compareOp Lt float int") => `(tactic| (k_here; refine' r_lt_fi ?ex ?ha ?hv ?_; (case ex => with_reducible exact rfl); (case ha => omega); (case hv => first | exact decide_eq_true (by omega) | exact decide_eq_false (by omega) | exact rfl); (try dsimp only)))
local macro_rules | `(tactic| walk_at "compareOp LtE float int") => `(tactic| (k_here; refine' r_le_fi ?ex ?ha ?hv ?_; (case ex => with_reducible exact rfl); (case ha => omega); (case hv => first | exact decide_eq_true (by omega) | exact decide_eq_false (by omega) | exact rfl); (try dsimp only)))
local macro_rules | `(tactic| walk_at "compareOp Gt float int") => `(tactic| (k_here; refine' r_gt_fi ?ex ?ha ?hv ?_; (case ex => with_reducible exact rfl); (case ha => omega); (case hv => first | exact decide_eq_true (by omega) | exact decide_eq_false (by omega) | exact rfl); (try dsimp only)))
local macro_rules | `(tactic| walk_at "compareOp Lt float float") => `(tactic| (k_here; first
  | (refine' r_lt_ff ?ex ?ey ?ha ?hb ?hv ?_; (case ex => with_reducible exact rfl); (case ey => with_reducible exact rfl); (case ha => omega); (case hb => omega); (case hv => first | exact decide_eq_true (by omega) | exact decide_eq_false (by omega) | exact rfl); (try dsimp only))
  | (refine' r_lt_xe ?hx ?ey ?ha ?he ?hv ?_; (case hx => with_reducible assumption); (case ey => with_reducible exact rfl); (case ha => omega); (case he => omega); (case hv => first | exact decide_eq_true (by omega) | exact decide_eq_false (by omega) | exact rfl); (try dsimp only))))
local macro_rules | `(tactic| walk_at "compareOp LtE float float") => `(tactic| (k_here; first
  | (refine' r_le_ff ?ex ?ey ?ha ?hb ?hv ?_; (case ex => with_reducible exact rfl); (case ey => with_reducible exact rfl); (case ha => omega); (case hb => omega); (case hv => first | exact decide_eq_true (by omega) | exact decide_eq_false (by omega) | exact rfl); (try dsimp only))
  | (refine' r_le_ex ?ex ?hy ?ha ?he ?hv ?_; (case ex => with_reducible exact rfl); (case hy => with_reducible assumption); (case ha => omega); (case he => omega); (case hv => first | exact decide_eq_true (by omega) | exact decide_eq_false (by omega) | exact rfl); (try dsimp only))))
local macro_rules | `(tactic| walk_at "compareOp Gt float float") => `(tactic| (k_here; refine' r_gt_ex ?ex ?hy ?ha ?he ?hv ?_; (case ex => with_reducible exact rfl); (case hy => with_reducible assumption); (case ha => omega); (case he => omega); (case hv => first | exact decide_eq_true (by omega) | exact decide_eq_false (by omega) | exact rfl); (try dsimp only)))
local macro_rules | `(tactic| walk_at "compareOp NotEq float float") => `(tactic| (k_here; refine' r_ne_ff ?ex ?ey ?ha ?hb ?hv ?_; (case ex => with_reducible exact rfl); (case ey => with_reducible exact rfl); (case ha => omega); (case hb => omega); (case hv => first | exact decide_eq_true (by omega) | exact decide_eq_false (by omega) | exact rfl); (try dsimp only)))
local macro_rules | `(tactic| walk_at "call builtin:math.floor") => `(tactic| (k_here; first
  | (with_reducible refine' r_floor_div ?ha ?hd0 ?hd ?_; (case ha => omega); (case hd0 => omega); (case hd => omega); intro c hc)
  | (with_reducible refine' r_floor_qi ?ha ?hd0 ?hd ?_; (case ha => omega); (case hd0 => omega); (case hd => omega); intro c hc)
  | (with_reducible refine' r_floor_sum ?ha ?hi ?hj ?_; (case ha => omega); (case hi => omega); (case hj => omega); intro c hc)
  | (with_reducible refine' r_floor ?hx ?_; (case hx => with_reducible assumption); (try dsimp only))))
local macro_rules | `(tactic| walk_at "call builtin:math.ceil") => `(tactic| (k_here; with_reducible refine' r_ceil_div ?ha ?hd0 ?hd ?_; (case ha => omega); (case hd0 => omega); (case hd => omega); intro c hc))
local macro_rules | `(tactic| walk_at "call builtin:round") => `(tactic| (k_here; with_reducible refine' r_round ?hx ?_; (case hx => first | with_reducible assumption | exact Rd_ty' (by with_reducible assumption) (by with_reducible assumption) (by omega)); (try dsimp only)))
local macro_rules | `(tactic| walk_at "call type:int") => `(tactic| (k_here; refine' r_int ?ex ?ha ?he ?_; (case ex => with_reducible exact rfl); (case ha => omega); (case he => omega); intro c hc))
local macro_rules | `(tactic| walk_at "binaryOp Mod int int") => `(tactic| (k_here; refine' r_mod_ii ?hd0 ?_; (case hd0 => omega); (try dsimp only)))
local macro_rules | `(tactic| walk_at "compareOp In int ref") => `(tactic| (k_here; k_dflt (refine' r_in_tup ?F ?X ?hl ?hi ?hp ?_; (case F => k_asm); (case X => k_asm); (case hl => k_is); (case hi => first | exact ia_a | exact ia_b | exact ia_c); (case hp => first | exact any_a | exact any_b | exact any_c); (try dsimp only))))
local macro_rules | `(tactic| walk_at "compareOp Lt int int") => `(tactic| (k_here; refine' r_lt_ii ?hv ?_; (case hv => first | exact decide_eq_true (by omega) | exact decide_eq_false (by omega) | exact rfl); (try dsimp only)))
local macro_rules | `(tactic| walk_at "compareOp LtE int int") => `(tactic| (k_here; refine' r_le_ii ?hv ?_; (case hv => first | exact decide_eq_true (by omega) | exact decide_eq_false (by omega) | exact rfl); (try dsimp only)))
local macro_rules | `(tactic| walk_at "compareOp Gt int int") => `(tactic| (k_here; refine' r_gt_ii ?hv ?_; (case hv => first | exact decide_eq_true (by omega) | exact decide_eq_false (by omega) | exact rfl); (try dsimp only)))
local macro_rules | `(tactic| walk_at "compareOp GtE int int") => `(tactic| (k_here; refine' r_ge_ii ?hv ?_; (case hv => first | exact decide_eq_true (by omega) | exact decide_eq_false (by omega) | exact rfl); (try dsimp only)))
local macro_rules | `(tactic| walk_at "compareOp Eq int int") => `(tactic| (k_here; refine' r_eq_ii ?hv ?_; (case hv => first | exact decide_eq_true (by omega) | exact decide_eq_false (by omega) | exact rfl); (try dsimp only)))
local macro_rules | `(tactic| walk_at "compareOp NotEq int int") => `(tactic| (k_here; refine' r_ne_ii ?hv ?_; (case hv => first | exact decide_eq_true (by omega) | exact decide_eq_false (by omega) | exact rfl); (try dsimp only)))
local macro_rules | `(tactic| walk_at "binaryOp Add int bool") => `(tactic| (k_here; first | (with_reducible refine' r_add_it ?_; intro c hc) | (with_reducible refine' r_add_if' ?_; intro c hc)))
local macro_rules | `(tactic| walk_at "binaryOp Sub int bool") => `(tactic| (k_here; first | (with_reducible refine' r_sub_it ?_; intro c hc) | (with_reducible refine' r_sub_if' ?_; intro c hc)))
local macro_rules | `(tactic| walk_at "ite") => `(tactic| (k_here; first | with_reducible refine ite_tt ?_ | with_reducible refine ite_ff ?_))
local macro_rules | `(tactic| walk_at "call ref") => `(tactic| (k_here; k_dflt (refine' use_lasteq ?kC ?k1 ?k2 ?k3 ?k4 ?k5 ?k6 ?k7 ?k8 ?p1 ?p2 ?p3 ?p0 ?_; (case kC => with_reducible assumption); (case k1 => k_asm); (case k2 => k_asm); (case k3 => k_asm); (case k4 => k_asm); (case k5 => k_asm); (case k6 => first | exact rfl | with_reducible assumption); (case k7 => ktr_room); (case k8 => ktr_units); (case p1 => first | with_reducible assumption | exact Fl_g1 (by with_reducible assumption) (by with_reducible assumption) | exact Fl_hfo' (by with_reducible assumption) (by omega) | exact Fl_hfo (by omega) | exact Fl_part (by omega) (by omega) (by omega)); (case p2 => first | with_reducible assumption | omega); (case p3 => first | with_reducible assumption | omega); (case p0 => omega); k_whole; intro c9 t9 h9 tk9 hc9 F9 N9; (try dsimp only); (try k_fold))))
set_option maxHeartbeats 8000000 in
theorem fromjdP_ok {prog : Program} {w : World} {p : Program} {loose : List Str} {mean : ExcName → Option Value} {mg mb : Str → Option Value} (C6 : C_lasteq prog w (hd.heap_39 w.params) p loose mean mg mb) : C_fromjdP prog w (hd.heap_39 w.params) p loose mean mg mb := by
  have hmk : Mark PySem.Challenge.rw_ad5024_01 hd.heap_39 := by (k_fill; exact trivial)
  unfold C_fromjdP GivesT
  intro x n g t p1 p2 p3 p0 dp un gd cn cs a ccd cl outer A₀ base h₀ L m news s Q E' B F X N T hk hd' hu hret
  have gb := E_bt (g := g) (by omega)
  have gn := E_next g
  have gl := lpI_b (g + 1)
  refine wpAny_call ?_
  k_dflt cell_enter
  k_steps
  all_goals (refine' ret_t3 (Q := Q) hret ?rF ?rN ?rD ?rS ?rL ?rP; (case rF => k_asm); (case rN => k_asm); (case rD => k_mem); (case rS => kcj_all); (case rL => kcu_lt); (case rP => (clear hret; (try dsimp only); refine ⟨?_, ?_, ?_⟩ <;> (first | unfold pMo | unfold pDa | skip) <;> (try split) <;> omega)))
end
section
local macro_rules | `(tactic| walk_at "zz26") => `(tactic| skip)
local macro_rules | `(tactic| walk_at "zz25") => `(tactic| skip)
local macro_rules | `(tactic| walk_at "zz24") => `(tactic| skip)
local macro_rules | `(tactic| walk_at "zz23") => `(tactic| skip)
local macro_rules | `(tactic| walk_at "zz22") => `(tactic| skip)
local macro_rules | `(tactic| walk_at "zz21") => `(tactic| skip)
local macro_rules | `(tactic| walk_at "zz20") => `(tactic| skip)
local macro_rules | `(tactic| walk_at "binaryOp Add float float") => `(tactic| (k_here; refine' r_add_ff ?ex ?ey ?ha ?hb ?_; (case ex => first | with_reducible exact rfl | with_reducible exact lit_epg | with_reducible exact lit_epp | with_reducible exact lit_half); (case ey => first | with_reducible exact rfl | with_reducible exact lit_epg | with_reducible exact lit_epp | with_reducible exact lit_half); (case ha => omega); (case hb => omega); intro c hc))
local macro_rules | `(tactic| walk_at "binaryOp Sub float float") => `(tactic| (k_here; first
  | (refine' r_sub_ff ?ex ?ey ?ha ?hb ?_; (case ex => first | with_reducible exact rfl | with_reducible exact lit_epg | with_reducible exact lit_epp | with_reducible exact lit_half); (case ey => first | with_reducible exact rfl | with_reducible exact lit_epg | with_reducible exact lit_epp | with_reducible exact lit_half); (case ha => omega); (case hb => omega); intro c hc)
  | (refine' r_sub_xf ?ey ?_; (case ey => first | with_reducible exact rfl | with_reducible exact lit_half); (try dsimp only))))
local macro_rules | `(tactic| walk_at "binaryOp Add float int") => `(tactic| (k_here; first
  | (refine' r_add_fi ?ex ?ha ?hn ?_; (case ex => first | with_reducible exact rfl | with_reducible exact lit_epg | with_reducible exact lit_epp); (case ha => omega); (case hn => omega); intro c hc)
  | (refine' r_add_xi ?hn ?_; (case hn => omega); (try dsimp only))))
local macro_rules | `(tactic| walk_at "binaryOp Add int float") => `(tactic| (k_here; refine' r_add_if ?ex ?ha ?hn ?_; (case ex => first | with_reducible exact rfl | with_reducible exact lit_half); (case ha => omega); (case hn => omega); intro c hc))
local macro_rules | `(tactic| walk_at "binaryOp Sub float int") => `(tactic| (k_here; refine' r_sub_fi ?ex ?ha ?hn ?_; (case ex => first | with_reducible exact rfl | with_reducible exact lit_epg | with_reducible exact lit_epp); (case ha => omega); (case hn => omega); intro c hc))
local macro_rules | `(tactic| walk_at "inplaceOp Add float int") => `(tactic| (k_here; refine' r_iadd_fi ?ex ?ha ?hn ?_; (case ex => with_reducible exact rfl); (case ha => omega); (case hn => omega); intro c hc))
local macro_rules | `(tactic| walk_at "inplaceOp Sub float int") => `(tactic| (k_here; refine' r_isub_fi ?ex ?ha ?hn ?_; (case ex => with_reducible exact rfl); (case ha => omega); (case hn => omega); intro c hc))
local macro_rules | `(tactic| walk_at "binaryOp Mult float int") => `(tactic| (k_here; first
  | (refine' r_mul_fi ?ex ?ha ?hd0 ?hd ?_; (case ex => with_reducible exact rfl); (case ha => omega); (case hd0 => omega); (case hd => omega); intro c hc)
  | (refine' r_mul_xi ?hn ?_; (case hn => omega); (try dsimp only))))
local macro_rules | `(tactic| walk_at "binaryOp Div float int") => `(tactic| (k_here; refine' r_div_fi ?ex ?hd0 ?hd ?_; (case ex => with_reducible exact rfl); (case hd0 => omega); (case hd => omega); (try dsimp only)))
local macro_rules | `(tactic| walk_at "binaryOp Div float float") => `(tactic| (k_here; refine' r_div_ty ?ex ?_; (case ex => with_reducible exact rfl); (try dsimp only)))
local macro_rules | `(tactic| walk_at "binaryOp Div int int") => `(tactic| (k_here; refine' r_div_ii ?hd0 ?hn ?_; (case hd0 => omega); (case hn => omega); (try dsimp only)))
local macro_rules | `(tactic| walk_at "binaryOp Mod float int") => `(tactic| (k_here; refine' r_mod_fi ?ex ?ha ?hd0 ?hd ?_; (case ex => with_reducible exact rfl); (case ha => omega); (case hd0 => omega); (case hd => omega); intro c hc))
local macro_rules | `(tactic| walk_at "binaryOp FloorDiv float int") => `(tactic| (k_here; refine' r_fdiv_fi ?ex ?ha ?ho ?hd ?_; (case ex => with_reducible exact rfl); (case ha => omega); (case ho => omega); (case hd => exact rfl); intro c hc))
local macro_rules | `(tactic| walk_at "compareOp Lt float int") => `(tactic| (k_here; refine' r_lt_fi ?ex ?ha ?hv ?_; (case ex => with_reducible exact rfl); (case ha => omega); (case hv => first | exact decide_eq_true (by omega) | exact decide_eq_false (by omega) | exact rfl); (try dsimp only)))
local macro_rules | `(tactic| walk_at "compareOp LtE float int") => `(tactic| (k_here; refine' r_le_fi ?ex ?ha ?hv ?_; (case ex => with_reducible exact rfl); (case ha => omega); (case hv => first | exact decide_eq_true (by omega) | exact decide_eq_false (by omega) | exact rfl); (try dsimp only)))
local macro_rules | `(tactic| walk_at "compareOp Gt float int") => `(tactic| (k_here; refine' r_gt_fi ?ex ?ha ?hv ?_; (case ex => with_reducible exact rfl); (case ha => omega); (case hv => first | exact decide_eq_true (by omega) | exact decide_eq_false (by omega) | exact rfl); (try dsimp only)))
local macro_rules | `(tactic| walk_at "compareOp Lt float float") => `(tactic| (k_here; first
  | (refine' r_lt_ff ?ex ?ey ?ha ?hb ?hv ?_; (case ex => with_reducible exact rfl); (case ey => with_reducible exact rfl); (case ha => omega); (case hb => omega); (case hv => first | exact decide_eq_true (by omega) | exact decide_eq_false (by omega) | exact rfl); (try dsimp only))
  | (refine' r_lt_xe ?hx ?ey ?ha ?he ?hv ?_; (case hx => with_reducible assumption); (case ey => with_reducible exact rfl); (case ha => omega); (case he => omega); (case hv => first | exact decide_eq_true (by omega) | exact decide_eq_false (by omega) | exact rfl); (try dsimp only))))
local macro_rules | `(tactic| walk_at "compareOp LtE float float") => `(tactic| (k_here; first
  | (refine' r_le_ff ?ex ?ey ?ha ?hb ?hv ?_; (case ex => with_reducible exact rfl); (case ey => with_reducible exact rfl); (case ha => omega); (case hb => omega); (case hv => first | exact decide_eq_true (by omega) | exact decide_eq_false (by omega) | exact rfl); (try dsimp only))
  | (refine' r_le_ex ?ex ?hy ?ha ?he ?hv ?_; (case ex => with_reducible exact rfl); (case hy => with_reducible assumption); (case ha => omega); (case he => omega); (case hv => first | exact decide_eq_true (by omega) | exact decide_eq_false (by omega) | exact rfl); (try dsimp only))))
local macro_rules | `(tactic| walk_at "compareOp Gt float float") => `(tactic| (k_here; refine' r_gt_ex ?ex ?hy ?ha ?he ?hv ?_; (case ex => with_reducible exact rfl); (case hy => with_reducible assumption); (case ha => omega); (case he => omega); (case hv => first | exact decide_eq_true (by omega) | exact decide_eq_false (by omega) | exact rfl); (try dsimp only)))
local macro_rules | `(tactic| walk_at "compareOp NotEq float float") => `(tactic| (k_here; refine' r_ne_ff ?ex ?ey ?ha ?hb ?hv ?_; (case ex => with_reducible exact rfl); (case ey => with_reducible exact rfl); (case ha => omega); (case hb => omega); (case hv => first | exact decide_eq_true (by omega) | exact decide_eq_false (by omega) | exact rfl); (try dsimp only)))
local macro_rules | `(tactic| walk_at "call builtin:math.floor") => `(tactic| (k_here; first
  | (with_reducible refine' r_floor_div ?ha ?hd0 ?hd ?_; (case ha => omega); (case hd0 => omega); (case hd => omega); intro c hc)
  | (with_reducible refine' r_floor_qi ?ha ?hd0 ?hd ?_; (case ha => omega); (case hd0 => omega); (case hd => omega); intro c hc)
  | (with_reducible refine' r_floor_sum ?ha ?hi ?hj ?_; (case ha => omega); (case hi => omega); (case hj => omega); intro c hc)
  | (with_reducible refine' r_floor ?hx ?_; (case hx => with_reducible assumption); (try dsimp only))))
local macro_rules | `(tactic| walk_at "call builtin:math.ceil") => `(tactic| (k_here; with_reducible refine' r_ceil_div ?ha ?hd0 ?hd ?_; (case ha => omega); (case hd0 => omega); (case hd => omega); intro c hc))
local macro_rules | `(tactic| walk_at "call builtin:round") => `(tactic| (k_here; with_reducible refine' r_round ?hx ?_; (case hx => first | with_reducible assumption | exact Rd_ty' (by with_reducible assumption) (by with_reducible assumption) (by omega)); (try dsimp only)))
local macro_rules | `(tactic| walk_at "call type:int") => `(tactic| (k_here; refine' r_int ?ex ?ha ?he ?_; (case ex => with_reducible exact rfl); (case ha => omega); (case he => omega); intro c hc))
local macro_rules | `(tactic| walk_at "binaryOp Mod int int") => `(tactic| (k_here; refine' r_mod_ii ?hd0 ?_; (case hd0 => omega); (try dsimp only)))
local macro_rules | `(tactic| walk_at "compareOp In int ref") => `(tactic| (k_here; k_dflt (refine' r_in_tup ?F ?X ?hl ?hi ?hp ?_; (case F => k_asm); (case X => k_asm); (case hl => k_is); (case hi => first | exact ia_a | exact ia_b | exact ia_c); (case hp => first | exact any_a | exact any_b | exact any_c); (try dsimp only))))
local macro_rules | `(tactic| walk_at "compareOp Lt int int") => `(tactic| (k_here; refine' r_lt_ii ?hv ?_; (case hv => first | exact decide_eq_true (by omega) | exact decide_eq_false (by omega) | exact rfl); (try dsimp only)))
local macro_rules | `(tactic| walk_at "compareOp LtE int int") => `(tactic| (k_here; refine' r_le_ii ?hv ?_; (case hv => first | exact decide_eq_true (by omega) | exact decide_eq_false (by omega) | exact rfl); (try dsimp only)))
local macro_rules | `(tactic| walk_at "compareOp Gt int int") => `(tactic| (k_here; refine' r_gt_ii ?hv ?_; (case hv => first | exact decide_eq_true (by omega) | exact decide_eq_false (by omega) | exact rfl); (try dsimp only)))
local macro_rules | `(tactic| walk_at "compareOp GtE int int") => `(tactic| (k_here; refine' r_ge_ii ?hv ?_; (case hv => first | exact decide_eq_true (by omega) | exact decide_eq_false (by omega) | exact rfl); (try dsimp only)))
local macro_rules | `(tactic| walk_at "compareOp Eq int int") => `(tactic| (k_here; refine' r_eq_ii ?hv ?_; (case hv => first | exact decide_eq_true (by omega) | exact decide_eq_false (by omega) | exact rfl); (try dsimp only)))
local macro_rules | `(tactic| walk_at "compareOp NotEq int int") => `(tactic| (k_here; refine' r_ne_ii ?hv ?_; (case hv => first | exact decide_eq_true (by omega) | exact decide_eq_false (by omega) | exact rfl); (try dsimp only)))
local macro_rules | `(tactic| walk_at "binaryOp Add int bool") => `(tactic| (k_here; first | (with_reducible refine' r_add_it ?_; intro c hc) | (with_reducible refine' r_add_if' ?_; intro c hc)))
local macro_rules | `(tactic| walk_at "binaryOp Sub int bool") => `(tactic| (k_here; first | (with_reducible refine' r_sub_it ?_; intro c hc) | (with_reducible refine' r_sub_if' ?_; intro c hc)))
local macro_rules | `(tactic| walk_at "ite") => `(tactic| (k_here; first | with_reducible refine ite_tt ?_ | with_reducible refine ite_ff ?_))
local macro_rules | `(tactic| walk_at "call ref") => `(tactic| (k_here; k_dflt (refine' use_tojdP ?kC ?k1 ?k2 ?k3 ?k4 ?k5 ?k6 ?k7 ?k8 ?p0 ?p1 ?p2 ?p3 ?p4 ?_; (case kC => with_reducible assumption); (case k1 => k_asm); (case k2 => k_asm); (case k3 => k_asm); (case k4 => k_asm); (case k5 => k_asm); (case k6 => first | exact rfl | with_reducible assumption); (case k7 => ktr_room); (case k8 => ktr_units); (case p0 => omega); (case p1 => omega); (case p2 => omega); (case p3 => omega); (case p4 => omega); k_whole; intro c9 t9 h9 tk9 hc9 F9 N9; (try dsimp only); (try k_fold))))
local macro_rules | `(tactic| walk_at "call ref") => `(tactic| (k_here; k_dflt (refine' use_leap ?kC ?k1 ?k2 ?k3 ?k4 ?k5 ?k6 ?k7 ?k8 ?p0 ?_; (case kC => with_reducible assumption); (case k1 => k_asm); (case k2 => k_asm); (case k3 => k_asm); (case k4 => k_asm); (case k5 => k_asm); (case k6 => first | exact rfl | with_reducible assumption); (case k7 => ktr_room); (case k8 => ktr_units); (case p0 => omega); k_whole; intro h9 tk9 F9 N9; (try dsimp only); (try k_fold))))
set_option maxHeartbeats 8000000 in
theorem leap_ok {prog : Program} {w : World} {p : Program} {loose : List Str} {mean : ExcName → Option Value} {mg mb : Str → Option Value} (C8 : C_tojdP prog w (hd.heap_39 w.params) p loose mean mg mb) : C_leap prog w (hd.heap_39 w.params) p loose mean mg mb := by
  have hmk : Mark PySem.Challenge.rw_ad5024_01 hd.heap_39 := by (k_fill; exact trivial)
  unfold C_leap Gives0
  intro y t1 p0 dp un gd cn cs a ccd cl outer A₀ base h₀ L m news s Q E' B F X N T hk hd' hu hret
  have e1 : pJ (y + 1) 1 1 = 2 * E (y + 622) + 1 := by
    unfold pJ
    rw [if_pos (by decide), show y + 1 + 621 = y + 622 by omega]; omega
  have e2 : pJ y 1 1 = 2 * E (y + 621) + 1 := by
    unfold pJ
    rw [if_pos (by decide)]; omega
  have e3 : E (y + 622) = E (y + 621) + 365 + lpI (y + 622) := by
    have h := E_next (y + 621)
    rw [show y + 621 + 1 = y + 622 by omega] at h
    exact h
  have b1 := E_bt (g := y + 622) (by omega)
  have b2 := E_bt (g := y + 621) (by omega)
  refine wpAny_call ?_
  k_dflt cell_enter
  k_steps
  all_goals (refine' ret_bool (Q := Q) hret ?rF ?rN ?rS ?rE; (case rF => k_asm); (case rN => k_asm); (case rS => kcj_all); (case rE => (clear hret; cases e : lp (y + 622); (· (rw [lpI_f e] at e3; exact decide_eq_false (by omega))); (· (rw [lpI_t e] at e3; exact decide_eq_true (by omega))))))
set_option maxHeartbeats 8000000 in
theorem mlen_ok {prog : Program} {w : World} {p : Program} {loose : List Str} {mean : ExcName → Option Value} {mg mb : Str → Option Value} (C9 : C_leap prog w (hd.heap_39 w.params) p loose mean mg mb) : C_mlen prog w (hd.heap_39 w.params) p loose mean mg mb := by
  have hmk : Mark PySem.Challenge.rw_ad5024_01 hd.heap_39 := by (k_fill; exact trivial)
  unfold C_mlen Gives0
  intro y mo t1 t2 p0 p1 p2 dp un gd cn cs a ccd cl outer A₀ base h₀ L m news s Q E' B F X N T hk hd' hu hret
  refine wpAny_call ?_
  k_dflt cell_enter
  k_steps
  all_goals (refine' ret_int (Q := Q) hret ?rF ?rN ?rS ?rE; (case rF => k_asm); (case rN => k_asm); (case rS => kcj_all); (case rE => (clear hret; unfold mLen lpI; (repeat' split) <;> first | omega | (exfalso; simp_all; done) | (simp_all; done) | (exfalso; simp_all; omega))))
end
section
local macro_rules | `(tactic| walk_at "zz34") => `(tactic| skip)
local macro_rules | `(tactic| walk_at "zz33") => `(tactic| skip)
local macro_rules | `(tactic| walk_at "zz32") => `(tactic| skip)
local macro_rules | `(tactic| walk_at "zz31") => `(tactic| skip)
local macro_rules | `(tactic| walk_at "zz30") => `(tactic| skip)
local macro_rules | `(tactic| walk_at "zz29") => `(tactic| skip)
local macro_rules | `(tactic| walk_at "zz28") => `(tactic| skip)
local macro_rules | `(tactic| walk_at "zz27") => `(tactic| skip)
local macro_rules | `(tactic| walk_at "binaryOp Add float float") => `(tactic| (k_here; refine' r_add_ff ?ex ?ey ?ha ?hb ?_; (case ex => first | with_reducible exact rfl | with_reducible exact lit_epg | with_reducible exact lit_epp | with_reducible exact lit_half); (case ey => first | with_reducible exact rfl | with_reducible exact lit_epg | with_reducible exact lit_epp | with_reducible exact lit_half); (case ha => omega); (case hb => omega); intro c hc))
local macro_rules | `(tactic| walk_at "binaryOp Sub float float") => `(tactic| (k_here; first
  | (refine' r_sub_ff ?ex ?ey ?ha ?hb ?_; (case ex => first | with_reducible exact rfl | with_reducible exact lit_epg | with_reducible exact lit_epp | with_reducible exact lit_half); (case ey => first | with_reducible exact rfl | with_reducible exact lit_epg | with_reducible exact lit_epp | with_reducible exact lit_half); (case ha => omega); (case hb => omega); intro c hc)
  | (refine' r_sub_xf ?ey ?_; (case ey => first | with_reducible exact rfl | with_reducible exact lit_half); (try dsimp only))))
local macro_rules | `(tactic| walk_at "binaryOp Add float int") => `(tactic| (k_here; first
  | (refine' r_add_fi ?ex ?ha ?hn ?_; (case ex => first | with_reducible exact rfl | with_reducible exact lit_epg | with_reducible exact lit_epp); (case ha => omega); (case hn => omega); intro c hc)
  | (refine' r_add_xi ?hn ?_; (case hn => omega); (try dsimp only))))
local macro_rules | `(tactic| walk_at "binaryOp Add int float") => `(tactic| (k_here; refine' r_add_if ?ex ?ha ?hn ?_; (case ex => first | with_reducible exact rfl | with_reducible exact lit_half); (case ha => omega); (case hn => omega); intro c hc))
local macro_rules | `(tactic| walk_at "binaryOp Sub float int") => `(tactic| (k_here; refine' r_sub_fi ?ex ?ha ?hn ?_; (case ex => first | with_reducible exact rfl | with_reducible exact lit_epg | with_reducible exact lit_epp); (case ha => omega); (case hn => omega); intro c hc))
local macro_rules | `(tactic| walk_at "inplaceOp Add float int") => `(tactic| (k_here; refine' r_iadd_fi ?ex ?ha ?hn ?_; (case ex => with_reducible exact rfl); (case ha => omega); (case hn => omega); intro c hc))
local macro_rules | `(tactic| walk_at "inplaceOp Sub float int") => `(tactic| (k_here; refine' r_isub_fi ?ex ?ha ?hn ?_; (case ex => with_reducible exact rfl); (case ha => omega); (case hn => omega); intro c hc))
local macro_rules | `(tactic| walk_at "binaryOp Mult float int") => `(tactic| (k_here; first
  | (refine' r_mul_fi ?ex ?ha ?hd0 ?hd ?_; (case ex => with_reducible exact rfl); (case ha => omega); (case hd0 => omega); (case hd => omega); intro c hc)
  | (refine' r_mul_xi ?hn ?_; (case hn => omega); (try dsimp only))))
local macro_rules | `(tactic| walk_at "binaryOp Div float int") => `(tactic| (k_here; refine' r_div_fi ?ex ?hd0 ?hd ?_; (case ex => with_reducible exact rfl); (case hd0 => omega); (case hd => omega); (try dsimp only)))
local macro_rules | `(tactic| walk_at "binaryOp Div float float") => `(tactic| (k_here; refine' r_div_ty ?ex ?_; (case ex => with_reducible exact rfl); (try dsimp only)))
local macro_rules | `(tactic| walk_at "binaryOp Div int int") => `(tactic| (k_here; refine' r_div_ii ?hd0 ?hn ?_; (case hd0 => omega); (case hn => omega); (try dsimp only)))
local macro_rules | `(tactic| walk_at "binaryOp Mod float int") => `(tactic| (k_here; refine' r_mod_fi ?ex ?ha ?hd0 ?hd ?_; (case ex => with_reducible exact rfl); (case ha => omega); (case hd0 => omega); (case hd => omega); intro c hc))
local macro_rules | `(tactic| walk_at "binaryOp FloorDiv float int") => `(tactic| (k_here; refine' r_fdiv_fi ?ex ?ha ?ho ?hd ?_; (case ex => with_reducible exact rfl); (case ha => omega); (case ho => omega); (case hd => exact rfl); intro c hc))
local macro_rules | `(tactic| walk_at "compareOp Lt float int") => `(tactic| (k_here; refine' r_lt_fi ?ex ?ha ?hv ?_; (case ex => with_reducible exact rfl); (case ha => omega); (case hv => first | exact decide_eq_true (by omega) | exact decide_eq_false (by omega) | exact rfl); (try dsimp only)))
local macro_rules | `(tactic| walk_at "compareOp LtE float int") => `(tactic| (k_here; refine' r_le_fi ?ex ?ha ?hv ?_; (case ex => with_reducible exact rfl); (case ha => omega); (case hv => first | exact decide_eq_true (by omega) | exact decide_eq_false (by omega) | exact rfl); (try dsimp only)))
local macro_rules | `(tactic| walk_at "compareOp Gt float int") => `(tactic| (k_here; refine' r_gt_fi ?ex ?ha ?hv ?_; (case ex => with_reducible exact rfl); (case ha => omega); (case hv => first | exact decide_eq_true (by omega) | exact decide_eq_false (by omega) | exact rfl); (try dsimp only)))
local macro_rules | `(tactic| walk_at "compareOp Lt float float") => `(tactic| (k_here; first
  | (refine' r_lt_ff ?ex ?ey ?ha ?hb ?hv ?_; (case ex => with_reducible exact rfl); (case ey => with_reducible exact rfl); (case ha => omega); (case hb => omega); (case hv => first | exact decide_eq_true (by omega) | exact decide_eq_false (by omega) | exact rfl); (try dsimp only))
  | (refine' r_lt_xe ?hx ?ey ?ha ?he ?hv ?_; (case hx => with_reducible assumption); (case ey => with_reducible exact rfl); (case ha => omega); (case he => omega); (case hv => first | exact decide_eq_true (by omega) | exact decide_eq_false (by omega) | exact rfl); (try dsimp only))))
local macro_rules | `(tactic| walk_at "compareOp LtE float float") => `(tactic| (k_here; first
  | (refine' r_le_ff ?ex ?ey ?ha ?hb ?hv ?_; (case ex => with_reducible exact rfl); (case ey => with_reducible exact rfl); (case ha => omega); (case hb => omega); (case hv => first | exact decide_eq_true (by omega) | exact decide_eq_false (by omega) | exact rfl); (try dsimp only))
  | (refine' r_le_ex ?ex ?hy ?ha ?he ?hv ?_; (case ex => with_reducible exact rfl); (case hy => with_reducible assumption); (case ha => omega); (case he => omega); (case hv => first | exact decide_eq_true (by omega) | exact decide_eq_false (by omega) | exact rfl); (try dsimp only))))
local macro_rules | `(tactic| walk_at "compareOp Gt float float") => `(tactic| (k_here; refine' r_gt_ex ?ex ?hy ?ha ?he ?hv ?_; (case ex => with_reducible exact rfl); (case hy => with_reducible assumption); (case ha => omega); (case he => omega); (case hv => first | exact decide_eq_true (by omega) | exact decide_eq_false (by omega) | exact rfl); (try dsimp only)))
local macro_rules | `(tactic| walk_at "compareOp NotEq float float") => `(tactic| (k_here; refine' r_ne_ff ?ex ?ey ?ha ?hb ?hv ?_; (case ex => with_reducible exact rfl); (case ey => with_reducible exact rfl); (case ha => omega); (case hb => omega); (case hv => first | exact decide_eq_true (by omega) | exact decide_eq_false (by omega) | exact rfl); (try dsimp only)))
local macro_rules | `(tactic| walk_at "call builtin:math.floor") => `(tactic| (k_here; first
  | (with_reducible refine' r_floor_div ?ha ?hd0 ?hd ?_; (case ha => omega); (case hd0 => omega); (case hd => omega); intro c hc)
  | (with_reducible refine' r_floor_qi ?ha ?hd0 ?hd ?_; (case ha => omega); (case hd0 => omega); (case hd => omega); intro c hc)
  | (with_reducible refine' r_floor_sum ?ha ?hi ?hj ?_; (case ha => omega); (case hi => omega); (case hj => omega); intro c hc)
  | (with_reducible refine' r_floor ?hx ?_; (case hx => with_reducible assumption); (try dsimp only))))
local macro_rules | `(tactic| walk_at "call builtin:math.ceil") => `(tactic| (k_here; with_reducible refine' r_ceil_div ?ha ?hd0 ?hd ?_; (case ha => omega); (case hd0 => omega); (case hd => omega); intro c hc))
local macro_rules | `(tactic| walk_at "call builtin:round") => `(tactic| (k_here; with_reducible refine' r_round ?hx ?_; (case hx => first | with_reducible assumption | exact Rd_ty' (by with_reducible assumption) (by with_reducible assumption) (by omega)); (try dsimp only)))
local macro_rules | `(tactic| walk_at "call type:int") => `(tactic| (k_here; refine' r_int ?ex ?ha ?he ?_; (case ex => with_reducible exact rfl); (case ha => omega); (case he => omega); intro c hc))
local macro_rules | `(tactic| walk_at "binaryOp Mod int int") => `(tactic| (k_here; refine' r_mod_ii ?hd0 ?_; (case hd0 => omega); (try dsimp only)))
local macro_rules | `(tactic| walk_at "compareOp In int ref") => `(tactic| (k_here; k_dflt (refine' r_in_tup ?F ?X ?hl ?hi ?hp ?_; (case F => k_asm); (case X => k_asm); (case hl => k_is); (case hi => first | exact ia_a | exact ia_b | exact ia_c); (case hp => first | exact any_a | exact any_b | exact any_c); (try dsimp only))))
local macro_rules | `(tactic| walk_at "compareOp Lt int int") => `(tactic| (k_here; refine' r_lt_ii ?hv ?_; (case hv => first | exact decide_eq_true (by omega) | exact decide_eq_false (by omega) | exact rfl); (try dsimp only)))
local macro_rules | `(tactic| walk_at "compareOp LtE int int") => `(tactic| (k_here; refine' r_le_ii ?hv ?_; (case hv => first | exact decide_eq_true (by omega) | exact decide_eq_false (by omega) | exact rfl); (try dsimp only)))
local macro_rules | `(tactic| walk_at "compareOp Gt int int") => `(tactic| (k_here; refine' r_gt_ii ?hv ?_; (case hv => first | exact decide_eq_true (by omega) | exact decide_eq_false (by omega) | exact rfl); (try dsimp only)))
local macro_rules | `(tactic| walk_at "compareOp GtE int int") => `(tactic| (k_here; refine' r_ge_ii ?hv ?_; (case hv => first | exact decide_eq_true (by omega) | exact decide_eq_false (by omega) | exact rfl); (try dsimp only)))
local macro_rules | `(tactic| walk_at "compareOp Eq int int") => `(tactic| (k_here; refine' r_eq_ii ?hv ?_; (case hv => first | exact decide_eq_true (by omega) | exact decide_eq_false (by omega) | exact rfl); (try dsimp only)))
local macro_rules | `(tactic| walk_at "compareOp NotEq int int") => `(tactic| (k_here; refine' r_ne_ii ?hv ?_; (case hv => first | exact decide_eq_true (by omega) | exact decide_eq_false (by omega) | exact rfl); (try dsimp only)))
local macro_rules | `(tactic| walk_at "binaryOp Add int bool") => `(tactic| (k_here; first | (with_reducible refine' r_add_it ?_; intro c hc) | (with_reducible refine' r_add_if' ?_; intro c hc)))
local macro_rules | `(tactic| walk_at "binaryOp Sub int bool") => `(tactic| (k_here; first | (with_reducible refine' r_sub_it ?_; intro c hc) | (with_reducible refine' r_sub_if' ?_; intro c hc)))
local macro_rules | `(tactic| walk_at "ite") => `(tactic| (k_here; first | with_reducible refine ite_tt ?_ | with_reducible refine ite_ff ?_))
local macro_rules | `(tactic| walk_at "call ref") => `(tactic| (k_here; k_dflt (refine' use_tojd ?kC ?k1 ?k2 ?k3 ?k4 ?k5 ?k6 ?k7 ?k8 ?p0 ?p1 ?p2 ?p3 ?p4 ?_; (case kC => with_reducible assumption); (case k1 => k_asm); (case k2 => k_asm); (case k3 => k_asm); (case k4 => k_asm); (case k5 => k_asm); (case k6 => first | exact rfl | with_reducible assumption); (case k7 => ktr_room); (case k8 => ktr_units); (case p0 => omega); (case p1 => omega); (case p2 => omega); (case p3 => omega); (case p4 => omega); k_whole; intro c9 t9 h9 tk9 hc9 hp9 hb9 hB9 F9 N9; (first | rw [gJ_11] at hc9 | rw [gJ_321] at hc9 | rw [gJ_322] at hc9 | skip); (try dsimp only); (try k_fold))))
local macro_rules | `(tactic| walk_at "call ref") => `(tactic| (k_here; k_dflt (refine' use_isleap_s ?kC ?k1 ?k2 ?k3 ?k4 ?k5 ?k6 ?k7 ?k8 ?_ ?_; (case kC => assumption); (case k1 => k_asm); (case k2 => k_asm); (case k3 => k_asm); (case k4 => k_asm); (case k5 => k_asm); (case k6 => first | exact rfl | assumption); (case k7 => ktr_room); (case k8 => ktr_units); (all_goals (k_whole; intro h9 tk9 hl9 hi9 F9 N9; (try dsimp only); (try k_fold))))))
set_option maxHeartbeats 8000000 in
theorem tojdI_ok {prog : Program} {w : World} {p : Program} {loose : List Str} {mean : ExcName → Option Value} {mg mb : Str → Option Value} (C1 : C_isleap prog w (hd.heap_39 w.params) p loose mean mg mb) (C3 : C_tojd prog w (hd.heap_39 w.params) p loose mean mg mb) : C_tojdI prog w (hd.heap_39 w.params) p loose mean mg mb := by
  have hmk : Mark PySem.Challenge.rw_ad5024_01 hd.heap_39 := by (k_fill; exact trivial)
  unfold C_tojdI Gives0
  intro y mo d t1 t2 t3 p0 p1 p2 p3 p4 dp un gd cn cs a ccd cl outer A₀ base h₀ L m news s Q E' B F X N T hk hd' hu hret
  refine wpAny_call ?_
  k_dflt cell_enter
  k_steps
  all_goals (refine' ret_float (Q := Q) hret ?rF ?rN ?rS ?rE; (case rF => k_asm); (case rN => k_asm); (case rS => kcj_all); (case rE => (clear hret; (rename (_ = gJ _ _ _) => hq); rw [gJ_3 (by omega)] at hq; unfold iJ; (repeat' split) <;> omega)))
end
section
local macro_rules | `(tactic| walk_at "zz42") => `(tactic| skip)
local macro_rules | `(tactic| walk_at "zz41") => `(tactic| skip)
local macro_rules | `(tactic| walk_at "zz40") => `(tactic| skip)
local macro_rules | `(tactic| walk_at "zz39") => `(tactic| skip)
local macro_rules | `(tactic| walk_at "zz38") => `(tactic| skip)
local macro_rules | `(tactic| walk_at "zz37") => `(tactic| skip)
local macro_rules | `(tactic| walk_at "zz36") => `(tactic| skip)
local macro_rules | `(tactic| walk_at "zz35") => `(tactic| skip)
local macro_rules | `(tactic| walk_at "binaryOp Add float float") => `(tactic| (k_here; refine' r_add_ff ?ex ?ey ?ha ?hb ?_; (case ex => first | with_reducible exact rfl | with_reducible exact lit_epg | with_reducible exact lit_epp | with_reducible exact lit_half); (case ey => first | with_reducible exact rfl | with_reducible exact lit_epg | with_reducible exact lit_epp | with_reducible exact lit_half); (case ha => omega); (case hb => omega); intro c hc))
local macro_rules | `(tactic| walk_at "binaryOp Sub float float") => `(tactic| (k_here; first
  | (refine' r_sub_ff ?ex ?ey ?ha ?hb ?_; (case ex => first | with_reducible exact rfl | with_reducible exact lit_epg | with_reducible exact lit_epp | with_reducible exact lit_half); (case ey => first | with_reducible exact rfl | with_reducible exact lit_epg | with_reducible exact lit_epp | with_reducible exact lit_half); (case ha => omega); (case hb => omega); intro c hc)
  | (refine' r_sub_xf ?ey ?_; (case ey => first | with_reducible exact rfl | with_reducible exact lit_half); (try dsimp only))))
local macro_rules | `(tactic| walk_at "binaryOp Add float int") => `(tactic| (k_here; first
  | (refine' r_add_fi ?ex ?ha ?hn ?_; (case ex => first | with_reducible exact rfl | with_reducible exact lit_epg | with_reducible exact lit_epp); (case ha => omega); (case hn => omega); intro c hc)
  | (refine' r_add_xi ?hn ?_; (case hn => omega); (try dsimp only))))
local macro_rules | `(tactic| walk_at "binaryOp Add int float") => `(tactic| (k_here; refine' r_add_if ?ex ?ha ?hn ?_; (case ex => first | with_reducible exact rfl | with_reducible exact lit_half); (case ha => omega); (case hn => omega); intro c hc))
local macro_rules | `(tactic| walk_at "binaryOp Sub float int") => `(tactic| (k_here; refine' r_sub_fi ?ex ?ha ?hn ?_; (case ex => first | with_reducible exact rfl | with_reducible exact lit_epg | with_reducible exact lit_epp); (case ha => omega); (case hn => omega); intro c hc))
local macro_rules | `(tactic| walk_at "inplaceOp Add float int") => `(tactic| (k_here; refine' r_iadd_fi ?ex ?ha ?hn ?_; (case ex => with_reducible exact rfl); (case ha => omega); (case hn => omega); intro c hc))
local macro_rules | `(tactic| walk_at "inplaceOp Sub float int") => `(tactic| (k_here; refine' r_isub_fi ?ex ?ha ?hn ?_; (case ex => with_reducible exact rfl); (case ha => omega); (case hn => omega); intro c hc))
local macro_rules | `(tactic| walk_at "binaryOp Mult float int") => `(tactic| (k_here; first
  | (refine' r_mul_fi ?ex ?ha ?hd0 ?hd ?_; (case ex => with_reducible exact rfl); (case ha => omega); (case hd0 => omega); (case hd => omega); intro c hc)
  | (refine' r_mul_xi ?hn ?_; (case hn => omega); (try dsimp only))))
local macro_rules | `(tactic| walk_at "binaryOp Div float int") => `(tactic| (k_here; refine' r_div_fi ?ex ?hd0 ?hd ?_; (case ex => with_reducible exact rfl); (case hd0 => omega); (case hd => omega); (try dsimp only)))
local macro_rules | `(tactic| walk_at "binaryOp Div float float") => `(tactic| (k_here; refine' r_div_ty ?ex ?_; (case ex => with_reducible exact rfl); (try dsimp only)))
local macro_rules | `(tactic| walk_at "binaryOp Div int int") => `(tactic| (k_here; refine' r_div_ii ?hd0 ?hn ?_; (case hd0 => omega); (case hn => omega); (try dsimp only)))
local macro_rules | `(tactic| walk_at "binaryOp Mod float int") => `(tactic| (k_here; refine' r_mod_fi ?ex ?ha ?hd0 ?hd ?_; (case ex => with_reducible exact rfl); (case ha => omega); (case hd0 => omega); (case hd => omega); intro c hc))
local macro_rules | `(tactic| walk_at "binaryOp FloorDiv float int") => `(tactic| (k_here; refine' r_fdiv_fi ?ex ?ha ?ho ?hd ?_; (case ex => with_reducible exact rfl); (case ha => omega); (case ho => omega); (case hd => exact rfl); intro c hc))
local macro_rules | `(tactic| walk_at "compareOp Lt float int") => `(tactic| (k_here; refine' r_lt_fi ?ex ?ha ?hv ?_; (case ex => with_reducible exact rfl); (case ha => omega); (case hv => first | exact decide_eq_true (by omega) | exact decide_eq_false (by omega) | exact rfl); (try dsimp only)))
local macro_rules | `(tactic| walk_at "compareOp LtE float int") => `(tactic| (k_here; refine' r_le_fi ?ex ?ha ?hv ?_; (case ex => with_reducible exact rfl); (case ha => omega); (case hv => first | exact decide_eq_true (by omega) | exact decide_eq_false (by omega) | exact rfl); (try dsimp only)))
local macro_rules | `(tactic| walk_at "compareOp Gt float int") => `(tactic| (k_here; refine' r_gt_fi ?ex ?ha ?hv ?_; (case ex => with_reducible exact rfl); (case ha => omega); (case hv => first | exact decide_eq_true (by omega) | exact decide_eq_false (by omega) | exact rfl); (try dsimp only)))
local macro_rules | `(tactic| walk_at "compareOp Lt float float") => `(tactic| (k_here; first
  | (refine' r_lt_ff ?ex ?ey ?ha ?hb ?hv ?_; (case ex => with_reducible exact rfl); (case ey => with_reducible exact rfl); (case ha => omega); (case hb => omega); (case hv => first | exact decide_eq_true (by omega) | exact decide_eq_false (by omega) | exact rfl); (try dsimp only))
  | (refine' r_lt_xe ?hx ?ey ?ha ?he ?hv ?_; (case hx => with_reducible assumption); (case ey => with_reducible exact rfl); (case ha => omega); (case he => omega); (case hv => first | exact decide_eq_true (by omega) | exact decide_eq_false (by omega) | exact rfl); (try dsimp only))))
local macro_rules | `(tactic| walk_at "compareOp LtE float float") => `(tactic| (k_here; first
  | (refine' r_le_ff ?ex ?ey ?ha ?hb ?hv ?_; (case ex => with_reducible exact rfl); (case ey => with_reducible exact rfl); (case ha => omega); (case hb => omega); (case hv => first | exact decide_eq_true (by omega) | exact decide_eq_false (by omega) | exact rfl); (try dsimp only))
  | (refine' r_le_ex ?ex ?hy ?ha ?he ?hv ?_; (case ex => with_reducible exact rfl); (case hy => with_reducible assumption); (case ha => omega); (case he => omega); (case hv => first | exact decide_eq_true (by omega) | exact decide_eq_false (by omega) | exact rfl); (try dsimp only))))
local macro_rules | `(tactic| walk_at "compareOp Gt float float") => `(tactic| (k_here; refine' r_gt_ex ?ex ?hy ?ha ?he ?hv ?_; (case ex => with_reducible exact rfl); (case hy => with_reducible assumption); (case ha => omega); (case he => omega); (case hv => first | exact decide_eq_true (by omega) | exact decide_eq_false (by omega) | exact rfl); (try dsimp only)))
local macro_rules | `(tactic| walk_at "compareOp NotEq float float") => `(tactic| (k_here; refine' r_ne_ff ?ex ?ey ?ha ?hb ?hv ?_; (case ex => with_reducible exact rfl); (case ey => with_reducible exact rfl); (case ha => omega); (case hb => omega); (case hv => first | exact decide_eq_true (by omega) | exact decide_eq_false (by omega) | exact rfl); (try dsimp only)))
local macro_rules | `(tactic| walk_at "call builtin:math.floor") => `(tactic| (k_here; first
  | (with_reducible refine' r_floor_div ?ha ?hd0 ?hd ?_; (case ha => omega); (case hd0 => omega); (case hd => omega); intro c hc)
  | (with_reducible refine' r_floor_qi ?ha ?hd0 ?hd ?_; (case ha => omega); (case hd0 => omega); (case hd => omega); intro c hc)
  | (with_reducible refine' r_floor_sum ?ha ?hi ?hj ?_; (case ha => omega); (case hi => omega); (case hj => omega); intro c hc)
  | (with_reducible refine' r_floor ?hx ?_; (case hx => with_reducible assumption); (try dsimp only))))
local macro_rules | `(tactic| walk_at "call builtin:math.ceil") => `(tactic| (k_here; with_reducible refine' r_ceil_div ?ha ?hd0 ?hd ?_; (case ha => omega); (case hd0 => omega); (case hd => omega); intro c hc))
local macro_rules | `(tactic| walk_at "call builtin:round") => `(tactic| (k_here; with_reducible refine' r_round ?hx ?_; (case hx => first | with_reducible assumption | exact Rd_ty' (by with_reducible assumption) (by with_reducible assumption) (by omega)); (try dsimp only)))
local macro_rules | `(tactic| walk_at "call type:int") => `(tactic| (k_here; refine' r_int ?ex ?ha ?he ?_; (case ex => with_reducible exact rfl); (case ha => omega); (case he => omega); intro c hc))
local macro_rules | `(tactic| walk_at "binaryOp Mod int int") => `(tactic| (k_here; refine' r_mod_ii ?hd0 ?_; (case hd0 => omega); (try dsimp only)))
local macro_rules | `(tactic| walk_at "compareOp In int ref") => `(tactic| (k_here; k_dflt (refine' r_in_tup ?F ?X ?hl ?hi ?hp ?_; (case F => k_asm); (case X => k_asm); (case hl => k_is); (case hi => first | exact ia_a | exact ia_b | exact ia_c); (case hp => first | exact any_a | exact any_b | exact any_c); (try dsimp only))))
local macro_rules | `(tactic| walk_at "compareOp Lt int int") => `(tactic| (k_here; refine' r_lt_ii ?hv ?_; (case hv => first | exact decide_eq_true (by omega) | exact decide_eq_false (by omega) | exact rfl); (try dsimp only)))
local macro_rules | `(tactic| walk_at "compareOp LtE int int") => `(tactic| (k_here; refine' r_le_ii ?hv ?_; (case hv => first | exact decide_eq_true (by omega) | exact decide_eq_false (by omega) | exact rfl); (try dsimp only)))
local macro_rules | `(tactic| walk_at "compareOp Gt int int") => `(tactic| (k_here; refine' r_gt_ii ?hv ?_; (case hv => first | exact decide_eq_true (by omega) | exact decide_eq_false (by omega) | exact rfl); (try dsimp only)))
local macro_rules | `(tactic| walk_at "compareOp GtE int int") => `(tactic| (k_here; refine' r_ge_ii ?hv ?_; (case hv => first | exact decide_eq_true (by omega) | exact decide_eq_false (by omega) | exact rfl); (try dsimp only)))
local macro_rules | `(tactic| walk_at "compareOp Eq int int") => `(tactic| (k_here; refine' r_eq_ii ?hv ?_; (case hv => first | exact decide_eq_true (by omega) | exact decide_eq_false (by omega) | exact rfl); (try dsimp only)))
local macro_rules | `(tactic| walk_at "compareOp NotEq int int") => `(tactic| (k_here; refine' r_ne_ii ?hv ?_; (case hv => first | exact decide_eq_true (by omega) | exact decide_eq_false (by omega) | exact rfl); (try dsimp only)))
local macro_rules | `(tactic| walk_at "binaryOp Add int bool") => `(tactic| (k_here; first | (with_reducible refine' r_add_it ?_; intro c hc) | (with_reducible refine' r_add_if' ?_; intro c hc)))
local macro_rules | `(tactic| walk_at "binaryOp Sub int bool") => `(tactic| (k_here; first | (with_reducible refine' r_sub_it ?_; intro c hc) | (with_reducible refine' r_sub_if' ?_; intro c hc)))
local macro_rules | `(tactic| walk_at "ite") => `(tactic| (k_here; first | with_reducible refine ite_tt ?_ | with_reducible refine ite_ff ?_))
local macro_rules | `(tactic| walk_at "call ref") => `(tactic| (k_here; k_dflt (refine' use_tojd ?kC ?k1 ?k2 ?k3 ?k4 ?k5 ?k6 ?k7 ?k8 ?p0 ?p1 ?p2 ?p3 ?p4 ?_; (case kC => with_reducible assumption); (case k1 => k_asm); (case k2 => k_asm); (case k3 => k_asm); (case k4 => k_asm); (case k5 => k_asm); (case k6 => first | exact rfl | with_reducible assumption); (case k7 => ktr_room); (case k8 => ktr_units); (case p0 => omega); (case p1 => omega); (case p2 => omega); (case p3 => omega); (case p4 => omega); k_whole; intro c9 t9 h9 tk9 hc9 hp9 hb9 hB9 F9 N9; (first | rw [gJ_11] at hc9 | rw [gJ_321] at hc9 | rw [gJ_322] at hc9 | skip); (try dsimp only); (try k_fold))))
local macro_rules | `(tactic| walk_at "call ref") => `(tactic| (k_here; k_dflt (refine' use_fromjd_g ?kC ?k1 ?k2 ?k3 ?k4 ?k5 ?k6 ?k7 ?k8 ?p1 ?p2 ?p3 ?p4 ?p0 ?_ ?_; (case kC => with_reducible assumption); (case k1 => k_asm); (case k2 => k_asm); (case k3 => k_asm); (case k4 => k_asm); (case k5 => k_asm); (case k6 => first | exact rfl | with_reducible assumption); (case k7 => ktr_room); (case k8 => ktr_units); (case p1 => first | with_reducible assumption | exact half_back_o' (by with_reducible assumption) (by omega)); (case p2 => first | with_reducible assumption | exact Or.inr rfl); (case p3 => with_reducible assumption); (case p4 => with_reducible assumption); (case p0 => with_reducible assumption); (all_goals (k_whole; intro m9 d9 D9 t91 t92 t93 c9 h9 tk9 hJ9 F9 N9 L9; (try simp only [AllLt, and_true] at L9); (try dsimp only); (try k_fold))))))
local macro_rules | `(tactic| walk_at "call ref") => `(tactic| (k_here; k_dflt (refine' use_isleap_s ?kC ?k1 ?k2 ?k3 ?k4 ?k5 ?k6 ?k7 ?k8 ?_ ?_; (case kC => assumption); (case k1 => k_asm); (case k2 => k_asm); (case k3 => k_asm); (case k4 => k_asm); (case k5 => k_asm); (case k6 => first | exact rfl | assumption); (case k7 => ktr_room); (case k8 => ktr_units); (all_goals (k_whole; intro h9 tk9 hl9 hi9 F9 N9; (try dsimp only); (try k_fold))))))
set_option maxHeartbeats 8000000 in
theorem fromjdI_ok {prog : Program} {w : World} {p : Program} {loose : List Str} {mean : ExcName → Option Value} {mg mb : Str → Option Value} (C1 : C_isleap prog w (hd.heap_39 w.params) p loose mean mg mb) (C3 : C_tojd prog w (hd.heap_39 w.params) p loose mean mg mb) (C4 : C_fromjd prog w (hd.heap_39 w.params) p loose mean mg mb) : C_fromjdI prog w (hd.heap_39 w.params) p loose mean mg mb := by
  have hmk : Mark PySem.Challenge.rw_ad5024_01 hd.heap_39 := by (k_fill; exact trivial)
  unfold C_fromjdI GivesT
  intro x n g t p1 p2 p3 p0 dp un gd cn cs a ccd cl outer A₀ base h₀ L m news s Q E' B F X N T hk hd' hu hret
  have gb := E_bt (g := g) (by omega)
  have gn := E_next g
  have gj := E_J' g
  have gk := E_J g
  have gl := lpI_b (g + 1)
  have gm := lpI_b g
  refine wpAny_call ?_
  k_dflt cell_enter
  k_steps
  all_goals (refine' ret_t3 (Q := Q) hret ?rF ?rN ?rD ?rS ?rL ?rP; (case rF => with_reducible assumption); (case rN => with_reducible assumption); (case rD => k_mem); (case rS => exact fun p h => List.Mem.tail _ (List.Mem.tail _ h)); (case rL => first | with_reducible assumption | exact allLt_of (by with_reducible assumption) | exact And.right (by with_reducible assumption)); (case rP => (clear hret gb p0; (try dsimp only); first | exact iP_a (by omega) (by omega) (by omega) (by omega) (by omega) | exact iP_b (by omega) (by omega) (by omega) (by omega) (by omega) | exact iP_c (by omega) (by omega) (by omega) (by omega) (by omega) | exact iP_d (by omega) (by omega) (by omega) (by omega))))
end
section
local macro_rules | `(tactic| walk_at "binaryOp Add float float") => `(tactic| (k_here; refine' r_add_ff ?ex ?ey ?ha ?hb ?_; (case ex => first | with_reducible exact rfl | with_reducible exact lit_epg | with_reducible exact lit_epp | with_reducible exact lit_half); (case ey => first | with_reducible exact rfl | with_reducible exact lit_epg | with_reducible exact lit_epp | with_reducible exact lit_half); (case ha => omega); (case hb => omega); intro c hc))
local macro_rules | `(tactic| walk_at "binaryOp Sub float float") => `(tactic| (k_here; first
  | (refine' r_sub_ff ?ex ?ey ?ha ?hb ?_; (case ex => first | with_reducible exact rfl | with_reducible exact lit_epg | with_reducible exact lit_epp | with_reducible exact lit_half); (case ey => first | with_reducible exact rfl | with_reducible exact lit_epg | with_reducible exact lit_epp | with_reducible exact lit_half); (case ha => omega); (case hb => omega); intro c hc)
  | (refine' r_sub_xf ?ey ?_; (case ey => first | with_reducible exact rfl | with_reducible exact lit_half); (try dsimp only))))
local macro_rules | `(tactic| walk_at "binaryOp Add float int") => `(tactic| (k_here; first
  | (refine' r_add_fi ?ex ?ha ?hn ?_; (case ex => first | with_reducible exact rfl | with_reducible exact lit_epg | with_reducible exact lit_epp); (case ha => omega); (case hn => omega); intro c hc)
  | (refine' r_add_xi ?hn ?_; (case hn => omega); (try dsimp only))))
local macro_rules | `(tactic| walk_at "binaryOp Add int float") => `(tactic| (k_here; refine' r_add_if ?ex ?ha ?hn ?_; (case ex => first | with_reducible exact rfl | with_reducible exact lit_half); (case ha => omega); (case hn => omega); intro c hc))
local macro_rules | `(tactic| walk_at "binaryOp Sub float int") => `(tactic| (k_here; refine' r_sub_fi ?ex ?ha ?hn ?_; (case ex => first | with_reducible exact rfl | with_reducible exact lit_epg | with_reducible exact lit_epp); (case ha => omega); (case hn => omega); intro c hc))
local macro_rules | `(tactic| walk_at "inplaceOp Add float int") => `(tactic| (k_here; refine' r_iadd_fi ?ex ?ha ?hn ?_; (case ex => with_reducible exact rfl); (case ha => omega); (case hn => omega); intro c hc))
local macro_rules | `(tactic| walk_at "inplaceOp Sub float int") => `(tactic| (k_here; refine' r_isub_fi ?ex ?ha ?hn ?_; (case ex => with_reducible exact rfl); (case ha => omega); (case hn => omega); intro c hc))
local macro_rules | `(tactic| walk_at "binaryOp Mult float int") => `(tactic| (k_here; first
  | (refine' r_mul_fi ?ex ?ha ?hd0 ?hd ?_; (case ex => with_reducible exact rfl); (case ha => omega); (case hd0 => omega); (case hd => omega); intro c hc)
  | (refine' r_mul_xi ?hn ?_; (case hn => omega); (try dsimp only))))
local macro_rules | `(tactic| walk_at "binaryOp Div float int") => `(tactic| (k_here; refine' r_div_fi ?ex ?hd0 ?hd ?_; (case ex => with_reducible exact rfl); (case hd0 => omega); (case hd => omega); (try dsimp only)))
local macro_rules | `(tactic| walk_at "binaryOp Div float float") => `(tactic| (k_here; refine' r_div_ty ?ex ?_; (case ex => with_reducible exact rfl); (try dsimp only)))
local macro_rules | `(tactic| walk_at "binaryOp Div int int") => `(tactic| (k_here; refine' r_div_ii ?hd0 ?hn ?_; (case hd0 => omega); (case hn => omega); (try dsimp only)))
local macro_rules | `(tactic| walk_at "binaryOp Mod float int") => `(tactic| (k_here; refine' r_mod_fi ?ex ?ha ?hd0 ?hd ?_; (case ex => with_reducible exact rfl); (case ha => omega); (case hd0 => omega); (case hd => omega); intro c hc))
local macro_rules | `(tactic| walk_at "binaryOp FloorDiv float int") => `(tactic| (k_here; refine' r_fdiv_fi ?ex ?ha ?ho ?hd ?_; (case ex => with_reducible exact rfl); (case ha => omega); (case ho => omega); (case hd => exact rfl); intro c hc))
local macro_rules | `(tactic| walk_at "compareOp Lt float int") => `(tactic| (k_here; refine' r_lt_fi ?ex ?ha ?hv ?_; (case ex => with_reducible exact rfl); (case ha => omega); (case hv => first | exact decide_eq_true (by omega) | exact decide_eq_false (by omega) | exact rfl); (try dsimp only)))
local macro_rules | `(tactic| walk_at "compareOp LtE float int") => `(tactic| (k_here; refine' r_le_fi ?ex ?ha ?hv ?_; (case ex => with_reducible exact rfl); (case ha => omega); (case hv => first | exact decide_eq_true (by omega) | exact decide_eq_false (by omega) | exact rfl); (try dsimp only)))
local macro_rules | `(tactic| walk_at "compareOp Gt float int") => `(tactic| (k_here; refine' r_gt_fi ?ex ?ha ?hv ?_; (case ex => with_reducible exact rfl); (case ha => omega); (case hv => first | exact decide_eq_true (by omega) | exact decide_eq_false (by omega) | exact rfl); (try dsimp only)))
local macro_rules | `(tactic| walk_at "compareOp Lt float float") => `(tactic| (k_here; first
  | (refine' r_lt_ff ?ex ?ey ?ha ?hb ?hv ?_; (case ex => with_reducible exact rfl); (case ey => with_reducible exact rfl); (case ha => omega); (case hb => omega); (case hv => first | exact decide_eq_true (by omega) | exact decide_eq_false (by omega) | exact rfl); (try dsimp only))
  | (refine' r_lt_xe ?hx ?ey ?ha ?he ?hv ?_; (case hx => with_reducible assumption); (case ey => with_reducible exact rfl); (case ha => omega); (case he => omega); (case hv => first | exact decide_eq_true (by omega) | exact decide_eq_false (by omega) | exact rfl); (try dsimp only))))
local macro_rules | `(tactic| walk_at "compareOp LtE float float") => `(tactic| (k_here; first
  | (refine' r_le_ff ?ex ?ey ?ha ?hb ?hv ?_; (case ex => with_reducible exact rfl); (case ey => with_reducible exact rfl); (case ha => omega); (case hb => omega); (case hv => first | exact decide_eq_true (by omega) | exact decide_eq_false (by omega) | exact rfl); (try dsimp only))
  | (refine' r_le_ex ?ex ?hy ?ha ?he ?hv ?_; (case ex => with_reducible exact rfl); (case hy => with_reducible assumption); (case ha => omega); (case he => omega); (case hv => first | exact decide_eq_true (by omega) | exact decide_eq_false (by omega) | exact rfl); (try dsimp only))))
local macro_rules | `(tactic| walk_at "compareOp Gt float float") => `(tactic| (k_here; refine' r_gt_ex ?ex ?hy ?ha ?he ?hv ?_; (case ex => with_reducible exact rfl); (case hy => with_reducible assumption); (case ha => omega); (case he => omega); (case hv => first | exact decide_eq_true (by omega) | exact decide_eq_false (by omega) | exact rfl); (try dsimp only)))
local macro_rules | `(tactic| walk_at "compareOp NotEq float float") => `(tactic| (k_here; refine' r_ne_ff ?ex ?ey ?ha ?hb ?hv ?_; (case ex => with_reducible exact rfl); (case ey => with_reducible exact rfl); (case ha => omega); (case hb => omega); (case hv => first | exact decide_eq_true (by omega) | exact decide_eq_false (by omega) | exact rfl); (try dsimp only)))
local macro_rules | `(tactic| walk_at "call builtin:math.floor") => `(tactic| (k_here; first
  | (with_reducible refine' r_floor_div ?ha ?hd0 ?hd ?_; (case ha => omega); (case hd0 => omega); (case hd => omega); intro c hc)
  | (with_reducible refine' r_floor_qi ?ha ?hd0 ?hd ?_; (case ha => omega); (case hd0 => omega); (case hd => omega); intro c hc)
  | (with_reducible refine' r_floor_sum ?ha ?hi ?hj ?_; (case ha => omega); (case hi => omega); (case hj => omega); intro c hc)
  | (with_reducible refine' r_floor ?hx ?_; (case hx => with_reducible assumption); (try dsimp only))))
local macro_rules | `(tactic| walk_at "call builtin:math.ceil") => `(tactic| (k_here; with_reducible refine' r_ceil_div ?ha ?hd0 ?hd ?_; (case ha => omega); (case hd0 => omega); (case hd => omega); intro c hc))
local macro_rules | `(tactic| walk_at "call builtin:round") => `(tactic| (k_here; with_reducible refine' r_round ?hx ?_; (case hx => first | with_reducible assumption | exact Rd_ty' (by with_reducible assumption) (by with_reducible assumption) (by omega)); (try dsimp only)))
local macro_rules | `(tactic| walk_at "call type:int") => `(tactic| (k_here; refine' r_int ?ex ?ha ?he ?_; (case ex => with_reducible exact rfl); (case ha => omega); (case he => omega); intro c hc))
local macro_rules | `(tactic| walk_at "binaryOp Mod int int") => `(tactic| (k_here; refine' r_mod_ii ?hd0 ?_; (case hd0 => omega); (try dsimp only)))
local macro_rules | `(tactic| walk_at "compareOp In int ref") => `(tactic| (k_here; k_dflt (refine' r_in_tup ?F ?X ?hl ?hi ?hp ?_; (case F => k_asm); (case X => k_asm); (case hl => k_is); (case hi => first | exact ia_a | exact ia_b | exact ia_c); (case hp => first | exact any_a | exact any_b | exact any_c); (try dsimp only))))
local macro_rules | `(tactic| walk_at "compareOp Lt int int") => `(tactic| (k_here; refine' r_lt_ii ?hv ?_; (case hv => first | exact decide_eq_true (by omega) | exact decide_eq_false (by omega) | exact rfl); (try dsimp only)))
local macro_rules | `(tactic| walk_at "compareOp LtE int int") => `(tactic| (k_here; refine' r_le_ii ?hv ?_; (case hv => first | exact decide_eq_true (by omega) | exact decide_eq_false (by omega) | exact rfl); (try dsimp only)))
local macro_rules | `(tactic| walk_at "compareOp Gt int int") => `(tactic| (k_here; refine' r_gt_ii ?hv ?_; (case hv => first | exact decide_eq_true (by omega) | exact decide_eq_false (by omega) | exact rfl); (try dsimp only)))
local macro_rules | `(tactic| walk_at "compareOp GtE int int") => `(tactic| (k_here; refine' r_ge_ii ?hv ?_; (case hv => first | exact decide_eq_true (by omega) | exact decide_eq_false (by omega) | exact rfl); (try dsimp only)))
local macro_rules | `(tactic| walk_at "compareOp Eq int int") => `(tactic| (k_here; refine' r_eq_ii ?hv ?_; (case hv => first | exact decide_eq_true (by omega) | exact decide_eq_false (by omega) | exact rfl); (try dsimp only)))
local macro_rules | `(tactic| walk_at "compareOp NotEq int int") => `(tactic| (k_here; refine' r_ne_ii ?hv ?_; (case hv => first | exact decide_eq_true (by omega) | exact decide_eq_false (by omega) | exact rfl); (try dsimp only)))
local macro_rules | `(tactic| walk_at "binaryOp Add int bool") => `(tactic| (k_here; first | (with_reducible refine' r_add_it ?_; intro c hc) | (with_reducible refine' r_add_if' ?_; intro c hc)))
local macro_rules | `(tactic| walk_at "binaryOp Sub int bool") => `(tactic| (k_here; first | (with_reducible refine' r_sub_it ?_; intro c hc) | (with_reducible refine' r_sub_if' ?_; intro c hc)))
local macro_rules | `(tactic| walk_at "ite") => `(tactic| (k_here; first | with_reducible refine ite_tt ?_ | with_reducible refine ite_ff ?_))
local macro_rules | `(tactic| walk_at "call ref") => `(tactic| (k_here; k_dflt (refine' use_tojd ?kC ?k1 ?k2 ?k3 ?k4 ?k5 ?k6 ?k7 ?k8 ?p0 ?p1 ?p2 ?p3 ?p4 ?_; (case kC => with_reducible assumption); (case k1 => k_asm); (case k2 => k_asm); (case k3 => k_asm); (case k4 => k_asm); (case k5 => k_asm); (case k6 => first | exact rfl | with_reducible assumption); (case k7 => ktr_room); (case k8 => ktr_units); (case p0 => omega); (case p1 => omega); (case p2 => omega); (case p3 => omega); (case p4 => omega); k_whole; intro c9 t9 h9 tk9 hc9 hp9 hb9 hB9 F9 N9; (first | rw [gJ_11] at hc9 | rw [gJ_321] at hc9 | rw [gJ_322] at hc9 | skip); (try dsimp only); (try k_fold))))
local macro_rules | `(tactic| walk_at "call ref") => `(tactic| (k_here; k_dflt (refine' use_tojdP ?kC ?k1 ?k2 ?k3 ?k4 ?k5 ?k6 ?k7 ?k8 ?p0 ?p1 ?p2 ?p3 ?p4 ?_; (case kC => with_reducible assumption); (case k1 => k_asm); (case k2 => k_asm); (case k3 => k_asm); (case k4 => k_asm); (case k5 => k_asm); (case k6 => first | exact rfl | with_reducible assumption); (case k7 => ktr_room); (case k8 => ktr_units); (case p0 => omega); (case p1 => omega); (case p2 => omega); (case p3 => omega); (case p4 => omega); k_whole; intro c9 t9 h9 tk9 hc9 F9 N9; (try dsimp only); (try k_fold))))
local macro_rules | `(tactic| walk_at "call ref") => `(tactic| (k_here; k_dflt (refine' use_fromjdI ?kC ?k1 ?k2 ?k3 ?k4 ?k5 ?k6 ?k7 ?k8 ?p1 ?p2 ?p3 ?p0 ?_; (case kC => with_reducible assumption); (case k1 => k_asm); (case k2 => k_asm); (case k3 => k_asm); (case k4 => k_asm); (case k5 => k_asm); (case k6 => first | exact rfl | with_reducible assumption); (case k7 => ktr_room); (case k8 => ktr_units); (case p1 => first | with_reducible assumption | exact Fl_g1 (by with_reducible assumption) (by with_reducible assumption) | exact Fl_hfo' (by with_reducible assumption) (by omega) | exact Fl_hfo (by omega) | exact Fl_part (by omega) (by omega) (by omega)); (case p2 => first | with_reducible assumption | omega); (case p3 => first | with_reducible assumption | omega); (case p0 => omega); k_whole; intro y9 m9 d9 D9 t91 t92 t93 c9 h9 tk9 hc9 F9 N9 L9; (try simp only [AllLt, and_true] at L9); (try dsimp only); (try k_fold))))
local macro_rules | `(tactic| walk_at "call ref") => `(tactic| (k_here; k_dflt (refine' use_long_s ?kC ?k1 ?k2 ?k3 ?k4 ?k5 ?k6 ?k7 ?k8  ?_ ?_; (case kC => with_reducible assumption); (case k1 => k_asm); (case k2 => k_asm); (case k3 => k_asm); (case k4 => k_asm); (case k5 => k_asm); (case k6 => first | exact rfl | with_reducible assumption); (case k7 => ktr_room); (case k8 => ktr_units); (all_goals (k_whole; intro h9 tk9 hl9 hi9 F9 N9; (try dsimp only); (try k_fold))))))
local macro_rules | `(tactic| walk_at "call ref") => `(tactic| (k_here; k_dflt (refine' use_long_k ?kC ?k1 ?k2 ?k3 ?k4 ?k5 ?k6 ?k7 ?k8 ?he ?_; (case kC => with_reducible assumption); (case k1 => k_asm); (case k2 => k_asm); (case k3 => k_asm); (case k4 => k_asm); (case k5 => k_asm); (case k6 => first | exact rfl | with_reducible assumption); (case k7 => ktr_room); (case k8 => ktr_units); (case he => with_reducible assumption); k_whole; intro h9 tk9 F9 N9; (try dsimp only); (try k_fold))))
local macro_rules | `(tactic| walk_at "call ref") => `(tactic| (k_here; k_dflt (refine' use_leap_s ?kC ?k1 ?k2 ?k3 ?k4 ?k5 ?k6 ?k7 ?k8 ?p0 ?_ ?_; (case kC => with_reducible assumption); (case k1 => k_asm); (case k2 => k_asm); (case k3 => k_asm); (case k4 => k_asm); (case k5 => k_asm); (case k6 => first | exact rfl | with_reducible assumption); (case k7 => ktr_room); (case k8 => ktr_units); (case p0 => omega); (all_goals (k_whole; intro h9 tk9 hl9 hi9 F9 N9; (try dsimp only); (try k_fold))))))
local macro_rules | `(tactic| walk_at "call ref") => `(tactic| (k_here; k_dflt (refine' use_mlen_t ?kC ?k1 ?k2 ?k3 ?k4 ?k5 ?k6 ?k7 ?k8 ?P ?hl ?p0 ?_; (case kC => with_reducible assumption); (case k1 => k_asm); (case k2 => k_asm); (case k3 => k_asm); (case k4 => k_asm); (case k5 => k_asm); (case k6 => first | exact rfl | with_reducible assumption); (case k7 => ktr_room); (case k8 => ktr_units); (case P => with_reducible assumption); (case hl => with_reducible assumption); (case p0 => omega); k_whole; intro c9 t9 h9 tk9 hc9 hb9 hB9 hx9 F9 N9; (try dsimp only); (try k_fold))))
local macro_rules | `(tactic| walk_at "call ref") => `(tactic| (k_here; k_dflt (refine' use_mlen_f ?kC ?k1 ?k2 ?k3 ?k4 ?k5 ?k6 ?k7 ?k8 ?P ?hl ?p0 ?_; (case kC => with_reducible assumption); (case k1 => k_asm); (case k2 => k_asm); (case k3 => k_asm); (case k4 => k_asm); (case k5 => k_asm); (case k6 => first | exact rfl | with_reducible assumption); (case k7 => ktr_room); (case k8 => ktr_units); (case P => with_reducible assumption); (case hl => with_reducible assumption); (case p0 => omega); k_whole; intro c9 t9 h9 tk9 hc9 hb9 hB9 hx9 F9 N9; (try dsimp only); (try k_fold))))
local macro_rules | `(tactic| walk_at "call ref") => `(tactic| (k_here; k_dflt (refine' use_tojdI_1 ?kC ?k1 ?k2 ?k3 ?k4 ?k5 ?k6 ?k7 ?k8 ?hI ?hq ?p2 ?p3 ?p0 ?_; (case kC => with_reducible assumption); (case k1 => k_asm); (case k2 => k_asm); (case k3 => k_asm); (case k4 => k_asm); (case k5 => k_asm); (case k6 => first | exact rfl | with_reducible assumption); (case k7 => ktr_room); (case k8 => ktr_units); (case hI => with_reducible assumption); (case hq => with_reducible assumption); (case p2 => with_reducible assumption); (case p3 => with_reducible assumption); (case p0 => omega); k_whole; intro c9 t9 h9 tk9 hc9 F9 N9; (try dsimp only); (try k_fold))))
local macro_rules | `(tactic| walk_at "call ref") => `(tactic| (k_here; k_dflt (refine' use_fromjdP_n ?kC ?k1 ?k2 ?k3 ?k4 ?k5 ?k6 ?k7 ?k8 ?P ?p2 ?p3 ?p0 ?hc ?_; (case kC => with_reducible assumption); (case k1 => k_asm); (case k2 => k_asm); (case k3 => k_asm); (case k4 => k_asm); (case k5 => k_asm); (case k6 => first | exact rfl | with_reducible assumption); (case k7 => ktr_room); (case k8 => ktr_units); (case P => with_reducible assumption); (case p2 => with_reducible assumption); (case p3 => with_reducible assumption); (case p0 => omega); (case hc => omega); k_whole; intro y9 m9 d9 D9 t91 t92 t93 c9 h9 tk9 hx9 hz9 F9 N9 L9; (try simp only [AllLt, and_true] at L9); (try dsimp only); (try k_fold))))
local macro_rules | `(tactic| walk_at "call ref") => `(tactic| (k_here; k_dflt (refine' use_fromjdP_1 ?kC ?k1 ?k2 ?k3 ?k4 ?k5 ?k6 ?k7 ?k8 ?q1 ?q2 ?p2 ?p3 ?p0 ?_; (case kC => with_reducible assumption); (case k1 => k_asm); (case k2 => k_asm); (case k3 => k_asm); (case k4 => k_asm); (case k5 => k_asm); (case k6 => first | exact rfl | with_reducible assumption); (case k7 => ktr_room); (case k8 => ktr_units); (case q1 => with_reducible assumption); (case q2 => with_reducible assumption); (case p2 => with_reducible assumption); (case p3 => with_reducible assumption); (case p0 => omega); k_whole; intro y9 m9 d9 D9 t91 t92 t93 c9 h9 tk9 hP9 F9 N9 L9; (have z1 := PD.hy hP9); (have z2 := PD.m1 hP9); (have z3 := PD.m2 hP9); (have z4 := PD.d1 hP9); (have z5 := PD.d2 hP9); (have z6 := PD.e1 hP9); (have z7 := PD.e2 hP9); (have z8 := PD.hp hP9); (have y5 := PD.d3 hP9); (try simp only [AllLt, and_true] at L9); (try dsimp only); (try k_fold))))
local macro_rules | `(tactic| walk_at "compareOp NotEq bool bool") => `(tactic| (k_here; with_reducible refine r_ne_bb ?_; (try dsimp only)))
def C_oneday (prog : Program) (w : World) (K : Frag) (p : Program) (loose : List Str) (mean : ExcName → Option Value) (mg mb : Str → Option Value) : Prop :=
  ∀ (n pt g : Int) (tA tB : Tok), 0 ≤ pt → pt < 512 → E g ≤ n → n < E (g + 1) → g.natAbs < 102200 → Gives0 prog w K p loose mean mg mb 10 150 [.float (hf (2 * n + 1)) tA, .float (qi pt 1024) tB] (fun _ => .bool true)
set_option maxHeartbeats 8000000 in
theorem oneday_ok {prog : Program} {w : World} {p : Program} {loose : List Str} {mean : ExcName → Option Value} {mg mb : Str → Option Value} (C3 : C_tojd prog w (hd.heap_39 w.params) p loose mean mg mb) (C8 : C_tojdP prog w (hd.heap_39 w.params) p loose mean mg mb) (Ca : C_fromjdP prog w (hd.heap_39 w.params) p loose mean mg mb) (C9 : C_leap prog w (hd.heap_39 w.params) p loose mean mg mb) (Cb : C_mlen prog w (hd.heap_39 w.params) p loose mean mg mb) (Cc : C_tojdI prog w (hd.heap_39 w.params) p loose mean mg mb) (Cd : C_fromjdI prog w (hd.heap_39 w.params) p loose mean mg mb) (Ce : C_long prog w (hd.heap_39 w.params) p loose mean mg mb) : C_oneday prog w (hd.heap_39 w.params) p loose mean mg mb := by
  have hmk : Mark PySem.Challenge.rw_ad5024_01 hd.heap_39 := by (k_fill; exact trivial)
  unfold C_oneday Gives0
  intro n pt g tA tB q1 q2 p2 p3 p0 dp un gd cn cs a ccd cl outer A₀ base h₀ L m news s Q E' B F X N T hk hd' hu hret
  have gb := E_bt (g := g) (by omega)
  have gn := E_next g
  have gl := lpI_b (g + 1)
  have pa : -102200 < g := by omega
  have pb : g < 102200 := by omega
  clear p0
  refine wpAny_call ?_
  k_dflt cell_enter
  k_steps
  all_goals first
    | (refine' ret_bool (Q := Q) hret ?rF ?rN ?rS ?rE; (case rF => with_reducible assumption); (case rN => with_reducible assumption); (case rS => exact fun p h => by repeat (first | exact h | refine List.Mem.tail _ ?_)); (case rE => first | exact end_c (by with_reducible assumption) (by with_reducible assumption) | exact end_a (by with_reducible assumption) (by with_reducible assumption) | exact end_b (by with_reducible assumption) (by with_reducible assumption) (by with_reducible assumption)))
    | exact (tup_1 (by with_reducible assumption) (by with_reducible assumption) (by with_reducible assumption) (by with_reducible assumption) (by with_reducible assumption)).elim
    | exact (tup_4 (by with_reducible assumption) (by with_reducible assumption) (by with_reducible assumption) (by with_reducible assumption) (by with_reducible assumption)).elim
    | exact (tup_2 (by with_reducible assumption) (by with_reducible assumption) (by with_reducible assumption) (by with_reducible assumption) (by with_reducible assumption) (by with_reducible assumption) (by with_reducible assumption)).elim
    | exact (tup_3 (by with_reducible assumption) (by with_reducible assumption) (by with_reducible assumption) (by with_reducible assumption) (by with_reducible assumption) (by with_reducible assumption) (by with_reducible assumption)).elim
end
theorem use_oneday {prog : Program} {w : World} {K : Frag} {p : Program} {loose : List Str} {mean : ExcName → Option Value} {mg mb : Str → Option Value} {dp un : Nat} {gd : Option (List Code)} {cn : Str} {cs : Scope} {a : Addr} {ccd : Value} {cl : List (Str × Addr)} {outer : List Env} {A₀ : Around} {base h₀ : Heap} {L : Addr} {m : Str → Option Value} {news : List (Addr × Obj)} {s : Shared} {Q E' : Value → Shared → Prop}
    {c pt : Int} {tA tB : Tok} (C : C_oneday prog w K p loose mean mg mb) (B : Below A₀ base outer h₀) (F : Fr h₀ L s.heap m) (X : K.In h₀) (N : News h₀ L s.heap news) (T : Top p loose mean mg mb h₀) (hk : cs.kind = .function) (hd : dp + 10 < recursionLimit) (hu : un + 8 * 10 < cLine)
    (q1 : 0 ≤ pt) (q2 : pt < 512) (q3 : c % 2 = 1) (q4 : -68096915 ≤ c) (q5 : c ≤ 77903091)
    (ret : ∀ (h' : Heap) (tk' : Nat), Fr h₀ L h' m → News h₀ L h' news → Q (.bool true) { s with heap := h', toks := tk' }) :
    wpAny (model prog w) (ktrTop dp un gd cn cs L a ccd cl outer) (call (.ref 150) [.float (hf c) tA, .float (qi pt 1024) tB]) Q E' s := by
  obtain ⟨n, hn⟩ : ∃ n, c = 2 * n + 1 := ⟨c / 2, by omega⟩
  subst hn
  obtain ⟨g, g1, g2⟩ : ∃ g, E g ≤ n ∧ n < E (g + 1) := by
    refine ⟨if n < E ((n - 1721139) * 400 / 146097) then (n - 1721139) * 400 / 146097 - 1 else if n < E ((n - 1721139) * 400 / 146097 + 1) then (n - 1721139) * 400 / 146097 else (n - 1721139) * 400 / 146097 + 1, ?_⟩
    unfold E
    split
    · omega
    · split <;> omega
  have gb : g.natAbs < 102200 := by unfold E at g1 g2; omega
  exact C n pt g tA tB q1 q2 g1 g2 gb dp un gd cn cs a ccd cl outer A₀ base h₀ L m news s Q E' B F X N T hk hd hu (fun _ => ret)
theorem J_2000 : J 2000 = 730119 := by unfold J; decide
theorem all_ok (prog : Program) (w : World) (p : Program) (loose : List Str) (mean : ExcName → Option Value) (mg mb : Str → Option Value) : C_tojd prog w (hd.heap_39 w.params) p loose mean mg mb ∧ C_oneday prog w (hd.heap_39 w.params) p loose mean mg mb := by
  have c1 := @isleap_ok prog w p loose mean mg mb
  have c2 := legal_ok c1
  have c3 := tojd_ok c1 c2
  have c4 := fromjd_ok c1 c3
  have c5 := eqx_ok c3
  have c6 := lasteq_ok c4 c5
  have c7 := pyear_ok c6
  have c8 := tojdP_ok c7
  have ca := fromjdP_ok c6
  have c9 := leap_ok c8
  have cb := mlen_ok c9
  have cc := tojdI_ok c1 c3
  have cd := fromjdI_ok c1 c3 c4
  have ce := @long_ok prog w p loose mean mg mb
  exact ⟨c3, oneday_ok c3 c8 ca c9 cb cc cd ce⟩
section
local macro_rules | `(tactic| walk_at "zz53") => `(tactic| skip)
local macro_rules | `(tactic| walk_at "zz52") => `(tactic| skip)
local macro_rules | `(tactic| walk_at "zz51") => `(tactic| skip)
local macro_rules | `(tactic| walk_at "zz50") => `(tactic| skip)
local macro_rules | `(tactic| walk_at "zz49") => `(tactic| skip)
local macro_rules | `(tactic| walk_at "zz48") => `(tactic| skip)
local macro_rules | `(tactic| walk_at "zz47") => `(tactic| skip)
local macro_rules | `(tactic| walk_at "zz46") => `(tactic| skip)
local macro_rules | `(tactic| walk_at "zz45") => `(tactic| skip)
local macro_rules | `(tactic| walk_at "zz44") => `(tactic| skip)
local macro_rules | `(tactic| walk_at "zz43") => `(tactic| skip)
local macro_rules | `(tactic| walk_at "binaryOp Add float float") => `(tactic| (k_here; refine' r_add_ff ?ex ?ey ?ha ?hb ?_; (case ex => first | with_reducible exact rfl | with_reducible exact lit_epg | with_reducible exact lit_epp | with_reducible exact lit_half); (case ey => first | with_reducible exact rfl | with_reducible exact lit_epg | with_reducible exact lit_epp | with_reducible exact lit_half); (case ha => omega); (case hb => omega); intro c hc))
local macro_rules | `(tactic| walk_at "binaryOp Sub float float") => `(tactic| (k_here; first
  | (refine' r_sub_ff ?ex ?ey ?ha ?hb ?_; (case ex => first | with_reducible exact rfl | with_reducible exact lit_epg | with_reducible exact lit_epp | with_reducible exact lit_half); (case ey => first | with_reducible exact rfl | with_reducible exact lit_epg | with_reducible exact lit_epp | with_reducible exact lit_half); (case ha => omega); (case hb => omega); intro c hc)
  | (refine' r_sub_xf ?ey ?_; (case ey => first | with_reducible exact rfl | with_reducible exact lit_half); (try dsimp only))))
local macro_rules | `(tactic| walk_at "binaryOp Add float int") => `(tactic| (k_here; first
  | (refine' r_add_fi ?ex ?ha ?hn ?_; (case ex => first | with_reducible exact rfl | with_reducible exact lit_epg | with_reducible exact lit_epp); (case ha => omega); (case hn => omega); intro c hc)
  | (refine' r_add_xi ?hn ?_; (case hn => omega); (try dsimp only))))
local macro_rules | `(tactic| walk_at "binaryOp Add int float") => `(tactic| (k_here; refine' r_add_if ?ex ?ha ?hn ?_; (case ex => first | with_reducible exact rfl | with_reducible exact lit_half); (case ha => omega); (case hn => omega); intro c hc))
local macro_rules | `(tactic| walk_at "binaryOp Sub float int") => `(tactic| (k_here; refine' r_sub_fi ?ex ?ha ?hn ?_; (case ex => first | with_reducible exact rfl | with_reducible exact lit_epg | with_reducible exact lit_epp); (case ha => omega); (case hn => omega); intro c hc))
local macro_rules | `(tactic| walk_at "inplaceOp Add float int") => `(tactic| (k_here; refine' r_iadd_fi ?ex ?ha ?hn ?_; (case ex => with_reducible exact rfl); (case ha => omega); (case hn => omega); intro c hc))
local macro_rules | `(tactic| walk_at "inplaceOp Sub float int") => `(tactic| (k_here; refine' r_isub_fi ?ex ?ha ?hn ?_; (case ex => with_reducible exact rfl); (case ha => omega); (case hn => omega); intro c hc))
local macro_rules | `(tactic| walk_at "binaryOp Mult float int") => `(tactic| (k_here; first
  | (refine' r_mul_fi ?ex ?ha ?hd0 ?hd ?_; (case ex => with_reducible exact rfl); (case ha => omega); (case hd0 => omega); (case hd => omega); intro c hc)
  | (refine' r_mul_xi ?hn ?_; (case hn => omega); (try dsimp only))))
local macro_rules | `(tactic| walk_at "binaryOp Div float int") => `(tactic| (k_here; refine' r_div_fi ?ex ?hd0 ?hd ?_; (case ex => with_reducible exact rfl); (case hd0 => omega); (case hd => omega); (try dsimp only)))
local macro_rules | `(tactic| walk_at "binaryOp Div float float") => `(tactic| (k_here; refine' r_div_ty ?ex ?_; (case ex => with_reducible exact rfl); (try dsimp only)))
local macro_rules | `(tactic| walk_at "binaryOp Div int int") => `(tactic| (k_here; refine' r_div_ii ?hd0 ?hn ?_; (case hd0 => omega); (case hn => omega); (try dsimp only)))
local macro_rules | `(tactic| walk_at "binaryOp Mod float int") => `(tactic| (k_here; refine' r_mod_fi ?ex ?ha ?hd0 ?hd ?_; (case ex => with_reducible exact rfl); (case ha => omega); (case hd0 => omega); (case hd => omega); intro c hc))
local macro_rules | `(tactic| walk_at "binaryOp FloorDiv float int") => `(tactic| (k_here; refine' r_fdiv_fi ?ex ?ha ?ho ?hd ?_; (case ex => with_reducible exact rfl); (case ha => omega); (case ho => omega); (case hd => exact rfl); intro c hc))
local macro_rules | `(tactic| walk_at "compareOp Lt float int") => `(tactic| (k_here; refine' r_lt_fi ?ex ?ha ?hv ?_; (case ex => with_reducible exact rfl); (case ha => omega); (case hv => first | exact decide_eq_true (by omega) | exact decide_eq_false (by omega) | exact rfl); (try dsimp only)))
local macro_rules | `(tactic| walk_at "compareOp LtE float int") => `(tactic| (k_here; refine' r_le_fi ?ex ?ha ?hv ?_; (case ex => with_reducible exact rfl); (case ha => omega); (case hv => first | exact decide_eq_true (by omega) | exact decide_eq_false (by omega) | exact rfl); (try dsimp only)))
local macro_rules | `(tactic| walk_at "compareOp Gt float int") => `(tactic| (k_here; refine' r_gt_fi ?ex ?ha ?hv ?_; (case ex => with_reducible exact rfl); (case ha => omega); (case hv => first | exact decide_eq_true (by omega) | exact decide_eq_false (by omega) | exact rfl); (try dsimp only)))
local macro_rules | `(tactic| walk_at "compareOp Lt float float") => `(tactic| (k_here; first
  | (refine' r_lt_ff ?ex ?ey ?ha ?hb ?hv ?_; (case ex => with_reducible exact rfl); (case ey => with_reducible exact rfl); (case ha => omega); (case hb => omega); (case hv => first | exact decide_eq_true (by omega) | exact decide_eq_false (by omega) | exact rfl); (try dsimp only))
  | (refine' r_lt_xe ?hx ?ey ?ha ?he ?hv ?_; (case hx => with_reducible assumption); (case ey => with_reducible exact rfl); (case ha => omega); (case he => omega); (case hv => first | exact decide_eq_true (by omega) | exact decide_eq_false (by omega) | exact rfl); (try dsimp only))))
local macro_rules | `(tactic| walk_at "compareOp LtE float float") => `(tactic| (k_here; first
  | (refine' r_le_ff ?ex ?ey ?ha ?hb ?hv ?_; (case ex => with_reducible exact rfl); (case ey => with_reducible exact rfl); (case ha => omega); (case hb => omega); (case hv => first | exact decide_eq_true (by omega) | exact decide_eq_false (by omega) | exact rfl); (try dsimp only))
  | (refine' r_le_ex ?ex ?hy ?ha ?he ?hv ?_; (case ex => with_reducible exact rfl); (case hy => with_reducible assumption); (case ha => omega); (case he => omega); (case hv => first | exact decide_eq_true (by omega) | exact decide_eq_false (by omega) | exact rfl); (try dsimp only))))
local macro_rules | `(tactic| walk_at "compareOp Gt float float") => `(tactic| (k_here; refine' r_gt_ex ?ex ?hy ?ha ?he ?hv ?_; (case ex => with_reducible exact rfl); (case hy => with_reducible assumption); (case ha => omega); (case he => omega); (case hv => first | exact decide_eq_true (by omega) | exact decide_eq_false (by omega) | exact rfl); (try dsimp only)))
local macro_rules | `(tactic| walk_at "compareOp NotEq float float") => `(tactic| (k_here; refine' r_ne_ff ?ex ?ey ?ha ?hb ?hv ?_; (case ex => with_reducible exact rfl); (case ey => with_reducible exact rfl); (case ha => omega); (case hb => omega); (case hv => first | exact decide_eq_true (by omega) | exact decide_eq_false (by omega) | exact rfl); (try dsimp only)))
local macro_rules | `(tactic| walk_at "call builtin:math.floor") => `(tactic| (k_here; first
  | (with_reducible refine' r_floor_div ?ha ?hd0 ?hd ?_; (case ha => omega); (case hd0 => omega); (case hd => omega); intro c hc)
  | (with_reducible refine' r_floor_qi ?ha ?hd0 ?hd ?_; (case ha => omega); (case hd0 => omega); (case hd => omega); intro c hc)
  | (with_reducible refine' r_floor_sum ?ha ?hi ?hj ?_; (case ha => omega); (case hi => omega); (case hj => omega); intro c hc)
  | (with_reducible refine' r_floor ?hx ?_; (case hx => with_reducible assumption); (try dsimp only))))
local macro_rules | `(tactic| walk_at "call builtin:math.ceil") => `(tactic| (k_here; with_reducible refine' r_ceil_div ?ha ?hd0 ?hd ?_; (case ha => omega); (case hd0 => omega); (case hd => omega); intro c hc))
local macro_rules | `(tactic| walk_at "call builtin:round") => `(tactic| (k_here; with_reducible refine' r_round ?hx ?_; (case hx => first | with_reducible assumption | exact Rd_ty' (by with_reducible assumption) (by with_reducible assumption) (by omega)); (try dsimp only)))
local macro_rules | `(tactic| walk_at "call type:int") => `(tactic| (k_here; refine' r_int ?ex ?ha ?he ?_; (case ex => with_reducible exact rfl); (case ha => omega); (case he => omega); intro c hc))
local macro_rules | `(tactic| walk_at "binaryOp Mod int int") => `(tactic| (k_here; refine' r_mod_ii ?hd0 ?_; (case hd0 => omega); (try dsimp only)))
local macro_rules | `(tactic| walk_at "compareOp In int ref") => `(tactic| (k_here; k_dflt (refine' r_in_tup ?F ?X ?hl ?hi ?hp ?_; (case F => k_asm); (case X => k_asm); (case hl => k_is); (case hi => first | exact ia_a | exact ia_b | exact ia_c); (case hp => first | exact any_a | exact any_b | exact any_c); (try dsimp only))))
local macro_rules | `(tactic| walk_at "compareOp Lt int int") => `(tactic| (k_here; refine' r_lt_ii ?hv ?_; (case hv => first | exact decide_eq_true (by omega) | exact decide_eq_false (by omega) | exact rfl); (try dsimp only)))
local macro_rules | `(tactic| walk_at "compareOp LtE int int") => `(tactic| (k_here; refine' r_le_ii ?hv ?_; (case hv => first | exact decide_eq_true (by omega) | exact decide_eq_false (by omega) | exact rfl); (try dsimp only)))
local macro_rules | `(tactic| walk_at "compareOp Gt int int") => `(tactic| (k_here; refine' r_gt_ii ?hv ?_; (case hv => first | exact decide_eq_true (by omega) | exact decide_eq_false (by omega) | exact rfl); (try dsimp only)))
local macro_rules | `(tactic| walk_at "compareOp GtE int int") => `(tactic| (k_here; refine' r_ge_ii ?hv ?_; (case hv => first | exact decide_eq_true (by omega) | exact decide_eq_false (by omega) | exact rfl); (try dsimp only)))
local macro_rules | `(tactic| walk_at "compareOp Eq int int") => `(tactic| (k_here; refine' r_eq_ii ?hv ?_; (case hv => first | exact decide_eq_true (by omega) | exact decide_eq_false (by omega) | exact rfl); (try dsimp only)))
local macro_rules | `(tactic| walk_at "compareOp NotEq int int") => `(tactic| (k_here; refine' r_ne_ii ?hv ?_; (case hv => first | exact decide_eq_true (by omega) | exact decide_eq_false (by omega) | exact rfl); (try dsimp only)))
local macro_rules | `(tactic| walk_at "binaryOp Add int bool") => `(tactic| (k_here; first | (with_reducible refine' r_add_it ?_; intro c hc) | (with_reducible refine' r_add_if' ?_; intro c hc)))
local macro_rules | `(tactic| walk_at "binaryOp Sub int bool") => `(tactic| (k_here; first | (with_reducible refine' r_sub_it ?_; intro c hc) | (with_reducible refine' r_sub_if' ?_; intro c hc)))
local macro_rules | `(tactic| walk_at "ite") => `(tactic| (k_here; first | with_reducible refine ite_tt ?_ | with_reducible refine ite_ff ?_))
local macro_rules | `(tactic| walk_at "call ref") => `(tactic| (k_here; k_dflt (refine' use_tojd ?kC ?k1 ?k2 ?k3 ?k4 ?k5 ?k6 ?k7 ?k8 ?p0 ?p1 ?p2 ?p3 ?p4 ?_; (case kC => with_reducible assumption); (case k1 => k_asm); (case k2 => k_asm); (case k3 => k_asm); (case k4 => k_asm); (case k5 => k_asm); (case k6 => first | exact rfl | with_reducible assumption); (case k7 => ktr_room); (case k8 => ktr_units); (case p0 => omega); (case p1 => omega); (case p2 => omega); (case p3 => omega); (case p4 => omega); k_whole; intro c9 t9 h9 tk9 hc9 hp9 hb9 hB9 F9 N9; (first | rw [gJ_11] at hc9 | rw [gJ_321] at hc9 | rw [gJ_322] at hc9 | skip); (try dsimp only); (try k_fold))))
local macro_rules | `(tactic| walk_at "call ref") => `(tactic| (k_here; k_dflt (refine' use_oneday ?kC ?k1 ?k2 ?k3 ?k4 ?k5 ?k6 ?k7 ?k8 ?q1 ?q2 ?q3 ?q4 ?q5 ?_; (case kC => with_reducible assumption); (case k1 => k_asm); (case k2 => k_asm); (case k3 => k_asm); (case k4 => k_asm); (case k5 => k_asm); (case k6 => first | exact rfl | with_reducible assumption); (case k7 => ktr_room); (case k8 => ktr_units); (case q1 => omega); (case q2 => omega); (case q3 => omega); (case q4 => omega); (case q5 => omega); k_whole; intro h9 tk9 F9 N9; (try dsimp only); (try k_fold))))
theorem law_claims {prog : Program} {w : World} {p : Program} {loose : List Str} {mean : ExcName → Option Value} {mg mb : Str → Option Value} {h : Heap} (H : ∀ (prog : Program) (w : World) (p : Program) (loose : List Str) (mean : ExcName → Option Value) (mg mb : Str → Option Value), C_tojd prog w (hd.heap_39 w.params) p loose mean mg mb ∧ C_oneday prog w (hd.heap_39 w.params) p loose mean mg mb)
  (_T : Top p loose mean mg mb h) (_X : (hd.heap_39 w.params).In h) : C_tojd prog w (hd.heap_39 w.params) p loose mean mg mb ∧ C_oneday prog w (hd.heap_39 w.params) p loose mean mg mb := H _ _ _ _ _ _ _
set_option maxHeartbeats 8000000 in
theorem law_ok (H : ∀ (prog : Program) (w : World) (p : Program) (loose : List Str) (mean : ExcName → Option Value) (mg mb : Str → Option Value), C_tojd prog w (hd.heap_39 w.params) p loose mean mg mb ∧ C_oneday prog w (hd.heap_39 w.params) p loose mean mg mb) : PySem.Challenge.rw_ad5024_01.Holds := Mine.hd (by
  k_go0
  all_goals try k_fold
  (rename Top _ _ _ _ _ _ => T0)
  (rename Frag.In _ _ => X0)
  obtain ⟨C3, Cz⟩ := law_claims (prog := PySem.Challenge.rw_ad5024_01.row.prog) H T0 X0
  clear H
  have hJ := J_2000
  (k_with "pyIter ref" => k_search (fun _ => True))
  k_steps)
end
end Mine
theorem PySem.Challenge.cw_ad5024_01_holds : PySem.Challenge.rw_ad5024_01.Holds :=
  Mine.law_ok Mine.all_ok
