import PyProof.Rows.All
import Wide.All
import OpenK.AllK
import Wide.FinOn
import PySem.Challenge.RW_ad5017_02
set_option Elab.async false
namespace Mine
open PySem PySem.Float64

/-- x is finite and lo / 2^k ≤ x ≤ hi / 2^k -/
structure Rg (x : UInt64) (k : Nat) (lo hi : Int) : Prop where
  fin : ∃ a m e, decode x = .fin a m e
  lo : lo * 2 ^ 1074 ≤ val x * 2 ^ k
  hi : val x * 2 ^ k ≤ hi * 2 ^ 1074

theorem v_hits {c j : Nat} (hc : c ≤ 2 ^ 53) (hj : 53 ≤ j) (hj2 : j ≤ 1100) : ∃ t, V t = c * 2 ^ j := by
  by_cases h0 : c = 0
  · exact ⟨0, by subst h0; simp [V]⟩
  · by_cases h1 : 2 ^ 52 ≤ c
    · exact ⟨_, V_at (k := j) hc (.inl h1)⟩
    · have hl1 := Nat.log2_self_le h0
      have hl2 : c < 2 ^ (c.log2 + 1) := Nat.lt_log2_self
      have hl3 : c.log2 < 52 := (Nat.log2_lt h0).2 (by omega)
      generalize c.log2 = l at *
      have e1 : 2 ^ l * 2 ^ (52 - l) = 2 ^ 52 := by rw [← Nat.pow_add]; congr 1; omega
      have e2 : 2 ^ (l + 1) * 2 ^ (52 - l) = 2 ^ 53 := by rw [← Nat.pow_add]; congr 1; omega
      have a1 : 2 ^ 52 ≤ c * 2 ^ (52 - l) := by rw [← e1]; exact Nat.mul_le_mul_right _ hl1
      have a2 : c * 2 ^ (52 - l) ≤ 2 ^ 53 := by rw [← e2]; exact Nat.mul_le_mul_right _ (Nat.le_of_lt hl2)
      refine ⟨_, (V_at (k := j - (52 - l)) a2 (.inl a1)).trans ?_⟩
      rw [Nat.mul_assoc, ← Nat.pow_add]
      congr 2
      omega

theorem near_ge {W D t t' : Nat} (hD : 0 < D) (h : dist W (D * V t) ≤ dist W (D * V t')) (hle : D * V t' ≤ W) : V t' ≤ V t := by
  by_cases hc : V t' ≤ V t
  · exact hc
  · exfalso
    have : D * V t < D * V t' := Nat.mul_lt_mul_of_pos_left (by omega) hD
    unfold dist at h
    omega
theorem near_le {W D t t' : Nat} (hD : 0 < D) (h : dist W (D * V t) ≤ dist W (D * V t')) (hle : W ≤ D * V t') : V t ≤ V t' := by
  by_cases hc : V t ≤ V t'
  · exact hc
  · exfalso
    have : D * V t' < D * V t := Nat.mul_lt_mul_of_pos_left (by omega) hD
    unfold dist at h
    omega

theorem k1128 : 2 * 2 ^ 1127 < (2 ^ 54 - 1) * 2 ^ 2045 := by decide +kernel

theorem rg_right {r : UInt64} {neg : Bool} {W D : Nat} (h : Right r neg W D) (hD : 0 < D) {v : Int} (hv : sgn neg W = v) {k : Nat} {p q : Int} (hk : k ≤ 1000)
    (hp : p.natAbs ≤ 2 ^ 53) (hq : q.natAbs ≤ 2 ^ 53) (hlo : p * (D * 2 ^ 1074) ≤ v * 2 ^ k) (hhi : v * 2 ^ k ≤ q * (D * 2 ^ 1074)) : Rg r k p q := by
  obtain ⟨j, hj⟩ : ∃ j, j + k = 1074 := ⟨1074 - k, by omega⟩
  have hpk : (0 : Int) < 2 ^ k := Int.pow_pos (by decide)
  have hpj : (0 : Int) < 2 ^ j := Int.pow_pos (by decide)
  have eK : (2 : Int) ^ 1074 = 2 ^ j * 2 ^ k := by rw [← Int.pow_add, hj]
  rw [eK] at hlo hhi
  have hlo' : p * (D * 2 ^ j) ≤ v := by
    refine Int.le_of_mul_le_mul_right ?_ hpk
    calc p * (D * 2 ^ j) * 2 ^ k = p * (D * (2 ^ j * 2 ^ k)) := by simp only [Int.mul_assoc]
      _ ≤ _ := hlo
  have hhi' : v ≤ q * (D * 2 ^ j) := by
    refine Int.le_of_mul_le_mul_right ?_ hpk
    calc v * 2 ^ k ≤ q * (D * (2 ^ j * 2 ^ k)) := hhi
      _ = q * (D * 2 ^ j) * 2 ^ k := by simp only [Int.mul_assoc]
  clear hlo hhi
  obtain ⟨t, rfl, htI, htIff, hnear⟩ := h
  have hcast : ∀ c : Int, 0 ≤ c → ((D * (c.natAbs * 2 ^ j) : Nat) : Int) = c * (D * 2 ^ j) := by
    intro c hc
    have : ((c.natAbs : Nat) : Int) = c := by omega
    rw [Int.natCast_mul, Int.natCast_mul, Int.natCast_pow, this]
    show (D : Int) * (c * 2 ^ j) = c * (D * 2 ^ j)
    rw [Int.mul_left_comm]
  have hDj : (0 : Int) < D * 2 ^ j := Int.mul_pos (by omega) hpj
  -- the size of W
  have hWs : W ≤ D * (2 ^ 53 * 2 ^ j) := by
    have : (W : Int) ≤ 2 ^ 53 * (D * 2 ^ j) := by
      have h1 : p * (D * 2 ^ j) ≥ -(2 ^ 53) * (D * 2 ^ j) := Int.mul_le_mul_of_nonneg_right (by omega) (Int.le_of_lt hDj)
      have h2 : q * (D * 2 ^ j) ≤ 2 ^ 53 * (D * 2 ^ j) := Int.mul_le_mul_of_nonneg_right (by omega) (Int.le_of_lt hDj)
      unfold sgn at hv
      cases neg
      · simp only [Bool.false_eq_true, if_false] at hv; omega
      · simp only [if_true] at hv; omega
    have e := hcast (2 ^ 53) (by decide)
    rw [← e] at this
    have this2 := Int.ofNat_le.mp this
    simpa using this2
  have ht : t < infMag := by
    rcases Nat.lt_or_ge t infMag with h | h
    · exact h
    · exfalso
      have := htIff.mp (by omega)
      have hj2 : 2 ^ 53 * 2 ^ j ≤ 2 ^ 1127 := by
        rw [← Nat.pow_add]; exact Nat.pow_le_pow_right Nat.two_pos (by omega)
      have h3 : D * (2 ^ 53 * 2 ^ j) ≤ D * 2 ^ 1127 := Nat.mul_le_mul_left _ hj2
      have h4 : D * (2 * 2 ^ 1127) < D * ((2 ^ 54 - 1) * 2 ^ 2045) := Nat.mul_lt_mul_of_pos_left k1128 hD
      have h5 : D * (2 * 2 ^ 1127) = 2 * (D * 2 ^ 1127) := by rw [Nat.mul_left_comm]
      generalize 2 ^ 1127 = X1 at *
      generalize (2 ^ 54 - 1) * 2 ^ 2045 = X2 at *
      generalize 2 ^ 53 * 2 ^ j = X3 at *
      omega
  have hge : ∀ c : Int, 0 ≤ c → c.natAbs ≤ 2 ^ 53 → c * (D * 2 ^ j) ≤ W → c * 2 ^ j ≤ (V t : Int) := by
    intro c h0 h1 h2
    obtain ⟨t', ht'⟩ := v_hits (j := j) h1 (by omega) (by omega)
    have h3 : D * V t' ≤ W := by
      rw [ht']
      rw [← hcast c h0] at h2
      exact Int.ofNat_le.mp h2
    have := Int.ofNat_le.mpr (near_ge hD (hnear ht t').1 h3)
    rw [ht', Int.natCast_mul, Int.natCast_pow] at this
    have e : ((c.natAbs : Nat) : Int) = c := by omega
    rw [e] at this
    exact this
  have hle : ∀ c : Int, 0 ≤ c → c.natAbs ≤ 2 ^ 53 → W ≤ c * (D * 2 ^ j) → (V t : Int) ≤ c * 2 ^ j := by
    intro c h0 h1 h2
    obtain ⟨t', ht'⟩ := v_hits (j := j) h1 (by omega) (by omega)
    have h3 : W ≤ D * V t' := by
      rw [ht']
      rw [← hcast c h0] at h2
      exact Int.ofNat_le.mp h2
    have := Int.ofNat_le.mpr (near_le hD (hnear ht t').1 h3)
    rw [ht', Int.natCast_mul, Int.natCast_pow] at this
    have e : ((c.natAbs : Nat) : Int) = c := by omega
    rw [e] at this
    exact this
  obtain ⟨m, e, hdec, _⟩ := decode_pack neg ht
  have hval := val_pack neg ht
  have main : p * 2 ^ j ≤ val (pack neg t) ∧ val (pack neg t) ≤ q * 2 ^ j := by
    rw [hval]
    have hV : (0 : Int) ≤ V t := Int.natCast_nonneg _
    unfold sgn at hv ⊢
    cases neg
    · simp only [Bool.false_eq_true, if_false] at hv ⊢
      have hq0 : 0 ≤ q := by
        rcases Int.lt_or_le q 0 with h | h
        · have := Int.mul_neg_of_neg_of_pos h hDj; omega
        · exact h
      constructor
      · rcases Int.lt_or_le p 0 with h | h
        · have := Int.mul_neg_of_neg_of_pos h hpj; omega
        · exact hge p h hp (by omega)
      · exact hle q hq0 hq (by omega)
    · simp only [if_true] at hv ⊢
      have hp0 : 0 ≤ -p := by
        rcases Int.lt_or_le (-p) 0 with h | h
        · have := Int.mul_pos (show 0 < p by omega) hDj; omega
        · exact h
      constructor
      · have := hle (-p) hp0 (by omega) (by rw [Int.neg_mul]; omega)
        rw [Int.neg_mul] at this; omega
      · rcases Int.lt_or_le (-q) 0 with h | h
        · have := Int.mul_pos (show 0 < q by omega) hpj; omega
        · have := hge (-q) h (by omega) (by rw [Int.neg_mul]; omega)
          rw [Int.neg_mul] at this; omega
  refine ⟨⟨_, _, _, hdec⟩, ?_, ?_⟩
  · rw [eK, ← Int.mul_assoc]
    exact Int.mul_le_mul_of_nonneg_right main.1 (Int.le_of_lt hpk)
  · rw [eK, ← Int.mul_assoc]
    exact Int.mul_le_mul_of_nonneg_right main.2 (Int.le_of_lt hpk)
theorem Rg.weak {x : UInt64} {k : Nat} {lo hi lo' hi' : Int} (h : Rg x k lo hi) (h1 : lo' ≤ lo) (h2 : hi ≤ hi') : Rg x k lo' hi' :=
  ⟨h.fin, Int.le_trans (Int.mul_le_mul_of_nonneg_right h1 (Int.le_of_lt (Int.pow_pos (by decide)))) h.lo, Int.le_trans h.hi (Int.mul_le_mul_of_nonneg_right h2 (Int.le_of_lt (Int.pow_pos (by decide))))⟩
theorem Rg.up {x : UInt64} {k : Nat} {lo hi : Int} (h : Rg x k lo hi) (d : Nat) : Rg x (k + d) (lo * 2 ^ d) (hi * 2 ^ d) := by
  have hpd : (0 : Int) < 2 ^ d := Int.pow_pos (by decide)
  refine ⟨h.fin, ?_, ?_⟩
  · rw [Int.pow_add, ← Int.mul_assoc, Int.mul_right_comm lo]
    exact Int.mul_le_mul_of_nonneg_right h.lo (Int.le_of_lt hpd)
  · rw [Int.pow_add, ← Int.mul_assoc, Int.mul_right_comm hi]
    exact Int.mul_le_mul_of_nonneg_right h.hi (Int.le_of_lt hpd)

theorem rg_ofInt {n : Int} (h : n.natAbs ≤ 2 ^ 53) : Rg (ofInt n) 0 n n := by
  have e : sgn (decide (n < 0)) (n.natAbs * 2 ^ 1074) = n * 2 ^ 1074 := by
    rw [sgn_mul]
    have : sgn (decide (n < 0)) n.natAbs = n := by
      unfold sgn
      by_cases hn : n < 0
      · simp [hn]; omega
      · simp [hn]; omega
    rw [this, Int.natCast_pow]
    rfl
  refine rg_right (ofInt_right n) Nat.one_pos e (by decide) h h ?_ ?_ <;> simp

theorem rg_ofFrac {a : Int} {b : Int} (hb : 0 < b) {k : Nat} {p q : Int} (hk : k ≤ 1000) (hp : p.natAbs ≤ 2 ^ 53) (hq : q.natAbs ≤ 2 ^ 53) (hlo : p * b ≤ a * 2 ^ k) (hhi : a * 2 ^ k ≤ q * b) :
    Rg (ofFrac (decide (a < 0) != decide (b < 0)) a.natAbs b.natAbs) k p q := by
  have hs : (decide (a < 0) != decide (b < 0)) = decide (a < 0) := by
    have : ¬ b < 0 := by omega
    simp [this]
  rw [hs]
  have e : sgn (decide (a < 0)) (a.natAbs * 2 ^ 1074) = a * 2 ^ 1074 := by
    rw [sgn_mul]
    have : sgn (decide (a < 0)) a.natAbs = a := by
      unfold sgn
      by_cases hn : a < 0
      · simp [hn]; omega
      · simp [hn]; omega
    rw [this, Int.natCast_pow]
    rfl
  have hb' : ((b.natAbs : Nat) : Int) = b := by omega
  have hbn : 0 < b.natAbs := by omega
  have hP : (0 : Int) < 2 ^ 1074 := Int.pow_pos (by decide)
  refine rg_right (ofFrac_right (W := a.natAbs * 2 ^ 1074) hbn rfl hbn) hbn e hk hp hq ?_ ?_
  · rw [hb', ← Int.mul_assoc, Int.mul_right_comm a]
    exact Int.mul_le_mul_of_nonneg_right hlo (Int.le_of_lt hP)
  · rw [hb', ← Int.mul_assoc, Int.mul_right_comm a]
    exact Int.mul_le_mul_of_nonneg_right hhi (Int.le_of_lt hP)

theorem val_zero (b : Bool) : val (zero b) = 0 := by
  have := val_pack b (t := 0) (by decide)
  unfold zero
  rw [this]
  unfold sgn V
  cases b <;> simp
theorem fin_zero (b : Bool) : ∃ a m e, decode (zero b) = .fin a m e := by
  obtain ⟨m, e, h, _⟩ := decode_pack b (t := 0) (by decide)
  exact ⟨b, m, e, h⟩
theorem sgn_abs (v : Int) : sgn (decide (v < 0)) v.natAbs = v := by
  unfold sgn
  by_cases hn : v < 0
  · simp [hn]; omega
  · simp [hn]; omega

theorem rg_add {x y : UInt64} {k : Nat} {lo hi lo' hi' : Int} (hx : Rg x k lo hi) (hy : Rg y k lo' hi') (hk : k ≤ 1000) (hp : (lo + lo').natAbs ≤ 2 ^ 53) (hq : (hi + hi').natAbs ≤ 2 ^ 53) : Rg (add x y) k (lo + lo') (hi + hi') := by
  obtain ⟨a, m, e, dx⟩ := hx.fin
  obtain ⟨b, m', e', dy⟩ := hy.fin
  have h := add_right dx dy
  have l1 : (lo + lo') * 2 ^ 1074 ≤ (val x + val y) * 2 ^ k := by rw [Int.add_mul, Int.add_mul]; exact Int.add_le_add hx.lo hy.lo
  have l2 : (val x + val y) * 2 ^ k ≤ (hi + hi') * 2 ^ 1074 := by rw [Int.add_mul, Int.add_mul]; exact Int.add_le_add hx.hi hy.hi
  by_cases h0 : val x + val y = 0
  · rw [h.1 h0]
    rw [h0] at l1 l2
    exact ⟨fin_zero _, by rw [val_zero]; exact l1, by rw [val_zero]; exact l2⟩
  · refine rg_right (h.2 h0) Nat.one_pos (sgn_abs _) hk hp hq ?_ ?_
    · simpa using l1
    · simpa using l2
theorem rg_neg {y : UInt64} {k : Nat} {lo hi : Int} (hy : Rg y k lo hi) : Rg (neg y) k (-hi) (-lo) := by
  obtain ⟨b, m', e', dy⟩ := hy.fin
  refine ⟨⟨_, _, _, neg_decode dy⟩, ?_, ?_⟩
  · rw [neg_val dy, Int.neg_mul, Int.neg_mul]; exact Int.neg_le_neg hy.hi
  · rw [neg_val dy, Int.neg_mul, Int.neg_mul]; exact Int.neg_le_neg hy.lo
theorem rg_sub {x y : UInt64} {k : Nat} {lo hi lo' hi' : Int} (hx : Rg x k lo hi) (hy : Rg y k lo' hi') (hk : k ≤ 1000) (hp : (lo - hi').natAbs ≤ 2 ^ 53) (hq : (hi - lo').natAbs ≤ 2 ^ 53) : Rg (sub x y) k (lo - hi') (hi - lo') :=
  by unfold sub; exact rg_add hx (rg_neg hy) hk hp hq

theorem sgn_val {x : UInt64} {a : Bool} {m : Nat} {e : Int} (h : decode x = .fin a m e) : sgn a (val x).natAbs = val x := by
  rw [val_natAbs h, val_eq h]
theorem sgn_xor (a b : Bool) (m k : Nat) : sgn (a != b) (m * k) = sgn a m * sgn b k := by
  unfold sgn
  cases a <;> cases b <;> simp [Int.neg_mul, Int.mul_neg]

theorem Rg.exact {x : UInt64} {k : Nat} {n : Int} (h : Rg x k n n) : val x * 2 ^ k = n * 2 ^ 1074 := Int.le_antisymm h.hi h.lo

/-- the product of two exact ones -/
theorem rg_mul {x y : UInt64} {i j : Nat} {n c : Int} (hx : Rg x i n n) (hy : Rg y j c c) (hk : i + j ≤ 1000) (hp : (n * c).natAbs ≤ 2 ^ 53) : Rg (mul x y) (i + j) (n * c) (n * c) := by
  obtain ⟨a, m, e, dx⟩ := hx.fin
  obtain ⟨b, m', e', dy⟩ := hy.fin
  have h := mul_right dx dy
  have hv : sgn (a != b) ((val x).natAbs * (val y).natAbs) = val x * val y := by rw [sgn_xor, sgn_val dx, sgn_val dy]
  have key : val x * val y * 2 ^ (i + j) = n * c * (2 ^ 1074 * 2 ^ 1074) := by
    rw [Int.pow_add]
    calc val x * val y * (2 ^ i * 2 ^ j) = (val x * 2 ^ i) * (val y * 2 ^ j) := by
          generalize (2 : Int) ^ i = X; generalize (2 : Int) ^ j = Y
          ac_rfl
      _ = (n * 2 ^ 1074) * (c * 2 ^ 1074) := by rw [hx.exact, hy.exact]
      _ = _ := by
          generalize (2 : Int) ^ 1074 = X
          ac_rfl
  have e2 : (((2 ^ 1074 : Nat) : Int) * 2 ^ 1074) = 2 ^ 1074 * 2 ^ 1074 := by rw [Int.natCast_pow]; rfl
  refine rg_right h (Nat.pow_pos Nat.two_pos) hv hk hp hp ?_ ?_
  · rw [e2, key]; exact Int.le_refl _
  · rw [e2, key]; exact Int.le_refl _

/-- a quotient by an exact one above nought -/
theorem rg_div {x y : UInt64} {i j : Nat} {lo hi c : Int} (hx : Rg x i lo hi) (hy : Rg y j c c) (hc : 0 < c) {k : Nat} {p q : Int} (hk : k ≤ 1000) (hp : p.natAbs ≤ 2 ^ 53) (hq : q.natAbs ≤ 2 ^ 53)
    (hlo : p * c * 2 ^ i ≤ lo * 2 ^ j * 2 ^ k) (hhi : hi * 2 ^ j * 2 ^ k ≤ q * c * 2 ^ i) : Rg (div x y) k p q := by
  obtain ⟨a, m, e, dx⟩ := hx.fin
  obtain ⟨b, m', e', dy⟩ := hy.fin
  have hpw : ∀ n : Nat, (0 : Int) < 2 ^ n := fun n => Int.pow_pos (by decide)
  have hy0 : 0 < val y := by
    have h1 := hy.exact
    have h2 := Int.mul_pos hc (hpw 1074)
    rw [← h1] at h2
    rcases Int.lt_or_le 0 (val y) with h | h
    · exact h
    · have := Int.mul_le_mul_of_nonneg_right h (Int.le_of_lt (hpw j))
      rw [Int.zero_mul] at this; omega
  have hm' : m' ≠ 0 := by
    intro h0
    rw [val_eq dy, h0, Nat.zero_mul] at hy0
    unfold sgn at hy0
    cases b <;> simp at hy0
  have h := div_right dx dy hm'
  have hb : b = false := by
    cases b
    · rfl
    · rw [val_eq dy] at hy0
      unfold sgn at hy0
      simp only [if_true] at hy0
      omega
  subst hb
  have hv : sgn (a != false) ((val x).natAbs * 2 ^ 1074) = val x * 2 ^ 1074 := by
    rw [Bool.bne_false, sgn_mul, sgn_val dx, Int.natCast_pow]; rfl
  have hya : (((val y).natAbs : Nat) : Int) = val y := by omega
  refine rg_right h (by omega) hv hk hp hq ?_ ?_
  · rw [hya]
    refine Int.le_of_mul_le_mul_right ?_ (Int.mul_pos (hpw i) (hpw j))
    calc p * (val y * 2 ^ 1074) * (2 ^ i * 2 ^ j) = p * (val y * 2 ^ j) * 2 ^ i * 2 ^ 1074 := by
          generalize (2 : Int) ^ i = X; generalize (2 : Int) ^ j = Y; generalize (2 : Int) ^ 1074 = Z
          ac_rfl
      _ = (p * c * 2 ^ i) * (2 ^ 1074 * 2 ^ 1074) := by
          rw [hy.exact]
          generalize (2 : Int) ^ i = X; generalize (2 : Int) ^ 1074 = Z
          ac_rfl
      _ ≤ (lo * 2 ^ j * 2 ^ k) * (2 ^ 1074 * 2 ^ 1074) := Int.mul_le_mul_of_nonneg_right hlo (Int.le_of_lt (Int.mul_pos (hpw _) (hpw _)))
      _ = (lo * 2 ^ 1074) * (2 ^ j * 2 ^ k * 2 ^ 1074) := by
          generalize (2 : Int) ^ j = X; generalize (2 : Int) ^ k = Y; generalize (2 : Int) ^ 1074 = Z
          ac_rfl
      _ ≤ (val x * 2 ^ i) * (2 ^ j * 2 ^ k * 2 ^ 1074) := Int.mul_le_mul_of_nonneg_right hx.lo (Int.le_of_lt (Int.mul_pos (Int.mul_pos (hpw _) (hpw _)) (hpw _)))
      _ = _ := by
          generalize (2 : Int) ^ j = X; generalize (2 : Int) ^ k = Y; generalize (2 : Int) ^ 1074 = Z; generalize (2 : Int) ^ i = U
          ac_rfl
  · rw [hya]
    refine Int.le_of_mul_le_mul_right ?_ (Int.mul_pos (hpw i) (hpw j))
    calc val x * 2 ^ 1074 * 2 ^ k * (2 ^ i * 2 ^ j) = (val x * 2 ^ i) * (2 ^ j * 2 ^ k * 2 ^ 1074) := by
          generalize (2 : Int) ^ j = X; generalize (2 : Int) ^ k = Y; generalize (2 : Int) ^ 1074 = Z; generalize (2 : Int) ^ i = U
          ac_rfl
      _ ≤ (hi * 2 ^ 1074) * (2 ^ j * 2 ^ k * 2 ^ 1074) := Int.mul_le_mul_of_nonneg_right hx.hi (Int.le_of_lt (Int.mul_pos (Int.mul_pos (hpw _) (hpw _)) (hpw _)))
      _ = (hi * 2 ^ j * 2 ^ k) * (2 ^ 1074 * 2 ^ 1074) := by
          generalize (2 : Int) ^ j = X; generalize (2 : Int) ^ k = Y; generalize (2 : Int) ^ 1074 = Z
          ac_rfl
      _ ≤ (q * c * 2 ^ i) * (2 ^ 1074 * 2 ^ 1074) := Int.mul_le_mul_of_nonneg_right hhi (Int.le_of_lt (Int.mul_pos (hpw _) (hpw _)))
      _ = p * 0 + q * (val y * 2 ^ j) * 2 ^ i * 2 ^ 1074 := by
          rw [hy.exact, Int.mul_zero, Int.zero_add]
          generalize (2 : Int) ^ i = X; generalize (2 : Int) ^ 1074 = Z
          ac_rfl
      _ = _ := by
          rw [Int.mul_zero, Int.zero_add]
          generalize (2 : Int) ^ i = X; generalize (2 : Int) ^ j = Y; generalize (2 : Int) ^ 1074 = Z
          ac_rfl

/-- floor -/
theorem floor_val {x : UInt64} {s : Bool} {m : Nat} {e : Int} (h : decode x = .fin s m e) : floorOf s m e = val x / 2 ^ 1074 := by
  have he := decode_ge h
  rw [val_eq h, sgn_mul, Int.natCast_pow]
  unfold floorOf
  have hpw : ∀ n : Nat, (0 : Int) < 2 ^ n := fun n => Int.pow_pos (by decide)
  show _ = sgn s m * 2 ^ (e + 1074).toNat / 2 ^ 1074
  split
  · rename_i hc
    have e1 : (e + 1074).toNat = e.toNat + 1074 := by omega
    rw [e1, Int.pow_add, ← Int.mul_assoc, Int.mul_ediv_cancel _ (Int.ne_of_gt (hpw _))]
  · rename_i hc
    obtain ⟨f, hf⟩ : ∃ f : Nat, e = -(f : Int) ∧ f ≤ 1074 := ⟨(-e).toNat, by omega, by omega⟩
    obtain ⟨rfl, hf⟩ := hf
    have e1 : (-(f : Int) + 1074).toNat = 1074 - f := by omega
    have e2 : (-(-(f : Int))).toNat = f := by omega
    have e3 : (2 : Int) ^ 1074 = 2 ^ f * 2 ^ (1074 - f) := by rw [← Int.pow_add]; congr 1; omega
    rw [e1, e2, e3, Int.mul_ediv_mul_of_pos_left _ _ (hpw _), Int.fdiv_eq_ediv_of_nonneg _ (Int.le_of_lt (hpw _))]

theorem rg_floor {x : UInt64} {s : Bool} {m : Nat} {e : Int} (h : decode x = .fin s m e) {k : Nat} {lo hi : Int} (hx : Rg x k lo hi) {n : Int} (h1 : n * 2 ^ k ≤ lo) (h2 : hi < (n + 1) * 2 ^ k) : floorOf s m e = n := by
  rw [floor_val h]
  have hpw : ∀ n : Nat, (0 : Int) < 2 ^ n := fun n => Int.pow_pos (by decide)
  have a1 : n * 2 ^ 1074 ≤ val x := by
    refine Int.le_of_mul_le_mul_right ?_ (hpw k)
    calc n * 2 ^ 1074 * 2 ^ k = (n * 2 ^ k) * 2 ^ 1074 := Int.mul_right_comm _ _ _
      _ ≤ lo * 2 ^ 1074 := Int.mul_le_mul_of_nonneg_right h1 (Int.le_of_lt (hpw _))
      _ ≤ _ := hx.lo
  have a2 : val x < (n + 1) * 2 ^ 1074 := by
    refine Int.lt_of_mul_lt_mul_right ?_ (Int.le_of_lt (hpw k))
    calc val x * 2 ^ k ≤ hi * 2 ^ 1074 := hx.hi
      _ < ((n + 1) * 2 ^ k) * 2 ^ 1074 := Int.mul_lt_mul_of_pos_right h2 (hpw _)
      _ = _ := Int.mul_right_comm _ _ _
  have b1 := (Int.le_ediv_iff_mul_le (hpw 1074)).mpr a1
  have b2 := (Int.ediv_lt_iff_lt_mul (hpw 1074)).mpr a2
  generalize val x / 2 ^ 1074 = z at *
  clear a1 a2
  omega

theorem toInt_fin {f : Bool → Nat → Int → Int} {x : UInt64} {s : Bool} {m : Nat} {e : Int} (h : decode x = .fin s m e) : Flt.toInt f x = f s m e := Flt.toInt_fin h

theorem rg_toFloor {x : UInt64} {k : Nat} {lo hi : Int} (hx : Rg x k lo hi) {n : Int} (h1 : n * 2 ^ k ≤ lo) (h2 : hi < (n + 1) * 2 ^ k) : Flt.toInt floorOf x = n := by
  obtain ⟨a, m, e, d⟩ := hx.fin
  rw [Flt.toInt_fin d]
  exact rg_floor d hx h1 h2

theorem decode_neg_val {x : UInt64} {s : Bool} {m : Nat} {e : Int} (h : decode x = .fin s m e) : (s = true → val x ≤ 0) ∧ (s = false → 0 ≤ val x) := by
  rw [val_eq h]
  unfold sgn
  constructor
  · intro hs; subst hs; simp only [if_true]; generalize m * 2 ^ (e + 1074).toNat = z; omega
  · intro hs; subst hs; simp only [Bool.false_eq_true, if_false]; generalize m * 2 ^ (e + 1074).toNat = z; omega

/-- trunc of what lies at or above nought -/
theorem rg_toTrunc {x : UInt64} {k : Nat} {lo hi : Int} (hx : Rg x k lo hi) {n : Int} (hn : 0 ≤ n) (h1 : n * 2 ^ k ≤ lo) (h2 : hi < (n + 1) * 2 ^ k) : Flt.toInt truncOf x = n := by
  have hpw : ∀ n : Nat, (0 : Int) < 2 ^ n := fun n => Int.pow_pos (by decide)
  obtain ⟨a, m, e, d⟩ := hx.fin
  rw [Flt.toInt_fin d]
  have hf := rg_floor d hx h1 h2
  unfold truncOf
  cases a
  · simpa using hf
  · have hv := (decode_neg_val d).1 rfl
    have h0 : 0 ≤ val x := by
      have : 0 ≤ val x * 2 ^ k := Int.le_trans (Int.mul_nonneg (Int.le_trans (Int.mul_nonneg hn (Int.le_of_lt (hpw k))) h1) (Int.le_of_lt (hpw 1074))) hx.lo
      rcases Int.lt_or_le (val x) 0 with h | h
      · have := Int.mul_neg_of_neg_of_pos h (hpw k); omega
      · exact h
    have hz : val x = 0 := by omega
    have hf2 := floor_val d
    rw [hz, Int.zero_ediv] at hf2
    have hn0 : n = 0 := by omega
    subst hn0
    have hm : m = 0 := by
      have h3 := val_natAbs d
      rw [hz] at h3
      have h4 : m * 2 ^ (e + 1074).toNat = 0 := by omega
      rcases Nat.mul_eq_zero.mp h4 with h | h
      · exact h
      · exact absurd h (Nat.ne_of_gt (Nat.two_pow_pos _))
    subst hm
    simp [ceilOf, floorOf, sgn]

/-- trunc of what lies between -1 and nought -/
theorem rg_toTrunc0 {x : UInt64} {k : Nat} {lo hi : Int} (hx : Rg x k lo hi) (h1 : -(2 ^ k) < lo) (h2 : hi ≤ 0) : Flt.toInt truncOf x = 0 := by
  have hpw : ∀ n : Nat, (0 : Int) < 2 ^ n := fun n => Int.pow_pos (by decide)
  have hng := rg_neg hx
  obtain ⟨a, m, e, d⟩ := hx.fin
  have dn := neg_decode d
  rw [Flt.toInt_fin d]
  unfold truncOf
  cases a
  · have hv := (decode_neg_val d).2 rfl
    have hle : val x ≤ 0 := by
      have h3 : val x * 2 ^ k ≤ 0 := Int.le_trans hx.hi (Int.mul_nonpos_of_nonpos_of_nonneg h2 (Int.le_of_lt (hpw 1074)))
      rcases Int.lt_or_le 0 (val x) with h | h
      · have := Int.mul_pos h (hpw k); omega
      · exact h
    have hz : val x = 0 := by omega
    have hf2 := floor_val d
    rw [hz, Int.zero_ediv] at hf2
    simpa using hf2
  · have hf := rg_floor (n := 0) dn hng (by omega) (by omega)
    simp only [if_true]
    unfold ceilOf
    rw [hf]
    rfl

/-- z is the double nearest to a / b -/
def Qt (z : UInt64) (a b : Int) : Prop := ∀ (k : Nat) (p q : Int), k ≤ 1000 → p.natAbs ≤ 2 ^ 53 → q.natAbs ≤ 2 ^ 53 → p * b ≤ a * 2 ^ k → a * 2 ^ k ≤ q * b → Rg z k p q

theorem qt_ofFrac {a b : Int} (hb : 0 < b) : Qt (ofFrac (decide (a < 0) != decide (b < 0)) a.natAbs b.natAbs) a b := fun _ _ _ hk hp hq hlo hhi => rg_ofFrac hb hk hp hq hlo hhi

theorem qt_div {x : UInt64} {a b : Int} (hx : Rg x 0 a a) (hb : 0 < b) (hb2 : b ≤ 2 ^ 53) : Qt (div x (ofInt b)) a b := fun k p q hk hp hq hlo hhi =>
  rg_div hx (rg_ofInt (n := b) (by omega)) hb hk hp hq (by simpa using hlo) (by simpa using hhi)

theorem qt_bounds {a b : Int} (hb : 0 < b) (hb2 : b ≤ 2 ^ 20) (ha : a.natAbs ≤ 2 ^ 32 * b.natAbs) : (a / b).natAbs ≤ 2 ^ 32 := by
  have h1 := Int.emod_add_mul_ediv a b
  have h2 := Int.emod_nonneg a (Int.ne_of_gt hb)
  have h3 := Int.emod_lt_of_pos a hb
  generalize a / b = n at *
  rcases Int.lt_or_le n 0 with h | h
  · have h4 : -(2 ^ 32) ≤ n := by
      rcases Int.lt_or_le n (-(2 ^ 32)) with h5 | h5
      · exfalso
        have : b * n ≤ b * (-(2 ^ 32) - 1) := Int.mul_le_mul_of_nonneg_left (by omega) (Int.le_of_lt hb)
        omega
      · exact h5
    omega
  · have h4 : n ≤ 2 ^ 32 := by
      rcases Int.lt_or_le (2 ^ 32) n with h5 | h5
      · exfalso
        have : b * (2 ^ 32 + 1) ≤ b * n := Int.mul_le_mul_of_nonneg_left (by omega) (Int.le_of_lt hb)
        omega
      · exact h5
    omega

/-- z lies in [n, n + 1) with room to spare -/
abbrev Fl (z : UInt64) (n : Int) : Prop := Rg z 20 (n * 2 ^ 20) (n * 2 ^ 20 + 1048575)

theorem qt_fl {z : UInt64} {a b : Int} (h : Qt z a b) (hb : 0 < b) (hb2 : b ≤ 2 ^ 20) (ha : a.natAbs ≤ 2 ^ 32 * b.natAbs) : Fl z (a / b) := by
  have h0 := qt_bounds hb hb2 ha
  have h1 := Int.emod_add_mul_ediv a b
  have h2 := Int.emod_nonneg a (Int.ne_of_gt hb)
  have h3 := Int.emod_lt_of_pos a hb
  generalize a / b = n at *
  generalize a % b = r at *
  subst h1
  refine h 20 _ _ (by decide) (by omega) (by omega) ?_ ?_
  · have e : (r + b * n) * 2 ^ 20 = r * 2 ^ 20 + n * 2 ^ 20 * b := by rw [Int.add_mul]; congr 1; ac_rfl
    rw [e]; omega
  · have e : (r + b * n) * 2 ^ 20 = r * 2 ^ 20 + n * 2 ^ 20 * b := by rw [Int.add_mul]; congr 1; ac_rfl
    rw [e, Int.add_mul]
    have : r * 2 ^ 20 ≤ (b - 1) * 2 ^ 20 := Int.mul_le_mul_of_nonneg_right (by omega) (by decide)
    omega

theorem fl_floor {z : UInt64} {n : Int} (h : Fl z n) : Flt.toInt floorOf z = n := rg_toFloor h (Int.le_refl _) (by omega)
theorem fl_trunc {z : UInt64} {n : Int} (h : Fl z n) (hn : 0 ≤ n) : Flt.toInt truncOf z = n := rg_toTrunc h hn (Int.le_refl _) (by omega)
theorem fl_add {z : UInt64} {n i : Int} (h : Fl z n) (h1 : (n + i).natAbs ≤ 2 ^ 32) (h2 : i.natAbs ≤ 2 ^ 32) : Fl (add z (ofInt i)) (n + i) := by
  have hi := (rg_ofInt (n := i) (by omega)).up 20
  have := rg_add h hi (by decide) (by omega) (by omega)
  rw [← Int.add_mul] at this
  have e : n * 2 ^ 20 + 1048575 + i * 2 ^ 20 = (n + i) * 2 ^ 20 + 1048575 := by omega
  rw [e] at this
  exact this
theorem qt_trunc0 {z : UInt64} {a b : Int} (h : Qt z a b) (hb : 0 < b) (h1 : -b < a) (h2 : a ≤ 0) (hb2 : b ≤ 2 ^ 20) : Flt.toInt truncOf z = 0 := by
  have : Rg z 20 (-(2 ^ 20) + 1) 0 := by
    refine h 20 _ _ (by decide) (by decide) (by decide) ?_ ?_
    · have : (-b + 1) * 2 ^ 20 ≤ a * 2 ^ 20 := Int.mul_le_mul_of_nonneg_right (by omega) (by decide)
      omega
    · omega
  exact rg_toTrunc0 this (by decide) (by decide)

theorem ofBin_right {neg : Bool} {M : Nat} {g : Int} (h : -1074 ≤ g) : Right (ofBin neg M g) neg (M * 2 ^ (g + 1074).toNat) 1 := by
  unfold ofBin
  refine ofFrac_right (shift_pos _ _ _ (by decide)) ?_ (by decide)
  have := shift_one M g 1074 (by omega)
  rw [Nat.mul_one]
  exact this

theorem rg_isZero {x : UInt64} {k : Nat} {n : Int} (hx : Rg x k n n) : isZero x = decide (n = 0) := by
  have hpw : ∀ n : Nat, (0 : Int) < 2 ^ n := fun n => Int.pow_pos (by decide)
  obtain ⟨a, m, e, d⟩ := hx.fin
  have h1 : isZero x = decide (m = 0) := by
    unfold isZero
    rw [d]
    cases m <;> rfl
  rw [h1]
  apply decide_eq_decide.mpr
  have h2 := hx.exact
  have h3 := val_natAbs d
  constructor
  · intro hm
    subst hm
    have : val x = 0 := by rw [Nat.zero_mul] at h3; omega
    rw [this, Int.zero_mul] at h2
    rcases Int.mul_eq_zero.mp h2.symm with h | h
    · exact h
    · exact absurd h (Int.ne_of_gt (hpw _))
  · intro hn
    subst hn
    rw [Int.zero_mul] at h2
    have hv : val x = 0 := by
      rcases Int.mul_eq_zero.mp h2 with h | h
      · exact h
      · exact absurd h (Int.ne_of_gt (hpw _))
    rw [hv] at h3
    rcases Nat.mul_eq_zero.mp h3.symm with h | h
    · exact h
    · exact absurd h (Nat.ne_of_gt (Nat.two_pow_pos _))

theorem rg_lt0 {x : UInt64} {k : Nat} {n : Int} (hx : Rg x k n n) : lt x (zero false) = decide (n < 0) := by
  have hpw : ∀ n : Nat, (0 : Int) < 2 ^ n := fun n => Int.pow_pos (by decide)
  obtain ⟨a, m, e, d⟩ := hx.fin
  obtain ⟨b, k', f, d0⟩ := fin_zero false
  unfold lt
  rw [cmp_right d d0, val_zero]
  have h2 := hx.exact
  have : val x < 0 ↔ n < 0 := by
    constructor
    · intro h
      have h4 := Int.mul_neg_of_neg_of_pos h (hpw k)
      rcases Int.lt_or_le n 0 with h5 | h5
      · exact h5
      · have := Int.mul_nonneg h5 (Int.le_of_lt (hpw 1074)); omega
    · intro h
      have h4 := Int.mul_neg_of_neg_of_pos h (hpw 1074)
      rcases Int.lt_or_le (val x) 0 with h5 | h5
      · exact h5
      · have := Int.mul_nonneg h5 (Int.le_of_lt (hpw k)); omega
  by_cases h : n < 0
  · rw [Int.compare_eq_lt.mpr (this.mpr h)]
    simp [h]
  · have h' : ¬ val x < 0 := fun q => h (this.mp q)
    have : compare (val x) 0 ≠ .lt := fun q => h' (Int.compare_eq_lt.mp q)
    simp only [h, decide_false]
    cases hc : compare (val x) 0
    · exact absurd hc this
    · rfl
    · rfl

theorem fmod_ex {x y : UInt64} {n b : Int} (hx : Rg x 0 n n) (hy : Rg y 0 b b) (hb : 0 < b) (hb2 : b ≤ 2 ^ 53) : Rg (fmod x y) 0 (n.tmod b) (n.tmod b) := by
  have hpw : ∀ n : Nat, (0 : Int) < 2 ^ n := fun n => Int.pow_pos (by decide)
  obtain ⟨a, m, e, dx⟩ := hx.fin
  obtain ⟨c, k, f, dy⟩ := hy.fin
  have he := decode_ge dx
  have hf := decode_ge dy
  have ex := hx.exact
  have ey := hy.exact
  simp only [Int.pow_zero, Int.mul_one] at ex ey
  have vx := val_natAbs dx
  have vy := val_natAbs dy
  rw [ex, Int.natAbs_mul, Int.natAbs_pow] at vx
  rw [ey, Int.natAbs_mul, Int.natAbs_pow] at vy
  have e2 : (2 : Int).natAbs = 2 := rfl
  rw [e2] at vx vy
  have hk : k ≠ 0 := by
    intro h0
    rw [h0, Nat.zero_mul] at vy
    rcases Nat.mul_eq_zero.mp vy with h | h
    · omega
    · exact absurd h (Nat.ne_of_gt (Nat.two_pow_pos _))
  obtain ⟨g, hg⟩ : ∃ g, g = min e f := ⟨_, rfl⟩
  have hfm : fmod x y = ofBin a (m * 2 ^ (e - g).toNat % (k * 2 ^ (f - g).toNat)) g := by
    unfold fmod
    rw [dx, dy]
    simp only
    rw [if_neg (by simpa using hk)]
    have s1 : (sgn false (m * 2 ^ (e - g).toNat)).toNat = m * 2 ^ (e - g).toNat := by unfold sgn; simp only [Bool.false_eq_true, if_false]; exact Int.toNat_natCast _
    have s2 : (sgn false (k * 2 ^ (f - g).toNat)).toNat = k * 2 ^ (f - g).toNat := by unfold sgn; simp only [Bool.false_eq_true, if_false]; exact Int.toNat_natCast _
    unfold align
    simp only [← hg]
    rw [s1, s2]
  have a1 : (m * 2 ^ (e - g).toNat) * 2 ^ (g + 1074).toNat = n.natAbs * 2 ^ 1074 := by
    have e1 : (e - g).toNat + (g + 1074).toNat = (e + 1074).toNat := by omega
    rw [vx, Nat.mul_assoc, ← Nat.pow_add, e1]
  have a2 : (k * 2 ^ (f - g).toNat) * 2 ^ (g + 1074).toNat = b.natAbs * 2 ^ 1074 := by
    have e1 : (f - g).toNat + (g + 1074).toNat = (f + 1074).toNat := by omega
    rw [vy, Nat.mul_assoc, ← Nat.pow_add, e1]
  have a3 : (m * 2 ^ (e - g).toNat % (k * 2 ^ (f - g).toNat)) * 2 ^ (g + 1074).toNat = n.natAbs % b.natAbs * 2 ^ 1074 := by
    rw [← Nat.mul_mod_mul_right, a1, a2, Nat.mul_mod_mul_right]
  have R := ofBin_right (neg := a) (M := m * 2 ^ (e - g).toNat % (k * 2 ^ (f - g).toNat)) (g := g) (by omega)
  rw [a3, ← hfm] at R
  have hlt : n.natAbs % b.natAbs < b.natAbs := Nat.mod_lt _ (by omega)
  have hsg : sgn a (n.natAbs % b.natAbs * 2 ^ 1074) = n.tmod b * 2 ^ 1074 := by
    rw [sgn_mul, Int.natCast_pow]
    suffices hcore : sgn a (n.natAbs % b.natAbs) = n.tmod b by rw [hcore]; rfl
    have hv := decode_neg_val dx
    rw [ex] at hv
    unfold sgn
    have hb' : ((b.natAbs : Nat) : Int) = b := by omega
    cases a
    · have h0 : 0 ≤ n := by
        have := hv.2 rfl
        rcases Int.lt_or_le n 0 with h | h
        · have := Int.mul_neg_of_neg_of_pos h (hpw 1074); omega
        · exact h
      simp only [Bool.false_eq_true, if_false]
      rw [Int.natCast_emod, hb', Int.tmod_eq_emod_of_nonneg h0]
      have : ((n.natAbs : Nat) : Int) = n := by omega
      rw [this]
    · have h0 : n ≤ 0 := by
        have := hv.1 rfl
        rcases Int.lt_or_le 0 n with h | h
        · have := Int.mul_pos h (hpw 1074); omega
        · exact h
      simp only [if_true]
      rw [Int.natCast_emod, hb']
      have h3 : ((n.natAbs : Nat) : Int) = -n := by omega
      rw [h3]
      have h4 : n = -(-n) := by omega
      rw [h4, Int.neg_tmod, Int.neg_neg, Int.tmod_eq_emod_of_nonneg (by omega)]
  have hbd : (n.tmod b).natAbs ≤ 2 ^ 53 := by
    rw [Int.natAbs_tmod]; omega
  refine rg_right R Nat.one_pos hsg (by decide) hbd hbd ?_ ?_
  · simp
  · simp

theorem divmod_snd (x y : UInt64) : (divmod x y).2 = if isZero (fmod x y) then copysign (zero false) y else if lt y (zero false) != lt (fmod x y) (zero false) then add (fmod x y) y else fmod x y := by
  unfold divmod
  simp only
  by_cases h1 : isZero (fmod x y) = true
  · simp only [if_pos h1]
  · simp only [if_neg h1]
    by_cases h2 : (lt y (zero false) != lt (fmod x y) (zero false)) = true
    · simp only [if_pos h2]
    · simp only [if_neg h2]

theorem mod_ex {x : UInt64} {n b : Int} (hx : Rg x 0 n n) (hb : 0 < b) (hb2 : b ≤ 2 ^ 52) : Rg (divmod x (ofInt b)).2 0 (n % b) (n % b) := by
  have hy : Rg (ofInt b) 0 b b := rg_ofInt (by omega)
  have hm := fmod_ex hx hy hb (by omega)
  have t1 := Int.emod_nonneg n (Int.ne_of_gt hb)
  have t2 := Int.emod_lt_of_pos n hb
  rw [divmod_snd, rg_isZero hm, rg_lt0 hy, rg_lt0 hm]
  by_cases h0 : n.tmod b = 0
  · rw [if_pos (by simpa using h0)]
    have hn : n % b = 0 := Int.emod_eq_zero_of_dvd (Int.dvd_of_tmod_eq_zero h0)
    rw [hn]
    have hz : ∃ s, copysign (zero false) (ofInt b) = zero s := by
      refine ⟨signBit (ofInt b), ?_⟩
      unfold copysign
      rw [if_neg (by decide +kernel)]
      have : (zero false).toNat % 2 ^ 63 = 0 := by decide +kernel
      rw [this]; rfl
    obtain ⟨s, hs⟩ := hz
    rw [hs]
    exact ⟨fin_zero s, by rw [val_zero]; simp, by rw [val_zero]; simp⟩
  · rw [if_neg (by simpa using h0)]
    have hbn : decide (b < 0) = false := decide_eq_false (by omega)
    rw [hbn]
    by_cases h1 : n.tmod b < 0
    · rw [if_pos (by simp [h1])]
      have hn : n < 0 := by
        rcases Int.lt_or_le n 0 with h | h
        · exact h
        · have := Int.tmod_nonneg b h; omega
      have e : n % b = n.tmod b + b := by
        rw [Int.emod_eq_tmod]
        have : ¬ (0 ≤ n ∨ b ∣ n) := by
          rintro (h | h)
          · omega
          · exact h0 (Int.tmod_eq_zero_of_dvd h)
        rw [if_neg this]
        have : ((b.natAbs : Nat) : Int) = b := by omega
        rw [this]
      rw [e]
      have := rg_add hm hy (by decide) (by omega) (by omega)
      exact this
    · rw [if_neg (by simp [h1])]
      have e : n % b = n.tmod b := by
        rw [Int.emod_eq_tmod]
        have : 0 ≤ n ∨ b ∣ n := by
          rcases Int.lt_or_le n 0 with h | h
          · exfalso
            have h5 : n.tmod b ≤ 0 := by
              have h4 : n = -(-n) := by omega
              rw [h4, Int.neg_tmod]
              have := Int.tmod_nonneg b (show 0 ≤ -n by omega)
              omega
            omega
          · exact .inl h
        rw [if_pos this]; exact Int.add_zero _
      rw [e]
      exact hm

theorem cmp_by {K : Int} (hK : 0 < K) (p q : Int) : compare (p * K) (q * K) = compare p q := by
  show compareOfLessAndEq (p * K) (q * K) = compareOfLessAndEq p q
  unfold compareOfLessAndEq
  simp only [Int.mul_lt_mul_right hK, Int.mul_eq_mul_right_iff (Int.ne_of_gt hK)]
theorem rg_cmpInt {x : UInt64} {k : Nat} {n : Int} (hx : Rg x k n n) (i : Int) : cmpInt x i = some (compare n (i * 2 ^ k)) := by
  have hpw : ∀ n : Nat, (0 : Int) < 2 ^ n := fun n => Int.pow_pos (by decide)
  obtain ⟨a, m, e, d⟩ := hx.fin
  rw [cmpInt_right d, ← cmp_by (hpw k) (val x), hx.exact, ← cmp_by (hpw 1074) n, Int.mul_right_comm i]
end Mine
namespace Mine
def leapB (y : Int) : Bool := decide (y % 4 = 0 ∧ (y % 100 ≠ 0 ∨ y % 400 = 0))
def mlen (y m : Int) : Int := if m = 2 then (if leapB y then 29 else 28) else if m = 4 ∨ m = 6 ∨ m = 9 ∨ m = 11 then 30 else 31
/-- the number of a day of the Gregorian calendar: its noon -/
def gdn (y m d : Int) : Int := 1721425 + 365 * (y - 1) + (y - 1) / 4 - (y - 1) / 100 + (y - 1) / 400 + (367 * m - 362) / 12 + (if m ≤ 2 then 0 else if leapB y then -1 else -2) + d

/-- the number of a day of the Julian calendar, March or April -/
def jdn (y m d : Int) : Int := 1461 * (y + 4716) / 4 + 306001 * (m + 1) / 10000 + d - 1524
/-- the western Easter's words, as the code reckons them -/
def wK (y : Int) : Int := if y / 100 < 17 then 0 else (y / 100 - 17) / 25
def wI1 (y : Int) : Int := (y / 100 - y / 100 / 4 - (y / 100 - wK y) / 3 + 19 * (y % 19) + 15) % 30
def wI (y : Int) : Int := if wI1 y = 29 then 28 else if wI1 y = 28 ∧ 10 < y % 19 then 27 else wI1 y
def wL (y : Int) : Int := wI y - (y + y / 4 + wI y + 2 - y / 100 + y / 100 / 4) % 7
def eD (y later : Int) : Int := (19 * (y % 19) + 15) % 30 + (if y % 19 = 0 then later else 0)
/-- the Julian Easter: days behind March's last day but .. (1 is 1 April's 114 ..) -/
def eM (y later : Int) : Int := 113 + eD y later + (2 * (y % 4) + 4 * (y % 7) - eD y later + 6) % 7 + 1
theorem one_le_mlen (y m : Int) : 1 ≤ mlen y m := by
  unfold mlen
  split
  · split <;> decide
  · split <;> decide
theorem mlen_le (y m : Int) : mlen y m ≤ 31 := by
  unfold mlen
  split
  · split <;> decide
  · split <;> decide
theorem leap_iff (y : Int) : leapB y = true ↔ (y % 4 = 0 ∧ (y % 100 ≠ 0 ∨ y % 400 = 0)) := by unfold leapB; exact decide_eq_true_iff

theorem gdn_jan (y : Int) : gdn y 1 1 = 1721426 + 365 * (y - 1) + (y - 1) / 4 - (y - 1) / 100 + (y - 1) / 400 := by
  unfold gdn
  rw [if_pos (by decide)]
  omega

section
variable {D q r c r2 k r3 yi N : Int}
/-- the year of a day: an ordinary end -/
theorem yd_a (hD : D = N - 1721426) (hq : q = D / 146097) (hr : r = D % 146097) (hc : c = r / 36524) (hr2 : r2 = r % 36524) (hk : k = r2 / 1461) (hr3 : r3 = r2 % 1461) (hyi : yi = r3 / 365) (h1 : c ≠ 4) (h2 : yi ≠ 4) (hN : N.natAbs ≤ 2 ^ 40) :
    gdn (q * 400 + c * 100 + k * 4 + yi + 1) 1 1 ≤ N ∧ N - gdn (q * 400 + c * 100 + k * 4 + yi + 1) 1 1 ≤ 364 ∧ (q * 400 + c * 100 + k * 4 + yi + 1).natAbs ≤ 2 ^ 32 := by
  rw [gdn_jan]
  have b1 : 0 ≤ c ∧ c ≤ 3 := by omega
  have b2 : 0 ≤ k ∧ k ≤ 24 := by omega
  have b3 : 0 ≤ yi ∧ yi ≤ 3 := by omega
  have e0 : q * 400 + c * 100 + k * 4 + yi + 1 - 1 = 400 * q + 100 * c + 4 * k + yi := by omega
  have e1 : (400 * q + 100 * c + 4 * k + yi) / 4 = 100 * q + 25 * c + k := by omega
  have e2 : (400 * q + 100 * c + 4 * k + yi) / 100 = 4 * q + c := by omega
  have e3 : (400 * q + 100 * c + 4 * k + yi) / 400 = q := by omega
  rw [e0, e1, e2, e3]
  omega
/-- the last day of a leap year -/
theorem yd_b (hD : D = N - 1721426) (hq : q = D / 146097) (hr : r = D % 146097) (hc : c = r / 36524) (hr2 : r2 = r % 36524) (hk : k = r2 / 1461) (hr3 : r3 = r2 % 1461) (hyi : yi = r3 / 365) (h : c = 4 ∨ yi = 4) (hN : N.natAbs ≤ 2 ^ 40) :
    leapB (q * 400 + c * 100 + k * 4 + yi) = true ∧ N - gdn (q * 400 + c * 100 + k * 4 + yi) 1 1 = 365 ∧ (q * 400 + c * 100 + k * 4 + yi).natAbs ≤ 2 ^ 32 := by
  rw [gdn_jan, leap_iff]
  have hr0 : 0 ≤ r ∧ r < 146097 := by omega
  rcases h with h | h
  · have hr : r = 146096 := by omega
    have a1 : r2 = 0 := by omega
    have a2 : k = 0 := by omega
    have a3 : yi = 0 := by omega
    have e0 : q * 400 + c * 100 + k * 4 + yi = 400 * (q + 1) := by omega
    rw [e0]
    omega
  · have b1 : 0 ≤ c ∧ c ≤ 3 := by omega
    have b2 : 0 ≤ k ∧ k ≤ 24 := by omega
    have a1 : r3 = 1460 := by omega
    have b4 : c = 3 ∨ k ≤ 23 := by omega
    have e0 : q * 400 + c * 100 + k * 4 + yi = 400 * q + 100 * c + 4 * (k + 1) := by omega
    rw [e0]
    have e1 : (400 * q + 100 * c + 4 * (k + 1) - 1) / 4 = 100 * q + 25 * c + k := by omega
    have e2 : (400 * q + 100 * c + 4 * (k + 1) - 1) / 100 = 4 * q + c := by omega
    have e3 : (400 * q + 100 * c + 4 * (k + 1) - 1) / 400 = q := by omega
    rw [e1, e2, e3]
    refine ⟨⟨by omega, ?_⟩, by omega, by omega⟩
    omega
end

/-- the month of a day -/
theorem md_of {N Y yd adj mm lp : Int} (hmm : mm = ((yd + adj) * 12 + 373) / 367) (hlp : (leapB Y = true ∧ lp = 1) ∨ (leapB Y = false ∧ lp = 0)) (hyd : yd = N - gdn Y 1 1) (h0 : 0 ≤ yd) (h1 : yd ≤ 364 + lp) (hadj : (yd < 58 + lp ∧ adj = 0) ∨ (58 + lp ≤ yd ∧ adj = 2 - lp)) :
    (1 ≤ mm ∧ mm ≤ 12) ∧ 0 < N - gdn Y mm 1 + 1 ∧ N - gdn Y mm 1 + 1 ≤ mlen Y mm ∧ gdn Y mm (N - gdn Y mm 1 + 1) = N := by
  have hg : gdn Y mm 1 = gdn Y 1 1 + (367 * mm - 362) / 12 + (if mm ≤ 2 then 0 else if leapB Y then -1 else -2) := by
    unfold gdn
    rw [if_pos (show (1 : Int) ≤ 2 by decide)]
    omega
  have hg2 : gdn Y mm (N - gdn Y mm 1 + 1) = N := by
    have : ∀ d, gdn Y mm d = gdn Y mm 1 + d - 1 := by intro d; unfold gdn; omega
    rw [this]; omega
  have hlp2 : lp = 0 ∨ lp = 1 := by
    rcases hlp with ⟨_, h⟩ | ⟨_, h⟩
    · exact .inr h
    · exact .inl h
  have hmmb : 1 ≤ mm ∧ mm ≤ 12 := by omega
  refine ⟨hmmb, ?_, ?_, hg2⟩
  all_goals (
    rw [hg]
    clear hg hg2
    generalize gdn Y 1 1 = J at *
    obtain ⟨j, hj⟩ : ∃ j : Nat, mm = j := ⟨mm.toNat, by omega⟩
    have hj1 : 1 ≤ j ∧ j ≤ 12 := by omega)
  · rcases hlp with ⟨hL, hlp⟩ | ⟨hL, hlp⟩
    all_goals (
      simp only [hL, Bool.false_eq_true, if_false, if_true] at *
      split <;> omega)
  · unfold mlen
    rcases hlp with ⟨hL, hlp⟩ | ⟨hL, hlp⟩
    all_goals (
      simp only [hL, Bool.false_eq_true, if_false, if_true] at *
      have : j = 1 ∨ j = 2 ∨ j = 3 ∨ j = 4 ∨ j = 5 ∨ j = 6 ∨ j = 7 ∨ j = 8 ∨ j = 9 ∨ j = 10 ∨ j = 11 ∨ j = 12 := by omega
      rcases this with rfl | rfl | rfl | rfl | rfl | rfl | rfl | rfl | rfl | rfl | rfl | rfl <;> subst hj <;> simp <;> omega)
theorem md_end {N Y yd adj mm lp d : Int} (hd : d = N - gdn Y mm 1 + 1) (hmm : mm = ((yd + adj) * 12 + 373) / 367) (hlp : (leapB Y = true ∧ lp = 1) ∨ (leapB Y = false ∧ lp = 0)) (hyd : yd = N - gdn Y 1 1) (h0 : 0 ≤ yd) (h1 : yd ≤ 364 + lp) (hadj : (yd < 58 + lp ∧ adj = 0) ∨ (58 + lp ≤ yd ∧ adj = 2 - lp)) :
    gdn Y mm d = N ∧ 1 ≤ mm ∧ mm ≤ 12 ∧ 0 < d ∧ d ≤ mlen Y mm := by
  obtain ⟨⟨a, b⟩, c, e, f⟩ := md_of hmm hlp hyd h0 h1 hadj
  subst hd
  exact ⟨f, a, b, c, e⟩
theorem gdn_bound {y m d : Int} (hy : y.natAbs ≤ 2 ^ 32) (hm : 1 ≤ m ∧ m ≤ 12) (hd : 0 < d ∧ d ≤ mlen y m) : (gdn y m d).natAbs ≤ 2 ^ 42 := by
  have := mlen_le y m
  unfold gdn
  split
  · omega
  · split <;> omega
theorem leap_cases {N Y : Int} (_h : gdn Y 1 1 ≤ N) : leapB Y = true ∨ leapB Y = false := by cases leapB Y <;> simp

theorem west_i {y c q k c4 c3 i30 a a2 b r9 e r7 r6 : Int} (hy : 1583 ≤ y) (h14 : a = 0 ∧ r6 = 0 ∨ a = 1 ∧ r6 = 1 - r7) (h13 : r9 = 0 ∧ r7 = 0 ∨ r9 = 1 ∧ r7 = e) (h11 : a2 = 0 ∧ r9 = 0 ∨ a2 = 1 ∧ r9 = b)
    (h7 : a = (c - c4 - c3 + 19 * (y - 19 * q) + 15 - 30 * i30) / 28) (h8 : a2 = (c - c4 - c3 + 19 * (y - 19 * q) + 15 - 30 * i30) / 28)
    (h9 : 29 < c - c4 - c3 + 19 * (y - 19 * q) + 15 - 30 * i30 + 1 → b = 0) (h10 : c - c4 - c3 + 19 * (y - 19 * q) + 15 - 30 * i30 + 1 ≤ 29 → 29 < 2 * (c - c4 - c3 + 19 * (y - 19 * q) + 15 - 30 * i30 + 1) → b = 1)
    (h6 : i30 = (c - c4 - c3 + 19 * (y - 19 * q) + 15) / 30) (h1 : c = y / 100) (h2 : q = y / 19) (h3 : (0 ≤ c - 17 ∧ k = (c - 17) / 25) ∨ (c - 17 < 0 ∧ k = 0)) (h4 : c4 = c / 4) (h5 : c3 = (c - k) / 3) (h12 : e = (21 - (y - 19 * q)) / 11) :
    c - c4 - c3 + 19 * (y - 19 * q) + 15 - 30 * i30 - r6 = wI y ∧ 0 ≤ wI y ∧ wI y ≤ 28 := by
  have hk : wK y = k := by
    unfold wK
    rw [← h1]
    split <;> omega
  have hn : y % 19 = y - 19 * q := by omega
  have hi : wI1 y = c - c4 - c3 + 19 * (y - 19 * q) + 15 - 30 * i30 := by
    unfold wI1
    rw [hk, hn, ← h1, ← h4, ← h5]
    clear h7 h8 h9 h10 h11 h12 h13 h14 hk h3 h5 h4 h1
    omega
  have hb : 0 ≤ wI1 y ∧ wI1 y < 30 := by unfold wI1; omega
  have hnn : 0 ≤ y - 19 * q ∧ y - 19 * q ≤ 18 := by omega
  unfold wI
  rw [hn]
  rw [← hi] at h7 h8 h9 h10 ⊢
  generalize wI1 y = I at *
  generalize y - 19 * q = n at *
  clear h1 h2 h3 h4 h5 h6 hk hn hi hy
  split
  · have : a = 1 := by omega
    have : b = 0 := by omega
    omega
  · split
    · have : a = 1 := by omega
      have : b = 1 := by omega
      have : e = 0 := by omega
      omega
    · by_cases h28 : I = 28
      · have : a = 1 := by omega
        have : b = 1 := by omega
        have : e = 1 := by omega
        omega
      · have : a = 0 := by omega
        omega
theorem west_md {y c y4 c4 I j7 m44 m4 r0 : Int} (h7 : m4 = 0 ∧ r0 = 0 ∨ m4 = 1 ∧ r0 = 31) (h6 : m4 = (3 + m44) / 4) (h5 : m44 = (I - (y + y4 + I + 2 - c + c4 - 7 * j7) + 40) / 44) (h4 : j7 = (y + y4 + I + 2 - c + c4) / 7) (h1 : c = y / 100) (h2 : y4 = y / 4) (h3 : c4 = c / 4) (hI : I = wI y) (h8 : 0 ≤ wI y) (h9 : wI y ≤ 28) :
    (wL y ≤ 3 ∧ 3 + m44 = 3 ∧ I - (y + y4 + I + 2 - c + c4 - 7 * j7) + 28 - r0 = wL y + 28) ∨ (3 < wL y ∧ 3 + m44 = 4 ∧ I - (y + y4 + I + 2 - c + c4 - 7 * j7) + 28 - r0 = wL y - 3) := by
  have hL : wL y = I - (y + y4 + I + 2 - c + c4 - 7 * j7) := by
    unfold wL
    rw [← hI, ← h1, ← h2, ← h3]
    omega
  rw [← hI] at h8 h9
  have hb : 0 ≤ y + y4 + I + 2 - c + c4 - 7 * j7 ∧ y + y4 + I + 2 - c + c4 - 7 * j7 ≤ 6 := by omega
  rw [hL]
  generalize y + y4 + I + 2 - c + c4 - 7 * j7 = J at *
  omega

/-- the day number of the Julian Easter -/
def oN (y later : Int) : Int := jdn y (eM y later / 31) (eM y later % 31 + 1)
theorem eD_range {y later : Int} (h : later = 0 ∨ later = 1) : 0 ≤ eD y later ∧ eD y later ≤ 29 := by
  unfold eD
  split <;> omega
theorem eM_range {y later : Int} (h : later = 0 ∨ later = 1) : 114 ≤ eM y later ∧ eM y later ≤ 149 := by
  have := eD_range (y := y) h
  unfold eM
  omega
theorem jm_cases {M m d : Int} (h : 114 ≤ M ∧ M ≤ 149) (hm : m = M / 31) (hd : d = M % 31 + 1) : (m = 3 ∧ 0 < d ∧ d ≤ 31) ∨ (m = 4 ∧ 0 < d ∧ d ≤ 30) := by omega
theorem jdn_bound {y m d : Int} (hy : y.natAbs ≤ 2 ^ 31) (h : (m = 3 ∧ 0 < d ∧ d ≤ 31) ∨ (m = 4 ∧ 0 < d ∧ d ≤ 30)) : (jdn y m d).natAbs ≤ 2 ^ 40 := by
  unfold jdn
  omega
theorem jdn3 (y d : Int) : jdn y 3 d = 1461 * (y + 4716) / 4 + 122 + d - 1524 := by unfold jdn; omega
theorem jdn4 (y d : Int) : jdn y 4 d = 1461 * (y + 4716) / 4 + 153 + d - 1524 := by unfold jdn; omega
theorem jC3 {y d N : Int} (hl : 0 < d ∧ d ≤ 31) (hN : N = 1461 * (y + 4716) / 4 + 122 + d - 1524) : ∀ i : Int, i = N + 1524 → (4 * i - 489) / 1461 = y + 4716 := by intro i hi; omega
theorem jC4 {y d N : Int} (hl : 0 < d ∧ d ≤ 30) (hN : N = 1461 * (y + 4716) / 4 + 153 + d - 1524) : ∀ i : Int, i = N + 1524 → (4 * i - 489) / 1461 = y + 4716 := by intro i hi; omega

theorem year_bound {y m d N : Int} (h : gdn y m d = N) (hN : N.natAbs ≤ 2 ^ 40) (hm : 1 ≤ m ∧ m ≤ 12) (hd : 0 < d ∧ d ≤ mlen y m) : y.natAbs ≤ 2 ^ 32 := by
  have := mlen_le y m
  unfold gdn at h
  split at h
  · omega
  · split at h <;> omega
theorem oN_bound {y later : Int} (hy : y.natAbs ≤ 2 ^ 31) (h : later = 0 ∨ later = 1) : (oN y later).natAbs ≤ 2 ^ 40 := jdn_bound hy (jm_cases (eM_range h) rfl rfl)

/-- the day number of the western Easter -/
def wN (y : Int) : Int := gdn y 3 1 + wL y + 27
theorem wI_range (y : Int) : 0 ≤ wI y ∧ wI y ≤ 28 := by
  have : 0 ≤ wI1 y ∧ wI1 y < 30 := by unfold wI1; omega
  unfold wI
  split
  · omega
  · split <;> omega
theorem wL_range (y : Int) : -6 ≤ wL y ∧ wL y ≤ 28 := by
  have := wI_range y
  unfold wL
  omega
theorem gdn_m3 (y d : Int) : gdn y 3 d = gdn y 3 1 + d - 1 := by unfold gdn; omega
theorem gdn_m4 (y d : Int) : gdn y 4 d = gdn y 3 1 + 30 + d := by
  unfold gdn
  rw [if_neg (show ¬ (4 : Int) ≤ 2 by decide), if_neg (show ¬ (3 : Int) ≤ 2 by decide)]
  omega
theorem west_legal {y m d : Int} (h : (wL y ≤ 3 ∧ m = 3 ∧ d = wL y + 28) ∨ (3 < wL y ∧ m = 4 ∧ d = wL y - 3)) : (1 ≤ m ∧ m ≤ 12) ∧ (0 < d ∧ d ≤ mlen y m) ∧ gdn y m d = wN y := by
  have := wL_range y
  rcases h with ⟨h1, rfl, rfl⟩ | ⟨h1, rfl, rfl⟩
  · refine ⟨by decide, ⟨by omega, ?_⟩, ?_⟩
    · have : mlen y 3 = 31 := by unfold mlen; simp
      omega
    · rw [gdn_m3]; unfold wN; omega
  · refine ⟨by decide, ⟨by omega, ?_⟩, ?_⟩
    · have : mlen y 4 = 30 := by unfold mlen; simp
      omega
    · rw [gdn_m4]; unfold wN; omega
theorem west_time {y m d : Int} (h : (wL y ≤ 3 ∧ m = 3 ∧ d = wL y + 28) ∨ (3 < wL y ∧ m = 4 ∧ d = wL y - 3)) : (m = 3 ∧ 22 ≤ d ∧ d ≤ 31) ∨ (m = 4 ∧ 1 ≤ d ∧ d ≤ 25) := by
  have := wL_range y
  omega
end Mine
namespace Mine
theorem nat_dv (a b : Nat) : Nat.div a b = a / b := rfl
theorem nat_md (a b : Nat) : Nat.mod a b = a % b := rfl
theorem nat_eq {a b : Nat} (h : a = b) : Nat.beq a b = true := by subst h; exact Nat.beq_refl a
theorem nat_ne {a b : Nat} (h : ¬ a = b) : Nat.beq a b = false := by
  cases e : Nat.beq a b
  · rfl
  · exact absurd (Nat.eq_of_beq_eq_true e) h
theorem nat_le {a b : Nat} (h : a ≤ b) : Nat.ble a b = true := Nat.ble_eq_true_of_le h
theorem nat_nle {a b : Nat} (h : ¬ a ≤ b) : Nat.ble a b = false := by
  cases e : Nat.ble a b
  · rfl
  · exact absurd (Nat.le_of_ble_eq_true e) h
/-- the western Easter's words in plain Nat, for the kernel's own figures -/
def f1 (h g : Nat) : Nat := Nat.mod (Nat.add (Nat.sub (Nat.sub h (Nat.div h 4)) (Nat.div (Nat.sub h (Nat.div (Nat.sub h 17) 25)) 3)) (Nat.add (Nat.mul 19 g) 15)) 30
def f2 (i g : Nat) : Nat := cond (Nat.beq i 29) 28 (cond (Nat.beq i 28) (cond (Nat.ble 11 g) 27 28) i)
def fJ (y h i : Nat) : Nat := Nat.mod (Nat.add (Nat.sub (Nat.add y (Nat.add (Nat.div y 4) (Nat.add i 2))) h) (Nat.div h 4)) 7
/-- wL y and 6 -/
def fL3 (y h i : Nat) : Nat := Nat.sub (Nat.add i 6) (fJ y h i)
def fL (y : Nat) : Nat := fL3 y (Nat.div y 100) (f2 (f1 (Nat.div y 100) (Nat.mod y 19)) (Nat.mod y 19))
theorem f1_so {y : Nat} (hy : 1583 ≤ y) : (f1 (Nat.div y 100) (Nat.mod y 19) : Int) = wI1 y := by
  have e1 : Nat.div y 100 = y / 100 := rfl
  have e2 : Nat.mod y 19 = y % 19 := rfl
  rw [e1, e2]
  unfold f1 wI1 wK
  simp only [Nat.add_eq, Nat.sub_eq, Nat.mul_eq, nat_dv, nat_md]
  split <;> omega
theorem cond_eq {α : Type} (a b : Nat) (x y : α) : cond (Nat.beq a b) x y = if a = b then x else y := by
  by_cases h : a = b
  · rw [if_pos h, nat_eq h]; rfl
  · rw [if_neg h, nat_ne h]; rfl
theorem cond_le {α : Type} (a b : Nat) (x y : α) : cond (Nat.ble a b) x y = if a ≤ b then x else y := by
  by_cases h : a ≤ b
  · rw [if_pos h, nat_le h]; rfl
  · rw [if_neg h, nat_nle h]; rfl
theorem f2_so {i g : Nat} : f2 i g = if i = 29 then 28 else if i = 28 ∧ 10 < g then 27 else i := by
  unfold f2
  simp only [cond_eq, cond_le]
  repeat' split
  all_goals omega
theorem fL_so {y : Nat} (hy : 1583 ≤ y) : (fL y : Int) = wL y + 6 := by
  have h1 := f1_so hy
  unfold fL
  generalize hi : f1 (Nat.div y 100) (Nat.mod y 19) = i at *
  have h2 : (f2 i (Nat.mod y 19) : Int) = wI y := by
    rw [f2_so]
    have e2 : Nat.mod y 19 = y % 19 := rfl
    rw [e2]
    unfold wI
    rw [← h1]
    repeat' split
    all_goals omega
  generalize f2 i (Nat.mod y 19) = I at *
  have e1 : Nat.div y 100 = y / 100 := rfl
  rw [e1]
  unfold fL3 fJ wL
  rw [← h2]
  simp only [Nat.add_eq, Nat.sub_eq, Nat.mul_eq, nat_dv, nat_md]
  omega
/-- the orthodox Easter's: eD and the Sunday's -/
def fD (g : Nat) : Nat := Nat.mod (Nat.add (Nat.mul 19 g) 15) 30
def fE (y d : Nat) : Nat := Nat.add d (Nat.mod (Nat.sub (Nat.add (Nat.mul 2 (Nat.mod y 4)) (Nat.add (Nat.mul 4 (Nat.mod y 7)) 41)) d) 7)
theorem fE_so (y : Nat) : (fE y (fD (Nat.mod y 19)) : Int) = eD y 0 + (2 * ((y : Int) % 4) + 4 * ((y : Int) % 7) - eD y 0 + 6) % 7 := by
  have e2 : Nat.mod y 19 = y % 19 := rfl
  have h : (fD (Nat.mod y 19) : Int) = eD y 0 := by
    rw [e2]
    unfold fD eD
    simp only [Nat.add_eq, Nat.sub_eq, Nat.mul_eq, nat_dv, nat_md]
    split <;> omega
  have h30 : fD (Nat.mod y 19) < 30 := Nat.mod_lt _ (by decide)
  rw [← h]
  generalize fD (Nat.mod y 19) = d at *
  unfold fE
  simp only [Nat.add_eq, Nat.sub_eq, Nat.mul_eq, nat_dv, nat_md]
  omega
end Mine
namespace Mine
theorem eD_le {y later : Int} (h : later = 0 ∨ later = 1) : 0 ≤ eD y later ∧ eD y later ≤ 28 := by
  have h0 := Int.emod_nonneg y (show (19 : Int) ≠ 0 by decide)
  have h1 := Int.emod_lt_of_pos y (show (0 : Int) < 19 by decide)
  unfold eD
  generalize y % 19 = g at *
  have hg : g = 0 ∨ g = 1 ∨ g = 2 ∨ g = 3 ∨ g = 4 ∨ g = 5 ∨ g = 6 ∨ g = 7 ∨ g = 8 ∨ g = 9 ∨ g = 10 ∨ g = 11 ∨ g = 12 ∨ g = 13 ∨ g = 14 ∨ g = 15 ∨ g = 16 ∨ g = 17 ∨ g = 18 := by omega
  rcases h with rfl | rfl <;> rcases hg with rfl | rfl | rfl | rfl | rfl | rfl | rfl | rfl | rfl | rfl | rfl | rfl | rfl | rfl | rfl | rfl | rfl | rfl | rfl <;> decide
theorem eM_per (y r later : Int) : eM (y + 532 * r) later = eM y later := by
  have h1 : (y + 532 * r) % 19 = y % 19 := by omega
  have h2 : (y + 532 * r) % 4 = y % 4 := by omega
  have h3 : (y + 532 * r) % 7 = y % 7 := by omega
  unfold eM eD
  rw [h1, h2, h3]
theorem oN_per (y r later : Int) : oN (y + 532 * r) later = oN y later + 194313 * r := by
  unfold oN
  rw [eM_per]
  unfold jdn
  omega
/-- the Julian Easter's number in one line -/
theorem oN_lin {y later : Int} (h : later = 0 ∨ later = 1) : oN y later = 365 * y + y / 4 + 1721139 + eD y later + (2 * (y % 4) + 4 * (y % 7) - eD y later + 6) % 7 := by
  have h1 := eD_le (y := y) h
  unfold oN jdn eM
  generalize eD y later = D at *
  generalize he : (2 * (y % 4) + 4 * (y % 7) - D + 6) % 7 = e
  have he2 : 0 ≤ e ∧ e ≤ 6 := by omega
  clear he
  have hi : (113 + D + e + 1) / 31 = 3 ∨ (113 + D + e + 1) / 31 = 4 := by omega
  rcases hi with hi | hi
  · rw [hi]; omega
  · rw [hi]; omega
/-- the same by the old full moon -/
theorem east_so {y later F : Int} (h : later = 0 ∨ later = 1) (hF : F = 1721117 + 365 * y + y / 4 + (21 + eD y later)) : oN y later = F + 1 + (5 - F) % 7 := by
  rw [oN_lin h]
  generalize eD y later = D at *
  omega
theorem oN_sun {y later : Int} (h : later = 0 ∨ later = 1) : oN y later % 7 = 6 := by
  rw [east_so h rfl]
  omega
theorem gdn_march (y : Int) : gdn y 3 1 = 1721485 + 365 * (y - 1) + y / 4 - y / 100 + y / 400 := by
  unfold gdn
  rw [if_neg (show ¬ (3 : Int) ≤ 2 by decide)]
  cases hL : leapB y
  · have : ¬ (y % 4 = 0 ∧ (y % 100 ≠ 0 ∨ y % 400 = 0)) := by rw [← leap_iff, hL]; decide
    simp only [Bool.false_eq_true, if_false]
    by_cases h4 : y % 4 = 0
    · by_cases h1 : y % 100 = 0
      · by_cases h2 : y % 400 = 0
        · omega
        · omega
      · omega
    · have : y % 100 ≠ 0 := by omega
      have : y % 400 ≠ 0 := by omega
      omega
  · have := (leap_iff y).mp hL
    simp only [if_true]
    obtain ⟨h4, h⟩ := this
    by_cases h1 : y % 100 = 0
    · have h2 : y % 400 = 0 := by omega
      omega
    · have h2 : y % 400 ≠ 0 := by omega
      omega
theorem w_sun (y : Int) : wN y % 7 = 6 := by
  unfold wN wL
  rw [gdn_march]
  have e : y / 100 / 4 = y / 400 := by omega
  rw [e]
  generalize wI y = I
  omega
theorem wN_bound {y : Int} (hy : 1583 ≤ y ∧ y ≤ 2 ^ 31) : (wN y).natAbs ≤ 2 ^ 40 := by
  have := wL_range y
  unfold wN
  rw [gdn_march]
  omega
theorem wk_third {h : Int} (h1 : 15 ≤ h) : (h - (if h < 17 then 0 else (h - 17) / 25)) / 3 = (13 + 8 * h) / 25 := by
  split <;> omega
/-- Gauss's rule -/
theorem west_so {y h moon week : Int} (hy : 1583 ≤ y) (hh : h = y / 100) (hm : moon = (19 * (y % 19) + 15 - (13 + 8 * h) / 25 + h - h / 4) % 30) (hw : week = (2 * (y % 4) + 4 * (y % 7) + 6 * moon + 4 + h - h / 4) % 7) :
    wN y = 1721119 + 365 * y + y / 4 - h + h / 4 + (22 + moon + week) - (if week = 6 ∧ (moon = 29 ∨ (moon = 28 ∧ 10 < y % 19)) then 7 else 0) := by
  have hI : wI1 y = moon := by
    unfold wI1 wK
    rw [← hh, wk_third (by omega)]
    omega
  have hg : 0 ≤ y % 19 ∧ y % 19 < 19 := by omega
  have hm0 : 0 ≤ moon ∧ moon < 30 := by omega
  have e : y / 100 / 4 = y / 400 := by omega
  unfold wN wL wI
  rw [gdn_march, hI, ← hh]
  have e' : y / 400 = h / 4 := by omega
  rw [e']
  clear hI hm e e'
  generalize y % 19 = g at *
  by_cases a : moon = 29
  · rw [if_pos a]
    by_cases b : week = 6
    · rw [if_pos ⟨b, .inl a⟩]; omega
    · rw [if_neg fun c => b c.1]; omega
  · rw [if_neg a]
    by_cases a2 : moon = 28 ∧ 10 < g
    · rw [if_pos a2]
      by_cases b : week = 6
      · rw [if_pos ⟨b, .inr a2⟩]; omega
      · rw [if_neg fun c => b c.1]; omega
    · rw [if_neg a2, if_neg fun c => c.2.elim a a2]; omega

def tlo (k : Int) : Int := if k = 0 then 1583 else if k = 1 then 1586 else if k = 2 then 2725 else if k = 3 then 4995 else if k = 4 then 1584 else if k = 5 then 1595 else if k = 6 then 2437 else if k = 7 then 4609 else if k = 8 then 6808 else 8601
def thi (k : Int) : Int := if k = 0 then 2698 else if k = 1 then 4860 else if k = 2 then 6483 else if k = 3 then 6893 else if k = 4 then 2092 else if k = 5 then 4294 else if k = 6 then 6395 else if k = 7 then 8594 else if k = 8 then 10793 else 12840
/-- the weeks between, of one year -/
def gap (y : Int) : Int := oN y 0 - wN y
def gOk (d y : Int) : Bool := decide (0 ≤ d) && (if d < 70 then decide (tlo (d / 7) ≤ y) && decide (y ≤ thi (d / 7)) else decide (7303 ≤ y))
def loN (w : Nat) : Nat := cond (Nat.beq w 0) 1583 (cond (Nat.beq w 1) 1586 (cond (Nat.beq w 2) 2725 (cond (Nat.beq w 3) 4995 (cond (Nat.beq w 4) 1584 (cond (Nat.beq w 5) 1595 (cond (Nat.beq w 6) 2437 (cond (Nat.beq w 7) 4609 (cond (Nat.beq w 8) 6808 8601))))))))
def hiN (w : Nat) : Nat := cond (Nat.beq w 0) 2698 (cond (Nat.beq w 1) 4860 (cond (Nat.beq w 2) 6483 (cond (Nat.beq w 3) 6893 (cond (Nat.beq w 4) 2092 (cond (Nat.beq w 5) 4294 (cond (Nat.beq w 6) 6395 (cond (Nat.beq w 7) 8594 (cond (Nat.beq w 8) 10793 12840))))))))
theorem loN_so {w : Nat} (h : w < 10) : (loN w : Int) = tlo w ∧ (hiN w : Int) = thi w := by
  have : w = 0 ∨ w = 1 ∨ w = 2 ∨ w = 3 ∨ w = 4 ∨ w = 5 ∨ w = 6 ∨ w = 7 ∨ w = 8 ∨ w = 9 := by omega
  rcases this with rfl | rfl | rfl | rfl | rfl | rfl | rfl | rfl | rfl | rfl <;> decide
def kH (y d : Nat) : Bool := cond (Nat.ble 70 d) (Nat.ble 7303 y) (cond (Nat.ble (loN (Nat.div d 7)) y) (Nat.ble y (hiN (Nat.div d 7))) false)
def kG (y a b : Nat) : Bool := cond (Nat.ble b a) (kH y (Nat.sub a b)) false
def kF (k i : Nat) : Bool := kG (Nat.add k i) (Nat.add (fE (Nat.add k i) (fD (Nat.mod (Nat.add k i) 19))) (Nat.sub (Nat.div (Nat.add k i) 100) (Nat.div (Nat.add k i) 400))) (Nat.add (fL (Nat.add k i)) 2)
theorem k_all0 : (List.range 700).all (kF 1583) = true := by decide +kernel
theorem k_all1 : (List.range 700).all (kF 2283) = true := by decide +kernel
theorem k_all2 : (List.range 700).all (kF 2983) = true := by decide +kernel
theorem k_all3 : (List.range 700).all (kF 3683) = true := by decide +kernel
theorem k_all4 : (List.range 700).all (kF 4383) = true := by decide +kernel
theorem k_all5 : (List.range 700).all (kF 5083) = true := by decide +kernel
theorem k_all6 : (List.range 700).all (kF 5783) = true := by decide +kernel
theorem k_all7 : (List.range 700).all (kF 6483) = true := by decide +kernel
theorem k_all8 : (List.range 700).all (kF 7183) = true := by decide +kernel
theorem k_all9 : (List.range 700).all (kF 7883) = true := by decide +kernel
theorem k_all10 : (List.range 700).all (kF 8583) = true := by decide +kernel
theorem k_all11 : (List.range 700).all (kF 9283) = true := by decide +kernel
theorem k_all12 : (List.range 700).all (kF 9983) = true := by decide +kernel
theorem k_all13 : (List.range 700).all (kF 10683) = true := by decide +kernel
theorem k_all14 : (List.range 700).all (kF 11383) = true := by decide +kernel
theorem k_all15 : (List.range 700).all (kF 12083) = true := by decide +kernel
theorem k_all16 : (List.range 700).all (kF 12783) = true := by decide +kernel
theorem k_all17 : (List.range 700).all (kF 13483) = true := by decide +kernel
theorem gap_seven (y : Int) : gap y % 7 = 0 := by
  have h1 := oN_sun (y := y) (.inl rfl)
  have h2 := w_sun y
  unfold gap
  omega
theorem wN_lin (y : Int) : wN y = 1721120 + 365 * y + y / 4 - y / 100 + y / 400 + wL y + 27 := by
  unfold wN
  rw [gdn_march]
  omega
theorem kH_so {y d : Nat} (h : kH y d = true) : gOk d y = true := by
  unfold kH at h
  rw [cond_le] at h
  unfold gOk
  simp only [Bool.and_eq_true, decide_eq_true_eq]
  refine ⟨by omega, ?_⟩
  have e : (d : Int) / 7 = (d / 7 : Nat) := by omega
  split at h
  · have := Nat.le_of_ble_eq_true h
    rw [if_neg (by omega)]
    exact decide_eq_true (by omega)
  · rw [cond_le] at h
    have hw := loN_so (w := d / 7) (by omega)
    rw [if_pos (by omega), e, ← hw.1, ← hw.2]
    have e1 : Nat.div d 7 = d / 7 := rfl
    rw [e1] at h
    split at h
    · have := Nat.le_of_ble_eq_true h
      simp only [Bool.and_eq_true, decide_eq_true_eq]
      omega
    · exact absurd h (by decide)
theorem kG_so {y a b : Nat} (h : kG y a b = true) (e : gap y = (a : Int) - (b : Int)) : gOk (gap y) y = true := by
  unfold kG at h
  rw [cond_le] at h
  split at h
  · have e2 : gap y = (Nat.sub a b : Nat) := by
      have e3 : Nat.sub a b = a - b := rfl
      omega
    rw [e2]
    exact kH_so h
  · exact absurd h (by decide)
theorem kF_gap {y : Nat} (hy : 1583 ≤ y) : gap y = ((Nat.add (fE y (fD (Nat.mod y 19))) (Nat.sub (Nat.div y 100) (Nat.div y 400)) : Nat) : Int) - ((Nat.add (fL y) 2 : Nat) : Int) := by
  have h1 := fL_so hy
  have h2 := fE_so y
  have h3 := oN_lin (y := y) (later := 0) (.inl rfl)
  have h4 := wN_lin y
  unfold gap
  simp only [Nat.add_eq, Nat.sub_eq, nat_dv] at *
  generalize fE y (fD (Nat.mod y 19)) = A at *
  generalize fL y = B at *
  generalize (2 * ((y : Int) % 4) + 4 * ((y : Int) % 7) - eD y 0 + 6) % 7 = e at *
  omega
theorem kOk_use {k : Nat} (h : (List.range 700).all (kF k) = true) (hk : 1583 ≤ k) {y : Int} (h1 : (k : Int) ≤ y) (h2 : y < k + 700) : gOk (gap y) y = true := by
  have := List.all_eq_true.mp h (y - k).toNat (List.mem_range.mpr (by omega))
  have e : ((Nat.add k (y - k).toNat : Nat) : Int) = y := by
    have : Nat.add k (y - k).toNat = k + (y - k).toNat := rfl
    omega
  have hg := kF_gap (y := Nat.add k (y - k).toNat) (by omega)
  have hs := kG_so this hg
  rw [e] at hs
  exact hs
theorem wL_top (y : Int) : wL y ≤ 28 := by
  have := wI_range y
  unfold wL
  omega
theorem gap_far {y : Int} (h : 14000 ≤ y) : 70 ≤ gap y := by
  have h1 := gap_seven y
  have h2 := eD_le (y := y) (later := 0) (.inl rfl)
  have h3 := oN_lin (y := y) (later := 0) (.inl rfl)
  have h4 := wN_lin y
  have h5 := wL_top y
  have h6 : 0 ≤ (2 * (y % 4) + 4 * (y % 7) - eD y 0 + 6) % 7 := by omega
  unfold gap at *
  generalize (2 * (y % 4) + 4 * (y % 7) - eD y 0 + 6) % 7 = e at *
  omega
theorem gap_ok {y : Int} (h : 1583 ≤ y) : gOk (gap y) y = true := by
  rcases Int.lt_or_le y 14000 with h9 | h9
  · by_cases c0 : y < 2283
    · exact kOk_use k_all0 (by decide) (by omega) (by omega)
    by_cases c1 : y < 2983
    · exact kOk_use k_all1 (by decide) (by omega) (by omega)
    by_cases c2 : y < 3683
    · exact kOk_use k_all2 (by decide) (by omega) (by omega)
    by_cases c3 : y < 4383
    · exact kOk_use k_all3 (by decide) (by omega) (by omega)
    by_cases c4 : y < 5083
    · exact kOk_use k_all4 (by decide) (by omega) (by omega)
    by_cases c5 : y < 5783
    · exact kOk_use k_all5 (by decide) (by omega) (by omega)
    by_cases c6 : y < 6483
    · exact kOk_use k_all6 (by decide) (by omega) (by omega)
    by_cases c7 : y < 7183
    · exact kOk_use k_all7 (by decide) (by omega) (by omega)
    by_cases c8 : y < 7883
    · exact kOk_use k_all8 (by decide) (by omega) (by omega)
    by_cases c9 : y < 8583
    · exact kOk_use k_all9 (by decide) (by omega) (by omega)
    by_cases c10 : y < 9283
    · exact kOk_use k_all10 (by decide) (by omega) (by omega)
    by_cases c11 : y < 9983
    · exact kOk_use k_all11 (by decide) (by omega) (by omega)
    by_cases c12 : y < 10683
    · exact kOk_use k_all12 (by decide) (by omega) (by omega)
    by_cases c13 : y < 11383
    · exact kOk_use k_all13 (by decide) (by omega) (by omega)
    by_cases c14 : y < 12083
    · exact kOk_use k_all14 (by decide) (by omega) (by omega)
    by_cases c15 : y < 12783
    · exact kOk_use k_all15 (by decide) (by omega) (by omega)
    by_cases c16 : y < 13483
    · exact kOk_use k_all16 (by decide) (by omega) (by omega)
    exact kOk_use k_all17 (by decide) (by omega) (by omega)
  · have := gap_far h9
    unfold gOk
    rw [if_neg (by omega)]
    simp only [Bool.and_eq_true, decide_eq_true_eq]
    omega
/-- what the law asks of the weeks between -/
theorem weeks_so {y k : Int} (hy : 1583 ≤ y) (hk : oN y 0 - wN y = 7 * k) : 0 ≤ k ∧ (9 < k → 7303 ≤ y) ∧ (k < 10 → tlo k ≤ y ∧ y ≤ thi k) := by
  have h := gap_ok hy
  unfold gOk at h
  have e : gap y = 7 * k := hk
  rw [e] at h
  have e7 : 7 * k / 7 = k := by omega
  rw [e7] at h
  simp only [Bool.and_eq_true, decide_eq_true_eq] at h
  obtain ⟨h0, h⟩ := h
  refine ⟨by omega, fun h9 => ?_, fun h9 => ?_⟩
  · rw [if_neg (by omega)] at h
    exact decide_eq_true_eq.mp h
  · rw [if_pos (by omega)] at h
    simp only [Bool.and_eq_true, decide_eq_true_eq] at h
    exact h
theorem weeks_ends {k : Int} (h : 0 ≤ k ∧ k ≤ 9) : gap (tlo k) = 7 * k ∧ gap (thi k) = 7 * k ∧ 1583 ≤ tlo k ∧ tlo k ≤ 20000 ∧ 1583 ≤ thi k ∧ thi k ≤ 20000 := by
  have : k = 0 ∨ k = 1 ∨ k = 2 ∨ k = 3 ∨ k = 4 ∨ k = 5 ∨ k = 6 ∨ k = 7 ∨ k = 8 ∨ k = 9 := by omega
  rcases this with rfl | rfl | rfl | rfl | rfl | rfl | rfl | rfl | rfl | rfl <;> decide +kernel
/-- the eastern church's parting years -/
def pOk (i : Nat) : Bool := if i = 38 ∨ i = 133 ∨ i = 228 ∨ i = 475 then decide (oN i 1 = oN i 0 + 7) && decide (oN i 0 = 1721117 + 365 * (i : Int) + (i : Int) / 4 + 37) else decide (oN i 1 = oN i 0)
theorem p_all : (List.range 532).all pOk = true := by decide +kernel
theorem part_so (y : Int) : if y % 532 = 38 ∨ y % 532 = 133 ∨ y % 532 = 228 ∨ y % 532 = 475 then oN y 1 = oN y 0 + 7 ∧ oN y 0 = 1721117 + 365 * y + y / 4 + 37 else oN y 1 = oN y 0 := by
  obtain ⟨i, hi, r, hr⟩ : ∃ i : Nat, i < 532 ∧ ∃ r : Int, y = i + 532 * r := ⟨(y % 532).toNat, by omega, y / 532, by omega⟩
  have := List.all_eq_true.mp p_all i (List.mem_range.mpr hi)
  unfold pOk at this
  have e : y % 532 = i := by omega
  rw [e, hr, oN_per, oN_per]
  by_cases c : i = 38 ∨ i = 133 ∨ i = 228 ∨ i = 475
  · rw [if_pos c] at this
    rw [if_pos (by omega)]
    simp only [Bool.and_eq_true, decide_eq_true_eq] at this
    omega
  · rw [if_neg c] at this
    rw [if_neg (by omega)]
    have := of_decide_eq_true this
    omega
theorem part_yes {y : Int} (h : y % 532 = 38 ∨ y % 532 = 133 ∨ y % 532 = 228 ∨ y % 532 = 475) : oN y 1 = oN y 0 + 7 ∧ oN y 0 = 1721117 + 365 * y + y / 4 + 37 := by
  have := part_so y
  rw [if_pos h] at this
  exact this
theorem part_no {y : Int} (h : ¬ (y % 532 = 38 ∨ y % 532 = 133 ∨ y % 532 = 228 ∨ y % 532 = 475)) : oN y 1 = oN y 0 := by
  have := part_so y
  rw [if_neg h] at this
  exact this
/-- a date that the calendar has -/
def Leg (y m d : Int) : Prop := 1 ≤ m ∧ m ≤ 12 ∧ 1 ≤ d ∧ d ≤ mlen y m
theorem gdn_in_year {y m d : Int} (h : Leg y m d) : gdn y 1 1 ≤ gdn y m d ∧ gdn y m d < gdn (y + 1) 1 1 := by
  obtain ⟨h1, h2, h3, h4⟩ := h
  have hL := leap_iff y
  have hm : m = 1 ∨ m = 2 ∨ m = 3 ∨ m = 4 ∨ m = 5 ∨ m = 6 ∨ m = 7 ∨ m = 8 ∨ m = 9 ∨ m = 10 ∨ m = 11 ∨ m = 12 := by omega
  rw [gdn_jan, gdn_jan]
  unfold mlen at h4
  unfold gdn
  cases hB : leapB y
  · have hn : ¬ (y % 4 = 0 ∧ (y % 100 ≠ 0 ∨ y % 400 = 0)) := by rw [← hL, hB]; decide
    rw [hB] at h4
    have hd : y / 4 - (y - 1) / 4 - (y / 100 - (y - 1) / 100) + (y / 400 - (y - 1) / 400) = 0 := by
      by_cases a : y % 4 = 0
      · by_cases b : y % 100 = 0
        · by_cases c : y % 400 = 0
          · omega
          · omega
        · omega
      · have : y % 100 ≠ 0 := by omega
        have : y % 400 ≠ 0 := by omega
        omega
    have e : y + 1 - 1 = y := by omega
    rw [e]
    generalize y / 4 = a1 at *
    generalize (y - 1) / 4 = a2 at *
    generalize y / 100 = a3 at *
    generalize (y - 1) / 100 = a4 at *
    generalize y / 400 = a5 at *
    generalize (y - 1) / 400 = a6 at *
    rcases hm with rfl | rfl | rfl | rfl | rfl | rfl | rfl | rfl | rfl | rfl | rfl | rfl <;> simp at h4 ⊢ <;> omega
  · have hn := hL.mp hB
    rw [hB] at h4
    have hd : y / 4 - (y - 1) / 4 - (y / 100 - (y - 1) / 100) + (y / 400 - (y - 1) / 400) = 1 := by
      obtain ⟨a, b⟩ := hn
      by_cases b : y % 100 = 0
      · have : y % 400 = 0 := by omega
        omega
      · have : y % 400 ≠ 0 := by omega
        omega
    have e : y + 1 - 1 = y := by omega
    rw [e]
    generalize y / 4 = a1 at *
    generalize (y - 1) / 4 = a2 at *
    generalize y / 100 = a3 at *
    generalize (y - 1) / 100 = a4 at *
    generalize y / 400 = a5 at *
    generalize (y - 1) / 400 = a6 at *
    rcases hm with rfl | rfl | rfl | rfl | rfl | rfl | rfl | rfl | rfl | rfl | rfl | rfl <;> simp at h4 ⊢ <;> omega
theorem gdn_jan_le {y z : Int} (h : y ≤ z) : gdn y 1 1 ≤ gdn z 1 1 := by
  rw [gdn_jan, gdn_jan]
  omega
/-- two months of one year -/
theorem gdn_month {y m d m' d' : Int} (h : Leg y m d) (h' : Leg y m' d') (hm : m < m') : gdn y m d < gdn y m' d' := by
  obtain ⟨h1, h2, h3, h4⟩ := h
  obtain ⟨h1', h2', h3', h4'⟩ := h'
  have hc : m = 1 ∨ m = 2 ∨ m = 3 ∨ m = 4 ∨ m = 5 ∨ m = 6 ∨ m = 7 ∨ m = 8 ∨ m = 9 ∨ m = 10 ∨ m = 11 ∨ m = 12 := by omega
  clear h4'
  unfold mlen at h4
  unfold gdn
  cases hB : leapB y <;> rw [hB] at h4 <;> rcases hc with rfl | rfl | rfl | rfl | rfl | rfl | rfl | rfl | rfl | rfl | rfl | rfl <;> simp at h4 ⊢ <;> first | omega | (by_cases c : m' ≤ 2 <;> simp [c] <;> omega)
theorem gdn_one {y m d y' m' d' : Int} (h : Leg y m d) (h' : Leg y' m' d') (e : gdn y m d = gdn y' m' d') : y = y' ∧ m = m' ∧ d = d' := by
  have a := gdn_in_year h
  have a' := gdn_in_year h'
  have ey : y = y' := by
    rcases Int.lt_trichotomy y y' with c | c | c
    · have := gdn_jan_le (y := y + 1) (z := y') (by omega)
      omega
    · exact c
    · have := gdn_jan_le (y := y' + 1) (z := y) (by omega)
      omega
  subst ey
  have em : m = m' := by
    rcases Int.lt_trichotomy m m' with c | c | c
    · have := gdn_month h h' c
      omega
    · exact c
    · have := gdn_month h' h c
      omega
  subst em
  unfold gdn at e
  exact ⟨rfl, rfl, by omega⟩
end Mine
namespace Mine
theorem civ_year {n l0 r h l1 f l2 o Y L : Int} (e0 : l0 = (n - 1721120).fmod 146097) (er : r = (n - 1721120).fdiv 146097) (eh : h = if 3 < l0 / 36524 then 3 else l0 / 36524) (e1 : l1 = l0 - 36524 * h) (ef : f = l1 / 1461) (e2 : l2 = l1 - 1461 * f) (eo : o = if 3 < l2 / 365 then 3 else l2 / 365)
    (hL : l2 - 365 * o = L) (hY : 400 * r + 100 * h + 4 * f + o = Y) : gdn Y 3 1 = n - L ∧ 0 ≤ L ∧ L ≤ 365 ∧ (L = 365 → leapB (Y + 1) = true) := by
  rw [Int.fmod_eq_emod_of_nonneg _ (by decide)] at e0
  rw [Int.fdiv_eq_ediv_of_nonneg _ (by decide)] at er
  have h0 : n - 1721120 = 146097 * r + l0 ∧ 0 ≤ l0 ∧ l0 < 146097 := by omega
  clear e0 er
  have hh : 0 ≤ h ∧ h ≤ 3 ∧ 0 ≤ l1 ∧ (l1 < 36524 ∨ (h = 3 ∧ l1 = 36524)) := by
    split at eh <;> omega
  have hf : 0 ≤ f ∧ f ≤ 24 ∧ 0 ≤ l2 ∧ l2 ≤ 1460 ∧ l1 = 1461 * f + l2 := by omega
  clear eh ef
  have ho : 0 ≤ o ∧ o ≤ 3 ∧ 0 ≤ L ∧ (L < 365 ∨ (o = 3 ∧ L = 365)) := by
    split at eo <;> omega
  clear eo
  subst hY
  refine ⟨?_, ho.2.2.1, by omega, fun h5 => ?_⟩
  · rw [gdn_march]
    have a1 : (400 * r + 100 * h + 4 * f + o) / 4 = 100 * r + 25 * h + f := by omega
    have a2 : (400 * r + 100 * h + 4 * f + o) / 100 = 4 * r + h := by omega
    have a3 : (400 * r + 100 * h + 4 * f + o) / 400 = r := by omega
    rw [a1, a2, a3]
    omega
  · rw [leap_iff]
    have o3 : o = 3 := by omega
    subst o3
    by_cases f24 : f = 24
    · have : h = 3 := by omega
      omega
    · have : 0 ≤ f ∧ f ≤ 23 := by omega
      omega
theorem civ_mar {y L n m d : Int} (h : gdn y 3 1 = n - L) (hm : 3 ≤ m ∧ m ≤ 12) (hd : d = L - ((367 * m - 362) / 12 - 61) + 1) (h1 : 1 ≤ d) (h2 : ((m = 4 ∨ m = 6 ∨ m = 9 ∨ m = 11) → d ≤ 30) ∧ d ≤ 31) : Leg y m d ∧ gdn y m d = n := by
  have a : ¬ m ≤ 2 := by omega
  have b : ¬ m = 2 := by omega
  have c : ¬ (3 : Int) ≤ 2 := by decide
  refine ⟨⟨by omega, hm.2, h1, ?_⟩, ?_⟩
  · unfold mlen
    rw [if_neg b]
    split
    · exact h2.1 (by assumption)
    · exact h2.2
  · unfold gdn at h ⊢
    rw [if_neg c] at h
    rw [if_neg a]
    omega
theorem gdn_next (y : Int) (m d : Int) (hm : m = 1 ∨ m = 2) : gdn (y + 1) m d = gdn y 3 1 + (if m = 1 then 306 else 337) + d - 1 := by
  have e : y + 1 - 1 = y := by omega
  rw [gdn_march]
  unfold gdn
  rw [e, if_pos (by omega)]
  rcases hm with rfl | rfl
  · rw [if_pos rfl]; omega
  · rw [if_neg (by decide)]; omega
theorem civ_jan {y L n m d : Int} (h : gdn y 3 1 = n - L) (hm : m = 1) (hd : d = L - 306 + 1) (h1 : 1 ≤ d) (h2 : d ≤ 31) : Leg (y + 1) m d ∧ gdn (y + 1) m d = n := by
  subst hm
  refine ⟨⟨by decide, by decide, h1, ?_⟩, ?_⟩
  · unfold mlen
    rw [if_neg (by decide), if_neg (by decide)]
    exact h2
  · rw [gdn_next y 1 d (.inl rfl), if_pos rfl]
    omega
theorem civ_feb {y L n m d : Int} (h : gdn y 3 1 = n - L) (hm : m = 2) (hd : d = L - 337 + 1) (h1 : 1 ≤ d) (h2 : L ≤ 365) (h3 : L = 365 → leapB (y + 1) = true) : Leg (y + 1) m d ∧ gdn (y + 1) m d = n := by
  subst hm
  refine ⟨⟨by decide, by decide, h1, ?_⟩, ?_⟩
  · unfold mlen
    rw [if_pos rfl]
    split
    · omega
    · rename_i c
      have : ¬ L = 365 := fun e => c (h3 e)
      omega
  · rw [gdn_next y 2 d (.inr rfl), if_neg (by decide)]
    omega
end Mine
open PySem PySem.W PyProof.Rows
namespace Mine
section
open PySem.Float64

theorem rg_isFinite {x : UInt64} {k : Nat} {lo hi : Int} (h : Rg x k lo hi) : PySem.Float64.isNaN x = false ∧ PySem.Float64.isInf x = false := by
  obtain ⟨a, m, e, d⟩ := h.fin
  constructor
  · unfold PySem.Float64.isNaN; rw [d]
  · unfold PySem.Float64.isInf; rw [d]

theorem rg_truncI {x : UInt64} {n : Int} (hx : Rg x 0 n n) : Flt.toInt truncOf x = n := by
  have hng := rg_neg hx
  obtain ⟨a, m, e, d⟩ := hx.fin
  have dn := neg_decode d
  have h1 := rg_floor d hx (n := n) (by simp) (by simp; omega)
  have h2 := rg_floor dn hng (n := -n) (by simp) (by simp; omega)
  rw [Flt.toInt_fin d]
  unfold truncOf
  cases a
  · simpa using h1
  · simp only [if_true]
    unfold ceilOf
    have h3 : floorOf (!true) m e = -n := h2
    rw [h3]; omega

theorem rg_half {x : UInt64} {n c : Int} (hx : Rg x 1 n n) (h : n = 2 * c) : Rg x 0 c c := by
  subst h
  have h1 := hx.lo
  have h2 := hx.hi
  refine ⟨hx.fin, ?_, ?_⟩
  · generalize (2 : Int) ^ 1074 = K at *
    have e : 2 * c * K = 2 * (c * K) := Int.mul_assoc _ _ _
    rw [e] at h1
    have : val x * 2 ^ 0 = val x := by simp
    rw [this]
    have : val x * 2 ^ 1 = 2 * val x := by omega
    rw [this] at h1
    omega
  · generalize (2 : Int) ^ 1074 = K at *
    have e : 2 * c * K = 2 * (c * K) := Int.mul_assoc _ _ _
    rw [e] at h2
    have : val x * 2 ^ 0 = val x := by simp
    rw [this]
    have : val x * 2 ^ 1 = 2 * val x := by omega
    rw [this] at h2
    omega

def rgB (x : UInt64) (k : Nat) (lo hi : Int) : Bool := PySem.Float64.isFinite x && decide (lo * 2 ^ 1074 ≤ val x * 2 ^ k) && decide (val x * 2 ^ k ≤ hi * 2 ^ 1074)
theorem rg_of {x : UInt64} {k : Nat} {lo hi : Int} (h : rgB x k lo hi = true) : Rg x k lo hi := by
  unfold rgB at h
  rw [Bool.and_eq_true, Bool.and_eq_true, decide_eq_true_eq, decide_eq_true_eq] at h
  obtain ⟨⟨h1, h2⟩, h3⟩ := h
  refine ⟨?_, h2, h3⟩
  unfold PySem.Float64.isFinite at h1
  split at h1
  · exact ⟨_, _, _, by assumption⟩
  · cases h1

theorem l_epoch : Rg 0x413a445180000000 1 3442851 3442851 := rg_of (by decide +kernel)
theorem l_half : Rg 0x3fe0000000000000 1 1 1 := rg_of (by decide +kernel)
theorem l_365 : Rg 0x4076d40000000000 2 1461 1461 := rg_of (by decide +kernel)
theorem l_1524 : Rg 0x4097d20000000000 1 3049 3049 := rg_of (by decide +kernel)
theorem l_122 : Rg 0x405e866666666666 45 4296011832046387 4296011832046387 := rg_of (by decide +kernel)
theorem l_122b : Rg 0x405e866666666666 5 3907 3908 := rg_of (by decide +kernel)

section
variable {prog : Program} {w : World} {A : Around} {E : Value → Shared → Prop} {s : Shared} {t u : Tok} {Q : Value → Shared → Prop} {x y : UInt64} {a b c i n : Int}

theorem w_div_ii (hA : A.handled = none) (hb : 0 < b) (ha : a.natAbs ≤ 2 ^ 50) (h : ∀ z, Qt z a b → Q (.float z s.toks) { s with toks := s.toks + 1 }) : wpAny (model prog w) A (binaryOp .Div (.int a t) (.int b u)) Q E s :=
  Flt.div_ii_fits hA (by have : (2 : Nat) ^ 50 < 2 ^ 1023 := by decide +kernel
                         omega) (fun hz => absurd hz (by omega)) fun _ _ => h _ (qt_ofFrac hb)

theorem not_over (hn : n.natAbs ≤ 2 ^ 53) : ¬ Flt.Over n := fun ho => by
  have := (rg_isFinite (rg_ofInt hn)).2
  rw [Flt.inf_of_over ho] at this; cases this

theorem w_div_fi (hx : Rg x 0 a a) (hA : A.handled = none) (hb : 0 < b) (hb2 : b ≤ 2 ^ 53) (h : ∀ z, Qt z a b → Q (.float z s.toks) { s with toks := s.toks + 1 }) : wpAny (model prog w) A (binaryOp .Div (.float x t) (.int b u)) Q E s :=
  Flt.truediv_fi hA (fun ho => absurd ho (not_over (by omega))) (fun hz => absurd hz (by omega)) fun _ _ => h _ (qt_div hx hb hb2)

theorem w_mod_fi (hx : Rg x 0 a a) (hA : A.handled = none) (hb : 0 < b) (hb2 : b ≤ 2 ^ 52) (h : ∀ z r, r = a % b → Rg z 0 r r → Q (.float z s.toks) { s with toks := s.toks + 1 }) : wpAny (model prog w) A (binaryOp .Mod (.float x t) (.int b u)) Q E s :=
  Flt.mod_fi hA (fun ho => absurd ho (not_over (by omega))) (fun hz => absurd hz (by omega)) fun _ _ => h _ _ rfl (mod_ex hx hb hb2)

theorem fit_of (h : n.natAbs ≤ 2 ^ 53) : n.natAbs < 2 ^ 1023 := by
  have : (2 : Nat) ^ 53 < 2 ^ 1023 := by decide +kernel
  omega

theorem up1 (hi : i.natAbs ≤ 2 ^ 53) : Rg (ofInt i) 1 (2 * i) (2 * i) := by
  have := (rg_ofInt (n := i) hi).up 1
  have e : i * 2 ^ 1 = 2 * i := by omega
  rw [e] at this
  exact this

theorem w_add_fi0 (hx : Rg x 0 n n) (hi : i.natAbs ≤ 2 ^ 52) (hn : n.natAbs ≤ 2 ^ 52) (h : ∀ z, Rg z 0 (n + i) (n + i) → Q (.float z s.toks) { s with toks := s.toks + 1 }) : wpAny (model prog w) A (binaryOp .Add (.float x t) (.int i u)) Q E s :=
  add_fi_fits (fit_of (by omega)) (h _ (rg_add hx (rg_ofInt (by omega)) (by decide) (by omega) (by omega)))
theorem w_add_fi1 (hx : Rg x 1 n n) (hi : i.natAbs ≤ 2 ^ 50) (hn : n.natAbs ≤ 2 ^ 52) (h : ∀ z, Rg z 1 (n + 2 * i) (n + 2 * i) → Q (.float z s.toks) { s with toks := s.toks + 1 }) : wpAny (model prog w) A (binaryOp .Add (.float x t) (.int i u)) Q E s :=
  add_fi_fits (fit_of (by omega)) (h _ (rg_add hx (up1 (by omega)) (by decide) (by omega) (by omega)))
theorem w_add_if1 (hx : Rg x 1 n n) (hi : i.natAbs ≤ 2 ^ 50) (hn : n.natAbs ≤ 2 ^ 52) (h : ∀ z, Rg z 1 (2 * i + n) (2 * i + n) → Q (.float z s.toks) { s with toks := s.toks + 1 }) : wpAny (model prog w) A (binaryOp .Add (.int i u) (.float x t)) Q E s :=
  add_if_fits (fit_of (by omega)) (h _ (rg_add (up1 (by omega)) hx (by decide) (by omega) (by omega)))
theorem w_sub_fi1 (hx : Rg x 1 n n) (hi : i.natAbs ≤ 2 ^ 50) (hn : n.natAbs ≤ 2 ^ 52) (h : ∀ z, Rg z 1 (n - 2 * i) (n - 2 * i) → Q (.float z s.toks) { s with toks := s.toks + 1 }) : wpAny (model prog w) A (binaryOp .Sub (.float x t) (.int i u)) Q E s :=
  sub_fi_fits (fit_of (by omega)) (h _ (rg_sub hx (up1 (by omega)) (by decide) (by omega) (by omega)))
theorem w_sub_if1 (hx : Rg x 1 n n) (hi : i.natAbs ≤ 2 ^ 50) (hn : n.natAbs ≤ 2 ^ 52) (h : ∀ z, Rg z 1 (2 * i - n) (2 * i - n) → Q (.float z s.toks) { s with toks := s.toks + 1 }) : wpAny (model prog w) A (binaryOp .Sub (.int i u) (.float x t)) Q E s :=
  sub_if_fits (fit_of (by omega)) (h _ (rg_sub (up1 (by omega)) hx (by decide) (by omega) (by omega)))

theorem w_add_ff (hx : Rg x 1 a a) (hy : Rg y 1 b b) (h1 : (a + b) % 2 = 0) (ha : a.natAbs ≤ 2 ^ 51) (hb : b.natAbs ≤ 2 ^ 51) (h : ∀ z r, 2 * r = a + b → Rg z 0 r r → Q (.float z s.toks) { s with toks := s.toks + 1 }) : wpAny (model prog w) A (binaryOp .Add (.float x t) (.float y u)) Q E s :=
  add_float (h _ ((a + b) / 2) (by omega) (rg_half (rg_add hx hy (by decide) (by omega) (by omega)) (by omega)))
theorem w_iadd_ff (hx : Rg x 1 a a) (hy : Rg y 1 b b) (h1 : (a + b) % 2 = 0) (ha : a.natAbs ≤ 2 ^ 51) (hb : b.natAbs ≤ 2 ^ 51) (h : ∀ z r, 2 * r = a + b → Rg z 0 r r → Q (.float z s.toks) { s with toks := s.toks + 1 }) : wpAny (model prog w) A (inplaceOp .Add (.float x t) (.float y u)) Q E s :=
  iadd_float (h _ ((a + b) / 2) (by omega) (rg_half (rg_add hx hy (by decide) (by omega) (by omega)) (by omega)))
theorem w_sub_ff (hx : Rg x 1 a a) (hy : Rg y 1 b b) (h1 : (a - b) % 2 = 0) (ha : a.natAbs ≤ 2 ^ 51) (hb : b.natAbs ≤ 2 ^ 51) (h : ∀ z r, 2 * r = a - b → Rg z 0 r r → Q (.float z s.toks) { s with toks := s.toks + 1 }) : wpAny (model prog w) A (binaryOp .Sub (.float x t) (.float y u)) Q E s :=
  sub_float (h _ ((a - b) / 2) (by omega) (rg_half (rg_sub hx hy (by decide) (by omega) (by omega)) (by omega)))

theorem w_mul_fi0 (hx : Rg x 0 n n) (hi : i.natAbs ≤ 2 ^ 53) (hn : (n * i).natAbs ≤ 2 ^ 53) (h : ∀ z, Rg z 0 (n * i) (n * i) → Q (.float z s.toks) { s with toks := s.toks + 1 }) : wpAny (model prog w) A (binaryOp .Mult (.float x t) (.int i u)) Q E s :=
  mul_fi_fits (fit_of hi) (h _ (rg_mul hx (rg_ofInt hi) (by decide) hn))
/-- twice a whole number and a half -/
theorem w_mul_2f (hi : i = 2) (hx : Rg x 1 n n) (hn : n.natAbs ≤ 2 ^ 51) (h : ∀ z, Rg z 0 n n → Q (.float z s.toks) { s with toks := s.toks + 1 }) : wpAny (model prog w) A (binaryOp .Mult (.int i u) (.float x t)) Q E s := by
  subst hi
  exact mul_if_fits (by decide +kernel) (h _ (rg_half (rg_mul (rg_ofInt (n := 2) (by decide)) hx (by decide) (by omega)) rfl))
theorem w_mul_365 (hc : x = 0x4076d40000000000) (hi : i.natAbs ≤ 2 ^ 42) (h : ∀ z, Rg z 2 (1461 * i) (1461 * i) → Q (.float z s.toks) { s with toks := s.toks + 1 }) : wpAny (model prog w) A (binaryOp .Mult (.float x t) (.int i u)) Q E s := by
  subst hc
  exact mul_fi_fits (fit_of (by omega)) (h _ (rg_mul l_365 (rg_ofInt (by omega)) (by decide) (by omega)))

theorem m306 : (List.range 24).all (fun i => rgB (mul 0x403e99a027525461 (ofInt (i : Nat))) 20 ((306001 * (i : Int) / 10000) * 2 ^ 20) ((306001 * (i : Int) / 10000) * 2 ^ 20 + 1048575)) = true := by decide +kernel
theorem w_mul_306 (hc : x = 0x403e99a027525461) (h0 : 0 ≤ i) (h1 : i < 24) (h : ∀ z, Fl z (306001 * i / 10000) → Q (.float z s.toks) { s with toks := s.toks + 1 }) : wpAny (model prog w) A (binaryOp .Mult (.float x t) (.int i u)) Q E s := by
  subst hc
  obtain ⟨j, rfl⟩ : ∃ j : Nat, i = j := ⟨i.toNat, by omega⟩
  have := List.all_eq_true.mp m306 j (List.mem_range.mpr (by omega))
  exact mul_fi_fits (fit_of (by omega)) (h _ (rg_of this))

theorem d306 : (List.range 72).all (fun i => rgB (div (ofInt ((i : Int) + 120)) 0x403e99a027525461) 20 ((10000 * ((i : Int) + 120) / 306001) * 2 ^ 20) ((10000 * ((i : Int) + 120) / 306001) * 2 ^ 20 + 1048575)) = true := by decide +kernel
theorem z306 : PySem.Float64.isZero 0x403e99a027525461 = false := by decide +kernel
theorem w_div_306 (hc : x = 0x403e99a027525461) (hA : A.handled = none) (h0 : 120 ≤ i) (h1 : i < 192) (h : ∀ z, Fl z (10000 * i / 306001) → Q (.float z s.toks) { s with toks := s.toks + 1 }) : wpAny (model prog w) A (binaryOp .Div (.int i u) (.float x t)) Q E s := by
  subst hc
  obtain ⟨j, rfl⟩ : ∃ j : Nat, i = (j : Int) + 120 := ⟨(i - 120).toNat, by omega⟩
  have := List.all_eq_true.mp d306 j (List.mem_range.mpr (by omega))
  exact Flt.truediv_if hA (fun ho => absurd ho (not_over (by omega))) (fun _ hz => by rw [z306] at hz; cases hz) fun _ _ => h _ (rg_of this)

/-- an int less 122.1: between 122 1/8 and 122 1/16 less -/
theorem w_sub_122 (hc : x = 0x405e866666666666) (hi : i.natAbs ≤ 2 ^ 44) (h : ∀ z, Rg z 5 (32 * i - 3908) (32 * i - 3907) → Q (.float z s.toks) { s with toks := s.toks + 1 }) : wpAny (model prog w) A (binaryOp .Sub (.int i u) (.float x t)) Q E s := by
  subst hc
  have h1 := (rg_ofInt (n := i) (by omega)).up 5
  have e : i * 2 ^ 5 = 32 * i := by omega
  rw [e] at h1
  exact sub_if_fits (fit_of (by omega)) (h _ (rg_sub h1 l_122b (by decide) (by omega) (by omega)))
theorem z365 : PySem.Float64.isZero 0x4076d40000000000 = false := by decide +kernel
theorem w_div_365 (hc : y = 0x4076d40000000000) (hx : Rg x 5 (32 * i - 3908) (32 * i - 3907)) (hA : A.handled = none) (hi : i.natAbs ≤ 2 ^ 40) (h : ∀ z, Fl z ((4 * i - 489) / 1461) → Q (.float z s.toks) { s with toks := s.toks + 1 }) : wpAny (model prog w) A (binaryOp .Div (.float x t) (.float y u)) Q E s := by
  subst hc
  exact truediv_float_or hA (fun hz => by rw [z365] at hz; cases hz) fun _ => h _ (rg_div hx l_365 (by decide) (by decide) (by omega) (by omega) (by omega) (by omega))

theorem w_div_365c (hc : y = 0x4076d40000000000) (hx : Rg x 5 (32 * i - 3908) (32 * i - 3907)) (hA : A.handled = none) (hi : i.natAbs ≤ 2 ^ 40) (hq : (4 * i - 489) / 1461 = c) (h : ∀ z, Fl z c → Q (.float z s.toks) { s with toks := s.toks + 1 }) : wpAny (model prog w) A (binaryOp .Div (.float x t) (.float y u)) Q E s :=
  w_div_365 hc hx hA hi fun z hz => h z (hq ▸ hz)
theorem w_floor (hx : Rg x c.toNat a b) (h1 : Flt.toInt floorOf x = n) (hA : A.handled = none) (h : Q (.int n s.toks) { s with toks := s.toks + 1 }) : wpAny (model prog w) A (call (.builtin "math.floor") [.float x t]) Q E s :=
  Flt.call_floor_float hA (fun hz => by rw [(rg_isFinite hx).1] at hz; cases hz) (fun hz => by rw [(rg_isFinite hx).2] at hz; cases hz) fun _ => by rw [h1]; exact h
theorem w_floor' {k : Nat} (hx : Rg x k a b) (h1 : Flt.toInt floorOf x = n) (hA : A.handled = none) (h : Q (.int n s.toks) { s with toks := s.toks + 1 }) : wpAny (model prog w) A (call (.builtin "math.floor") [.float x t]) Q E s :=
  Flt.call_floor_float hA (fun hz => by rw [(rg_isFinite hx).1] at hz; cases hz) (fun hz => by rw [(rg_isFinite hx).2] at hz; cases hz) fun _ => by rw [h1]; exact h
theorem w_floor_qt (hx : Qt x a b) (hA : A.handled = none) (hb : 0 < b) (hb2 : b ≤ 2 ^ 20) (ha : a.natAbs ≤ 2 ^ 32 * b.natAbs) (h : ∀ r, r = a / b → Q (.int r s.toks) { s with toks := s.toks + 1 }) : wpAny (model prog w) A (call (.builtin "math.floor") [.float x t]) Q E s :=
  w_floor' (qt_fl hx hb hb2 ha) (fl_floor (qt_fl hx hb hb2 ha)) hA (h _ rfl)
theorem w_floor_fl (hx : Fl x n) (hA : A.handled = none) (h : Q (.int n s.toks) { s with toks := s.toks + 1 }) : wpAny (model prog w) A (call (.builtin "math.floor") [.float x t]) Q E s :=
  w_floor' hx (fl_floor hx) hA h
theorem w_floor_0 (hx : Rg x 0 n n) (hA : A.handled = none) (h : Q (.int n s.toks) { s with toks := s.toks + 1 }) : wpAny (model prog w) A (call (.builtin "math.floor") [.float x t]) Q E s :=
  w_floor' hx (rg_toFloor hx (by simp) (by simp; omega)) hA h
theorem w_floor_2 (hx : Rg x 2 n n) (hA : A.handled = none) (h : ∀ r, r = n / 4 → Q (.int r s.toks) { s with toks := s.toks + 1 }) : wpAny (model prog w) A (call (.builtin "math.floor") [.float x t]) Q E s :=
  w_floor' hx (rg_toFloor hx (by omega) (by omega)) hA (h _ rfl)

theorem w_trunc' {k : Nat} (hx : Rg x k a b) (h1 : Flt.toInt truncOf x = n) (hA : A.handled = none) (h : Q (.int n s.toks) { s with toks := s.toks + 1 }) : wpAny (model prog w) A (call (.builtin "math.trunc") [.float x t]) Q E s :=
  Flt.call_trunc_float hA (fun hz => by rw [(rg_isFinite hx).1] at hz; cases hz) (fun hz => by rw [(rg_isFinite hx).2] at hz; cases hz) fun _ => by rw [h1]; exact h
theorem w_trunc_qt (hx : Qt x a b) (hA : A.handled = none) (hb : 0 < b) (h0 : 0 ≤ a) (hb2 : b ≤ 2 ^ 20) (ha : a.natAbs ≤ 2 ^ 32 * b.natAbs) (h : ∀ r, r = a / b → Q (.int r s.toks) { s with toks := s.toks + 1 }) : wpAny (model prog w) A (call (.builtin "math.trunc") [.float x t]) Q E s :=
  w_trunc' (qt_fl hx hb hb2 ha) (fl_trunc (qt_fl hx hb hb2 ha) (Int.ediv_nonneg h0 (Int.le_of_lt hb))) hA (h _ rfl)
/-- a numerator that may lie somewhat below nought -/
theorem w_trunc_qtm (hx : Qt x a b) (hA : A.handled = none) (hb : 0 < b) (h0 : -b < a) (hb2 : b ≤ 2 ^ 20) (ha : a.natAbs ≤ 2 ^ 32 * b.natAbs) (h : ∀ r, (0 ≤ a ∧ r = a / b) ∨ (a < 0 ∧ r = 0) → Q (.int r s.toks) { s with toks := s.toks + 1 }) : wpAny (model prog w) A (call (.builtin "math.trunc") [.float x t]) Q E s := by
  rcases Int.lt_or_le a 0 with hn | hn
  · exact w_trunc' (qt_fl hx hb hb2 ha) (qt_trunc0 hx hb h0 (by omega) hb2) hA (h 0 (.inr ⟨hn, rfl⟩))
  · exact w_trunc_qt hx hA hb hn hb2 ha fun r hr => h r (.inl ⟨hn, hr⟩)
/-- a denominator that is no written number: what is known of the quotient -/
theorem w_trunc_var (hx : Qt x a b) (hA : A.handled = none) (hb : 0 < b) (h0 : 0 ≤ a) (hb2 : b ≤ 2 ^ 20) (ha : a.natAbs ≤ 2 ^ 32 * b.natAbs) (h : ∀ r, r = a / b → 0 ≤ r → r ≤ a → (a < b → r = 0) → (b ≤ a → a < 2 * b → r = 1) → Q (.int r s.toks) { s with toks := s.toks + 1 }) : wpAny (model prog w) A (call (.builtin "math.trunc") [.float x t]) Q E s :=
  w_trunc_qt hx hA hb h0 hb2 ha fun r hr => h r hr (hr ▸ Int.ediv_nonneg h0 (Int.le_of_lt hb)) (hr ▸ Int.ediv_le_self _ h0) (fun hl => hr ▸ Int.ediv_eq_zero_of_lt h0 hl) fun h1 h2 => by
    have e := Int.emod_add_mul_ediv a b
    have e1 := Int.emod_nonneg a (Int.ne_of_gt hb)
    have e2 := Int.emod_lt_of_pos a hb
    rw [← hr] at e
    rcases Int.lt_trichotomy r 1 with h3 | h3 | h3
    · exfalso
      have : b * r ≤ b * 0 := Int.mul_le_mul_of_nonneg_left (by omega) (Int.le_of_lt hb)
      omega
    · exact h3
    · exfalso
      have : b * 2 ≤ b * r := Int.mul_le_mul_of_nonneg_left (by omega) (Int.le_of_lt hb)
      omega
theorem mul_ok (ha : a.natAbs ≤ 2 ^ 60) : a.natAbs < 2 ^ 63 := by omega
/-- a product by nought or one -/
theorem w_mul_01 (h0 : 0 ≤ a) (h1 : a ≤ 1) (hb : b.natAbs ≤ 2 ^ 40) (h : ∀ r, (a = 0 ∧ r = 0) ∨ (a = 1 ∧ r = b) → Q (.int r s.toks) { s with toks := s.toks + 1 }) : wpAny (model prog w) A (binaryOp .Mult (.int a t) (.int b u)) Q E s := by
  have : a = 0 ∨ a = 1 := by omega
  rcases this with rfl | rfl
  · exact mul_int (by rw [Int.zero_mul]; exact h 0 (.inl ⟨rfl, rfl⟩))
  · exact mul_int (by rw [Int.one_mul]; exact h b (.inr ⟨rfl, rfl⟩))
theorem w_mul_10 (h0 : 0 ≤ b) (h1 : b ≤ 1) (hb : a.natAbs ≤ 2 ^ 40) (h : ∀ r, (b = 0 ∧ r = 0) ∨ (b = 1 ∧ r = a) → Q (.int r s.toks) { s with toks := s.toks + 1 }) : wpAny (model prog w) A (binaryOp .Mult (.int a t) (.int b u)) Q E s := by
  have : b = 0 ∨ b = 1 := by omega
  rcases this with rfl | rfl
  · exact mul_int (by rw [Int.mul_zero]; exact h 0 (.inl ⟨rfl, rfl⟩))
  · exact mul_int (by rw [Int.mul_one]; exact h a (.inr ⟨rfl, rfl⟩))
theorem w_trunc_0 (hx : Rg x 0 n n) (hA : A.handled = none) (h : Q (.int n s.toks) { s with toks := s.toks + 1 }) : wpAny (model prog w) A (call (.builtin "math.trunc") [.float x t]) Q E s :=
  w_trunc' hx (rg_truncI hx) hA h
theorem w_int_0 (hx : Rg x 0 n n) (hA : A.handled = none) (h : Q (.int n s.toks) { s with toks := s.toks + 1 }) : wpAny (model prog w) A (call (.type "int") [.float x t]) Q E s :=
  Flt.call_int_float3 hA (fun hz => by rw [(rg_isFinite hx).1] at hz; cases hz) (fun hz => by rw [(rg_isFinite hx).2] at hz; cases hz) fun _ => by rw [rg_truncI hx]; exact h

theorem w_add_fi_qt (hx : Qt x a b) (hb : 0 < b) (hb2 : b ≤ 2 ^ 20) (ha : a.natAbs ≤ 2 ^ 32 * b.natAbs) (hi : i.natAbs ≤ 2 ^ 32) (hn : (a / b + i).natAbs ≤ 2 ^ 32) (h : ∀ z, Fl z (a / b + i) → Q (.float z s.toks) { s with toks := s.toks + 1 }) : wpAny (model prog w) A (binaryOp .Add (.float x t) (.int i u)) Q E s :=
  add_fi_fits (fit_of (by omega)) (h _ (fl_add (qt_fl hx hb hb2 ha) hn hi))
theorem w_add_fi_fl (hx : Fl x n) (hi : i.natAbs ≤ 2 ^ 32) (hn : (n + i).natAbs ≤ 2 ^ 32) (h : ∀ z, Fl z (n + i) → Q (.float z s.toks) { s with toks := s.toks + 1 }) : wpAny (model prog w) A (binaryOp .Add (.float x t) (.int i u)) Q E s :=
  add_fi_fits (fit_of (by omega)) (h _ (fl_add hx hn hi))

theorem w_mod_ii (hb : 0 < b) (h : Q (.int (a % b) s.toks) { s with toks := s.toks + 1 }) : wpAny (model prog w) A (binaryOp .Mod (.int a t) (.int b u)) Q E s :=
  mod_int' (by omega) (by rw [Int.fmod_eq_emod_of_nonneg _ (by omega)]; exact h)
theorem w_fdiv_ii (hb : 0 < b) (hb2 : b < 1073741824) (h : Q (.int (a / b) s.toks) { s with toks := s.toks + 1 }) : wpAny (model prog w) A (binaryOp .FloorDiv (.int a t) (.int b u)) Q E s :=
  floordiv_int (by omega) (by rw [Int.fdiv_eq_ediv_of_nonneg _ (by omega)]; exact h) (Or.inl (PyProof.noPylong_small (by omega)))
theorem w_add_it (h : Q (.int (a + 1) s.toks) { s with toks := s.toks + 1 }) : wpAny (model prog w) A (binaryOp .Add (.int a t) (.bool true)) Q E s := add_int_bool h
theorem w_add_if (h : Q (.int (a + 0) s.toks) { s with toks := s.toks + 1 }) : wpAny (model prog w) A (binaryOp .Add (.int a t) (.bool false)) Q E s := add_int_bool h
theorem w_lt_fi (hx : Rg x 0 n n) (h : Q (.bool (decide (n < i))) s) : wpAny (model prog w) A (compareOp .Lt (.float x t) (.int i u)) Q E s := by
  refine lt_fi ?_
  rw [rg_cmpInt hx]
  have : (some (compare n (i * 2 ^ 0)) == some Ordering.lt) = decide (n < i) := by
    have e : i * 2 ^ 0 = i := by simp
    rw [e]
    by_cases hc : n < i
    · rw [Int.compare_eq_lt.mpr hc]; simp [hc]
    · have : compare n i ≠ .lt := fun q => hc (Int.compare_eq_lt.mp q)
      simp only [hc, decide_false]
      cases hd : compare n i
      · exact absurd hd this
      · rfl
      · rfl
  rw [this]; exact h
theorem w_eq_fi (hx : Rg x 0 n n) (h : Q (.bool (decide (n = i))) s) : wpAny (model prog w) A (compareOp .Eq (.float x t) (.int i u)) Q E s := by
  refine eq_fi ?_
  rw [rg_cmpInt hx]
  have : (some (compare n (i * 2 ^ 0)) == some Ordering.eq) = decide (n = i) := by
    have e : i * 2 ^ 0 = i := by simp
    rw [e]
    by_cases hc : n = i
    · subst hc; simp
    · have : compare n i ≠ .eq := fun q => hc (Int.compare_eq_eq.mp q)
      simp only [hc, decide_false]
      cases hd : compare n i
      · rfl
      · exact absurd hd this
      · rfl
  rw [this]; exact h
end
end
end Mine
namespace Mine
section
open PySem.Calls
section
variable {prog : Program} {w : World} {A : Around} {E : Value → Shared → Prop} {s : Shared}
theorem le_pair_tree {a b : Addr} {x1 x2 y1 y2 : Int} {t1 t2 u1 u2 : Tok} {P : Fin → Shared → Prop} (ha : IsTup s.heap a #[.int x1 t1, .int x2 t2]) (hb : IsTup s.heap b #[.int y1 u1, .int y2 u2])
    (h : P (.done (.ret (.bool (decide (x1 < y1 ∨ (x1 = y1 ∧ x2 ≤ y2)))))) s) :
    wpAny (model prog w) A (Builtin.«tuple.__le__» ⟨[.ref a, .ref b], []⟩) P E s := by
  have hTb := hb.typeIs
  obtain ⟨oa, hoa, _, na, hda⟩ := ha
  obtain ⟨ob, hob, _, nb, hdb⟩ := hb
  show wpAny _ _ (isInstance (.ref b) (.type "tuple") >>= _) _ _ s
  refine wpAny_bind (wpAny_isInstance hTb isSubtype_tuple_tuple ?_)
  simp only [Bool.not_true, Bool.false_eq_true, if_false]
  refine wpAny_bind (wpAny_tupleItemsOf hoa hda ?_)
  refine wpAny_bind (wpAny_tupleItemsOf hob hdb ?_)
  refine wpAny_bind ?_
  refine wpAny_forIn_list _
    (fun rest r s' => r.1 = none ∧ s' = s ∧ (rest = [(Value.int x1 t1, Value.int y1 u1), (Value.int x2 t2, Value.int y2 u2)] ∨ (rest = [(Value.int x2 t2, Value.int y2 u2)] ∧ x1 = y1) ∨ (rest = [] ∧ x1 = y1 ∧ x2 = y2)))
    _ ?_ ?_ _ _ ⟨rfl, rfl, .inl rfl⟩
  · rintro ⟨u, v⟩ rest r s' ⟨hr, rfl, hc⟩
    rcases hc with hc | ⟨hc, e1⟩ | ⟨hc, _⟩
    · simp only [List.cons.injEq, Prod.mk.injEq] at hc
      obtain ⟨⟨rfl, rfl⟩, rfl⟩ := hc
      refine wpAny_bind (wpAny_eqBool_int ?_)
      by_cases hk : x1 = y1
      · subst hk
        simp only [beq_self_eq_true, Bool.not_true, Bool.false_eq_true, if_false]
        refine wpAny_pure ?_; simp
      · have hf : (x1 == y1) = false := by simpa using hk
        rw [hf]
        simp only [Bool.not_false, if_true]
        have hv : decide (x1 < y1 ∨ (x1 = y1 ∧ x2 ≤ y2)) = decide (x1 ≤ y1) := by apply decide_eq_decide.mpr; omega
        rw [hv] at h
        refine wpAny_bind (wpAny_rule ?_)
        refine wpAny_bind ?_
        exact le_int (wpAny_bind (wpAny_pure (wpAny_pure (wpAny_pure h))))
    · simp only [List.cons.injEq, Prod.mk.injEq] at hc
      obtain ⟨⟨rfl, rfl⟩, rfl⟩ := hc
      refine wpAny_bind (wpAny_eqBool_int ?_)
      by_cases hk : x2 = y2
      · subst hk
        simp only [beq_self_eq_true, Bool.not_true, Bool.false_eq_true, if_false]
        refine wpAny_pure ?_; simp [e1]
      · have hf : (x2 == y2) = false := by simpa using hk
        rw [hf]
        simp only [Bool.not_false, if_true]
        have hv : decide (x1 < y1 ∨ (x1 = y1 ∧ x2 ≤ y2)) = decide (x2 ≤ y2) := by apply decide_eq_decide.mpr; omega
        rw [hv] at h
        refine wpAny_bind (wpAny_rule ?_)
        refine wpAny_bind ?_
        exact le_int (wpAny_bind (wpAny_pure (wpAny_pure (wpAny_pure h))))
    · cases hc
  · rintro ⟨r1, r2⟩ s' ⟨hr, rfl, hc⟩
    simp only at hr
    subst hr
    rcases hc with hc | ⟨hc, _⟩ | ⟨_, e1, e2⟩
    · cases hc
    · cases hc
    · refine wpAny_pure ?_
      have hv : decide (x1 < y1 ∨ (x1 = y1 ∧ x2 ≤ y2)) = true := by apply decide_eq_true; omega
      rw [hv] at h
      exact h
theorem le_pair {a b : Addr} {x1 x2 y1 y2 : Int} {t1 t2 u1 u2 : Tok} {Q : Value → Shared → Prop} (ha : IsTup s.heap a #[.int x1 t1, .int x2 t2]) (hb : IsTup s.heap b #[.int y1 u1, .int y2 u2]) (hu : A.units < cLine)
    (h : Q (.bool (decide (x1 < y1 ∨ (x1 = y1 ∧ x2 ≤ y2)))) s) : wpAny (model prog w) A (compareOp .LtE (.ref a) (.ref b)) Q E s := by
  show wpAny _ _ (richCompare .LtE _ _) _ _ _
  exact wpAny_richCompare_same_room (op := .LtE) ha.typeIs hb.typeIs F.slot_tuple_le
    (wpAny_call_entry F.slot_tuple_le ha.typeIs F.entry_tuple_le (le_pair_tree ha hb ⟨_, rfl, (fun e => nomatch e), h⟩) (F.args_tuple_le_2 _ _)) hu

theorem eqBool_if {n k : Int} {z : UInt64} {t u : Tok} {Q : Bool → Shared → Prop} (hz : Rg z 0 k k) (h : Q (n == k) s) : wpAny (model prog w) A (eqBool (.int n t) (.float z u)) Q E s := by
  unfold eqBool
  refine wpAny_holding ?_
  have hab : ¬ (Value.int n t == Value.float z u) = true := fun q => by cases eq_of_beq q
  rw [if_neg hab]
  have hc : (PySem.Float64.cmpInt z n == some Ordering.eq) = (n == k) := by
    rw [rg_cmpInt hz]
    have e : n * 2 ^ 0 = n := by simp
    rw [e]
    by_cases hk : n = k
    · subst hk; simp
    · have h1 : (n == k) = false := by simpa using hk
      have : compare k n ≠ .eq := fun q => hk (Int.compare_eq_eq.mp q).symm
      rw [h1]
      cases hd : compare k n
      · rfl
      · exact absurd hd this
      · rfl
  show wpAny _ _ (compareOp .Eq (.int n t) (.float z u) >>= _) _ _ _
  refine wpAny_bind ?_
  exact eq_if (wpAny_truthy_bool (by rw [hc]; exact h))
theorem tuple_contains_float {t : Addr} {items : Array Value} {ns : List Int} {x : Int} {z : UInt64} {u : Tok} {P : Fin → Shared → Prop} (hz : Rg z 0 x x) (ht : IsTup s.heap t items) (hi : IntsAre items.toList ns)
    (h : P (.done (.ret (.bool (ns.any (· == x))))) s) : wpAny (model prog w) A (Builtin.«tuple.__contains__» ⟨[.ref t, .float z u], []⟩) P E s := by
  show wpAny _ _ (Builtin.Tuple.tupleItemsOf (.ref t) >>= _) _ _ s
  refine wpAny_bind (tupleItemsOf_ ht ?_)
  refine wpAny_bind (forIn_array_ _ (fun rest b s' => b.1 = none ∧ s' = s ∧ ∃ ms, IntsAre rest ms ∧ P (.done (.ret (.bool (ms.any (· == x))))) s) _ ?_ ?_ items _ ⟨rfl, rfl, ns, hi, h⟩)
  · rintro y rest b s' ⟨hb, rfl, ms, hm, hP⟩
    cases hm with
    | cons n tk hm' =>
      refine wpAny_bind (eqBool_if hz ?_)
      rw [List.any_cons] at hP
      cases hnx : (n == x) with
      | true =>
        rw [hnx] at hP
        exact wpAny_bind (wpAny_pure (wpAny_pure (wpAny_pure (by simpa using hP))))
      | false =>
        rw [hnx] at hP
        exact wpAny_pure ⟨rfl, rfl, _, hm', by simpa using hP⟩
  · rintro ⟨b1, b2⟩ s' ⟨hb, rfl, ms, hm, hP⟩
    cases hm
    simp only at hb
    subst hb
    exact wpAny_pure (by simpa using hP)
theorem notin_tuple_float {t : Addr} {items : Array Value} {ns : List Int} {x : Int} {z : UInt64} {u : Tok} {Q : Value → Shared → Prop} (hz : Rg z 0 x x) (ht : IsTup s.heap t items) (hi : IntsAre items.toList ns)
    (h : Q (.bool (!(ns.any (· == x)))) s) : wpAny (model prog w) A (compareOp .NotIn (.float z u) (.ref t)) Q E s := by
  show wpAny _ _ (do return .bool (!(← contains (.ref t) (.float z u)))) Q E s
  refine wpAny_bind ?_
  unfold contains
  refine wpAny_holding ?_
  refine wpAny_bind (wpAny_specialOf ht.typeIs slot_tuple_contains.lookup ?_)
  rw [if_neg (by decide)]
  exact wpAny_bind (wpAny_callSpecialUnlessNone?_slot (name := Str.ofString "__contains__") ht.typeIs slot_tuple_contains
    (wpAny_call_entry slot_tuple_contains ht.typeIs entry_tuple_contains (tuple_contains_float hz ht hi ⟨_, rfl, wpAny_truthy_bool (wpAny_pure h)⟩) (args_tuple_contains _ _)))
end
end
end Mine
namespace Mine
section
open PySem.Spec PySem.Calls PyProof.Rows.LCg PyProof.Rows.LCt
variable {prog : Program} {w : World} {A : Around} {E : Value → Shared → Prop} {s : Shared} {h₀ : Heap} {L : Addr} {m : Str → Option Value} {env : Env}
/-- a tuple that stands at every heap that bears S -/
def TupAt (h₀ : Heap) (L : Addr) (S : List (Addr × Obj) → Prop) (ax : Addr) (its : Array Value) : Prop :=
  ∀ h nw, (∀ b o, h₀.get? b = some o → h.get? b = some o) → News h₀ L h nw → S nw → h.IsTuple ax its
theorem tupiter_st {ax I : Addr} {its : Array Value} {S : List (Addr × Obj) → Prop} (hT : TupAt h₀ L S ax its) : ∀ i (h h' : Heap) (o : Obj) (nw : List (Addr × Obj)), (h.IsTupleIter I ax i ∧ h.IsTuple ax its) → h.get? I = some o → h'.get? I = some o → (∀ b o, h₀.get? b = some o → h'.get? b = some o) → News h₀ L h' nw → S nw → (h'.IsTupleIter I ax i ∧ h'.IsTuple ax its) := by
  intro i h h' o nw st e e' k N hS
  refine ⟨?_, hT _ _ k N hS⟩
  obtain ⟨o', q, r⟩ := st.1
  rw [e] at q
  cases q
  exact ⟨o, e', r⟩
/-- the comprehension's iterable is such a tuple; with a test -/
def SrcTT (prog : Program) (w : World) (A : Around) (h₀ : Heap) (L : Addr) (m : Str → Option Value) (env : Env) (ct elt : Expr) (x : Str) (scope : Scope) (cl : List (Str × Addr)) (Q : Value → Shared → Prop) (xv : Value) (s₁ : Shared) : Prop :=
  ∃ ax its news S, xv = .ref ax ∧ A.handled = none ∧ Fr h₀ L s₁.heap m ∧ News h₀ L s₁.heap news ∧ TupAt h₀ L S ax its ∧ S news ∧ its.size ≤ sizeLine ∧
    ∀ s₂ : Shared, (∃ h, s₂ = { s₁ with heap := h }) → CompRestT prog w A h₀ L m env ct elt x scope cl s₂ S (fun i v => its[i]? = some v) (FinE h₀ L m s₂ Q) its.size 0 [] news
theorem SrcTT.mk' {ct elt : Expr} {x : Str} {scope : Scope} {cl : List (Str × Addr)} {Q : Value → Shared → Prop} {ax : Addr} {its : Array Value} {news : List (Addr × Obj)} {S : List (Addr × Obj) → Prop} {s₁ : Shared} (hT : TupAt h₀ L S ax its) (hS : S news)
    (hh : A.handled = none) (F : Fr h₀ L s₁.heap m) (N : News h₀ L s₁.heap news) (hsz : its.size ≤ sizeLine)
    (h : ∀ g, CompRestT prog w A h₀ L m env ct elt x scope cl { s₁ with heap := g } S (fun i v => its[i]? = some v) (FinE h₀ L m { s₁ with heap := g } Q) its.size 0 [] news) :
    SrcTT prog w A h₀ L m env ct elt x scope cl Q (.ref ax) s₁ := ⟨ax, its, news, S, rfl, hh, F, N, hT, hS, hsz, fun _ ⟨g, e⟩ => e ▸ h g⟩
/-- the same without a test -/
def SrcTU (prog : Program) (w : World) (A : Around) (h₀ : Heap) (L : Addr) (m : Str → Option Value) (env : Env) (elt : Expr) (x : Str) (scope : Scope) (cl : List (Str × Addr)) (Q : Value → Shared → Prop) (xv : Value) (s₁ : Shared) : Prop :=
  ∃ ax its news S, xv = .ref ax ∧ A.handled = none ∧ Fr h₀ L s₁.heap m ∧ News h₀ L s₁.heap news ∧ TupAt h₀ L S ax its ∧ S news ∧ its.size ≤ sizeLine ∧
    ∀ s₂ : Shared, (∃ h, s₂ = { s₁ with heap := h }) → CompRest prog w A h₀ L m env elt x scope cl s₂ S (fun i v => its[i]? = some v) (FinE h₀ L m s₂ Q) its.size 0 [] news
theorem SrcTU.mk' {elt : Expr} {x : Str} {scope : Scope} {cl : List (Str × Addr)} {Q : Value → Shared → Prop} {ax : Addr} {its : Array Value} {news : List (Addr × Obj)} {S : List (Addr × Obj) → Prop} {s₁ : Shared} (hT : TupAt h₀ L S ax its) (hS : S news)
    (hh : A.handled = none) (F : Fr h₀ L s₁.heap m) (N : News h₀ L s₁.heap news) (hsz : its.size ≤ sizeLine)
    (h : ∀ g, CompRest prog w A h₀ L m env elt x scope cl { s₁ with heap := g } S (fun i v => its[i]? = some v) (FinE h₀ L m { s₁ with heap := g } Q) its.size 0 [] news) :
    SrcTU prog w A h₀ L m env elt x scope cl Q (.ref ax) s₁ := ⟨ax, its, news, S, rfl, hh, F, N, hT, hS, hsz, fun _ ⟨g, e⟩ => e ▸ h g⟩
theorem two_below {h : Heap} {o : Obj} {l b : Addr} (hl : l < h.objs.size) (hb : b ∈ [h.objs.size, l]) : b < (h.push o).objs.size := by
  rw [Heap.size_push]
  rcases List.mem_cons.mp hb with rfl | hb
  · exact Nat.lt_succ_self _
  · rw [List.mem_singleton.mp hb]; exact Nat.lt_succ_of_lt hl
theorem ListComp_TT {ct elt iter : Expr} {x : Str} {px : Pos} {scope : Scope} {cl : List (Str × Addr)} {pos : Pos} {Q : Value → Shared → Prop} (_F₀ : Fr h₀ L s.heap m)
    (hclos : closureFor scope env = pure cl) (hcell : ∀ y ∈ scope.names, y.2 ≠ .cell) (hkind : scope.kind = .function)
    (hnames : ∀ y ∈ scope.names, y.2 = .local → scope.names.lookup y.1 = some .local) (hx : scope.names.lookup x = some .local)
    (h : wpAny (model prog w) A (eval iter env) (SrcTT prog w A h₀ L m env ct elt x scope cl Q) E s)
    (hs : ∀ x, foldedSetIterable iter env x = pure x := by intro _; rfl) :
    wpAny (model prog w) A (eval (.ListComp elt [⟨.Name x px, iter, [ct], 0⟩] scope pos) env) Q E s := by
  rw [eval_ListComp]
  refine wpAny_comprehension_free (use := none) rfl hs hclos hkind hnames (wpAny_mono h (fun xv s₁ h₁ => ?_) fun _ _ e => e)
  obtain ⟨ax, its, news, S, rfl, hh, F, N, hT, hS, hsz, R⟩ := h₁
  have hl := hT _ _ F.keep N hS
  have hlt : ax < s₁.heap.objs.size := by obtain ⟨_, e, _⟩ := hl; exact Heap.lt_size e
  refine wpAny_pyIter_tuple hl ?_
  have up : ∀ b o, s₁.heap.get? b = some o → (s₁.heap.push { cls := .type "tuple_iterator", data := .fields #[.ref ax, .int 0 0] }).get? b = some o := fun b o e => Heap.get?_push_of_some _ e
  refine block_T (Walks.tuple hh s₁.heap.objs.size ax (Nat.ne_of_lt hlt) its) hsz (fun i h st => by obtain ⟨o, e, _⟩ := st.1; exact ⟨o, e⟩) (tupiter_st hT) hcell hkind hx ⟨⟨_, Heap.get?_push_size _ rfl, rfl, rfl⟩, hl.at fun o e => up _ o e⟩ (fun b hb => two_below hlt hb)
    (F.keeps up) (N.grown up) (Nat.ne_of_lt F.ns.lt) (next_is_new F) (fun p hp => Nat.ne_of_lt (Heap.lt_size (N p hp).1)) hS (R _ ⟨_, rfl⟩) ?_
  intro D C h tk m' ys news' F' N' o1 hn hC₀ hD₀ hCL hDL hCD offC fin
  refine ⟨m', hn, fun h'' hs'' => fin D h'' tk (F'.change hs'' hCL hC₀) (fun p hp => ?_) o1⟩
  refine ⟨hs''.extBut _ _ ?_ (N' p hp).1, (N' p hp).2⟩
  rcases List.mem_cons.mp hp with rfl | hp
  · exact Ne.symm hCD
  · exact offC p hp
theorem ListComp_TU {elt iter : Expr} {x : Str} {px : Pos} {scope : Scope} {cl : List (Str × Addr)} {pos : Pos} {Q : Value → Shared → Prop} (_F₀ : Fr h₀ L s.heap m)
    (hclos : closureFor scope env = pure cl) (hcell : ∀ y ∈ scope.names, y.2 ≠ .cell) (hkind : scope.kind = .function)
    (hnames : ∀ y ∈ scope.names, y.2 = .local → scope.names.lookup y.1 = some .local) (hx : scope.names.lookup x = some .local)
    (h : wpAny (model prog w) A (eval iter env) (SrcTU prog w A h₀ L m env elt x scope cl Q) E s)
    (hs : ∀ x, foldedSetIterable iter env x = pure x := by intro _; rfl) :
    wpAny (model prog w) A (eval (.ListComp elt [⟨.Name x px, iter, [], 0⟩] scope pos) env) Q E s := by
  rw [eval_ListComp]
  refine wpAny_comprehension_free (use := none) rfl hs hclos hkind hnames (wpAny_mono h (fun xv s₁ h₁ => ?_) fun _ _ e => e)
  obtain ⟨ax, its, news, S, rfl, hh, F, N, hT, hS, hsz, R⟩ := h₁
  have hl := hT _ _ F.keep N hS
  have hlt : ax < s₁.heap.objs.size := by obtain ⟨_, e, _⟩ := hl; exact Heap.lt_size e
  refine wpAny_pyIter_tuple hl ?_
  have up : ∀ b o, s₁.heap.get? b = some o → (s₁.heap.push { cls := .type "tuple_iterator", data := .fields #[.ref ax, .int 0 0] }).get? b = some o := fun b o e => Heap.get?_push_of_some _ e
  refine block_U (Walks.tuple hh s₁.heap.objs.size ax (Nat.ne_of_lt hlt) its) hsz (fun i h st => by obtain ⟨o, e, _⟩ := st.1; exact ⟨o, e⟩) (tupiter_st hT) hcell hkind hx ⟨⟨_, Heap.get?_push_size _ rfl, rfl, rfl⟩, hl.at fun o e => up _ o e⟩ (fun b hb => two_below hlt hb)
    (F.keeps up) (N.grown up) (Nat.ne_of_lt F.ns.lt) (next_is_new F) (fun p hp => Nat.ne_of_lt (Heap.lt_size (N p hp).1)) hS (R _ ⟨_, rfl⟩) ?_
  intro D C h tk m' ys news' F' N' o1 hn hC₀ hD₀ hCL hDL hCD offC fin
  refine ⟨m', hn, fun h'' hs'' => fin D h'' tk (F'.change hs'' hCL hC₀) (fun p hp => ?_) o1⟩
  refine ⟨hs''.extBut _ _ ?_ (N' p hp).1, (N' p hp).2⟩
  rcases List.mem_cons.mp hp with rfl | hp
  · exact Ne.symm hCD
  · exact offC p hp
theorem tupAt_mem {D : Addr} {vs : Array Value} {c : Nat} : TupAt h₀ L (fun nw => (D, ({ cls := .type "tuple", data := .seq vs c } : Obj)) ∈ nw) D vs := by
  intro h nw _ N hS
  exact ⟨_, (N _ hS).1, rfl, _, rfl⟩
theorem tupAt_base {D : Addr} {vs : Array Value} (hb : h₀.IsTuple D vs) : TupAt h₀ L (fun _ => True) D vs := by
  intro h nw k _ _
  exact hb.at fun o e => k D o e
end
end Mine
namespace Mine
section
open PySem.Spec PySem.Calls
variable {prog : Program} {w : World} {A : Around} {E : Value → Shared → Prop} {s : Shared} {h₀ : Heap} {env : Env} {target : Expr} {body : List Stmt} {Q : Flow → Shared → Prop}
/-- a loop over a tuple that stood ahead of the call: what holds between the turns is P -/
theorem base_turns {ax : Addr} {vs : List Value} {m₀ : Str → Option Value} {news : List (Addr × Obj)} (P : (Str → Option Value) → List (Addr × Obj) → Prop)
    (hh : A.handled = none) (hb : h₀.IsTuple ax vs.toArray) (F : Fr h₀ env.locals s.heap m₀) (N : News h₀ env.locals s.heap news) (h0 : P m₀ news)
    (turn : ∀ v, v ∈ vs → ∀ m₁ news₁ I oI h tk (Q' : Flow → Shared → Prop), P m₁ news₁ → (∀ p ∈ news₁, p.1 ≠ I) → Fr h₀ env.locals h m₁ → News h₀ env.locals h ((I, oI) :: news₁) →
      (∀ h' tk' m' news', Fr h₀ env.locals h' m' → News h₀ env.locals h' ((I, oI) :: news') → (∀ p ∈ news', p.1 ≠ I) → P m' news' → Q' .next { s with heap := h', toks := tk' }) →
      wpAny (model prog w) A (assign target env v) (fun _ s₂ => wpAny (model prog w) A (execs body env) Q' E s₂) E { s with heap := h, toks := tk })
    (done : ∀ h tk m' news', Fr h₀ env.locals h m' → News h₀ env.locals h news' → P m' news' → Q .next { s with heap := h, toks := tk }) :
    wpAny (model prog w) A (pyIter (.ref ax)) (fun it s₂ => TurnsAt prog w A h₀ env target body Q E it s₂) E s := by
  obtain ⟨ob, hob, hbc, nb, hbd⟩ := id hb
  have hl : s.heap.IsTuple ax vs.toArray := hb.at fun o e => F.keep ax o e
  have hlt : ax < s.heap.objs.size := Heap.lt_size (F.keep ax ob hob)
  have hlt₀ : ax < h₀.objs.size := Heap.lt_size hob
  have hne : ax ≠ s.heap.objs.size := Nat.ne_of_lt hlt
  refine wpAny_pyIter_tuple hl ?_
  refine ⟨s.heap.objs.size, [s.heap.objs.size, ax], [s.heap.objs.size], vs.toArray.size, _, _, _, m₀, news, fun _ m₁ news₁ => P m₁ news₁, rfl, KTurns.ofWalks (Walks.tuple hh s.heap.objs.size ax hne vs.toArray) (fun i v s Q E st q => letGo_tupleiter st.1 q), ?_, ?_, ?_, ?_, F.push _, fun p hp => ⟨Heap.get?_push_of_some _ (N p hp).1, (N p hp).2⟩, h0, ?_, ?_⟩
  · intro hm
    rcases List.mem_cons.mp hm with e | hm
    · exact absurd F.ns.lt (e ▸ Nat.lt_irrefl _)
    · exact absurd (Nat.lt_of_lt_of_le hlt₀ F.above) ((List.mem_singleton.mp hm) ▸ Nat.lt_irrefl _)
  · intro b hb'
    rw [List.mem_singleton.mp hb']
    exact next_is_new F
  · intro p hp hI
    exact absurd (Heap.lt_size (N p hp).1) ((List.mem_singleton.mp hI) ▸ Nat.lt_irrefl _)
  · exact ⟨⟨_, Heap.get?_push_size _ rfl, rfl, rfl⟩, hl.at fun o e => Heap.get?_push_of_some _ e⟩
  · intro i v m₁ news₁ h₁ tk₁ own hin hPi hJ hoff hown hget hall st F₁ N₁
    obtain ⟨oI, hoI, _⟩ := id st.1
    have hI₀ : h₀.get? s.heap.objs.size = none := next_is_new F
    have hmI := hall _ (.head _) hI₀ oI hoI
    have hone : ∀ p ∈ own, p = (s.heap.objs.size, oI) := by
      rintro ⟨pa, po⟩ hp
      have e1 : h₁.get? pa = some po := hget _ hp
      rcases List.mem_cons.mp (hown _ hp) with e | e
      · have e' : pa = s.heap.objs.size := e
        subst e'
        rw [hoI] at e1
        rw [Option.some.inj e1]
      · have e' : pa = ax := List.mem_singleton.mp e
        have := (N₁ _ (List.mem_append_left _ hp)).2.2
        rw [show (pa, po).1 = ax from e', hob] at this
        cases this
    have hmem : v ∈ vs := by
      have hP' : vs.toArray[i]? = some v := hPi
      have hP2 : vs[i]? = some v := by simpa using hP'
      exact List.mem_of_getElem? hP2
    refine turn v hmem m₁ news₁ s.heap.objs.size oI h₁ tk₁ _ hJ (fun p hp e => hoff p hp (by rw [e]; exact List.mem_singleton.mpr rfl)) F₁ (fun p hp => ?_) (fun h' tk' m' news' F' N' ha hP' => ?_)
    · rcases List.mem_cons.mp hp with rfl | hp
      · exact N₁ _ (List.mem_append_left _ hmI)
      · exact N₁ _ (List.mem_append_right _ hp)
    · refine LoopStepV.next (LoopStepU.intro F' (fun p hp => ?_) (fun p hp e => ha p hp (List.mem_singleton.mp e)) hP')
      rcases List.mem_append.mp hp with hp | hp
      · rw [hone p hp]
        exact N' _ (.head _)
      · exact N' _ (.tail _ hp)
  · intro h' tk m' news' F' N' _ hP'
    exact done h' tk m' news' F' N' hP'
end
end Mine
namespace Mine
set_option maxRecDepth 100000 in
set_option maxHeartbeats 8000000 in
open_top hd for PySem.Challenge.rw_ad5017_02
/-- the call of a def of this text's, from any frame of this text's -/
abbrev CG (w : World) (f : Addr) (d : Nat) (news : List (Addr × Obj)) (vs : List Value) (Ret : Heap → Addr → (Str → Option Value) → Shared → (Value → Shared → Prop) → Prop) : Prop :=
  ∀ (loose : List Str) (mean : ExcName → Option Value) (mg mb : Str → Option Value) (dp un : Nat) (gd : Option (List Code)) (cn : Str) (cs : Scope) (a : Addr) (ccd : Value) (cl : List (Str × Addr)) (outer : List Env) (A₀ : Around) (base h₀ : Heap) (L : Addr) (m : Str → Option Value) (s : Shared) (Q E : Value → Shared → Prop),
    Below A₀ base outer h₀ → Fr h₀ L s.heap m → (hd.heap_39 w.params).In h₀ → News h₀ L s.heap news → Top hd.view_39 loose mean mg mb h₀ → cs.kind = .function → dp + d < recursionLimit → un + 8 * d < cLine →
    Ret h₀ L m s Q →
    wpAny (model PySem.Challenge.rw_ad5017_02.row.prog w) (ktrTop dp un gd cn cs L a ccd cl outer) (call (.ref f) vs) Q E s
abbrev retB (news : List (Addr × Obj)) (b : Bool) (h₀ : Heap) (L : Addr) (m : Str → Option Value) (s : Shared) (Q : Value → Shared → Prop) : Prop :=
  ∀ (h' : Heap) (tk' : Nat), Fr h₀ L h' m → News h₀ L h' news → Q (.bool b) { s with heap := h', toks := tk' }
abbrev retI (news : List (Addr × Obj)) (n : Int) (h₀ : Heap) (L : Addr) (m : Str → Option Value) (s : Shared) (Q : Value → Shared → Prop) : Prop :=
  ∀ (t : Tok) (h' : Heap) (tk' : Nat), Fr h₀ L h' m → News h₀ L h' news → Q (.int n t) { s with heap := h', toks := tk' }
/-- a float that is just n / 2 -/
abbrev retF (news : List (Addr × Obj)) (n : Int) (h₀ : Heap) (L : Addr) (m : Str → Option Value) (s : Shared) (Q : Value → Shared → Prop) : Prop :=
  ∀ (z : UInt64), Rg z 1 n n → ∀ (t : Tok) (h' : Heap) (tk' : Nat), Fr h₀ L h' m → News h₀ L h' news → Q (.float z t) { s with heap := h', toks := tk' }
abbrev tup3 (y m d : Int) (t1 t2 t3 : Tok) (c : Nat) : Obj := { cls := .type "tuple", data := .seq #[.int y t1, .int m t2, .int d t3] c }
/-- a new tuple of three ints of which P is so -/
abbrev retT (news : List (Addr × Obj)) (P : Int → Int → Int → Prop) (h₀ : Heap) (L : Addr) (m : Str → Option Value) (s : Shared) (Q : Value → Shared → Prop) : Prop :=
  ∀ (y mo d : Int), P y mo d → ∀ (D : Addr) (t1 t2 t3 : Tok) (c : Nat) (h' : Heap) (tk' : Nat), Fr h₀ L h' m → News h₀ L h' ((D, tup3 y mo d t1 t2 t3 c) :: news) → AllLt D news → Q (.ref D) { s with heap := h', toks := tk' }

section
variable {h₀ h' : Heap} {L : Addr} {m : Str → Option Value} {news news' : List (Addr × Obj)} {s : Shared} {Q : Value → Shared → Prop} {tk' : Nat}
theorem endB {b y : Bool} (hret : retB news b h₀ L m s Q) (e : y = b) (F : Fr h₀ L h' m) (N : News h₀ L h' news') (hs : ∀ p ∈ news, p ∈ news') : Q (.bool y) { s with heap := h', toks := tk' } := by
  subst e; exact hret _ _ F (fun p hp => N p (hs p hp))
theorem endI {n k : Int} {t : Tok} (hret : retI news n h₀ L m s Q) (e : k = n) (F : Fr h₀ L h' m) (N : News h₀ L h' news') (hs : ∀ p ∈ news, p ∈ news') : Q (.int k t) { s with heap := h', toks := tk' } := by
  subst e; exact hret _ _ _ F (fun p hp => N p (hs p hp))
theorem endF {n k : Int} {z : UInt64} {t : Tok} (hret : retF news n h₀ L m s Q) (hz : Rg z 1 k k) (e : k = n) (F : Fr h₀ L h' m) (N : News h₀ L h' news') (hs : ∀ p ∈ news, p ∈ news') : Q (.float z t) { s with heap := h', toks := tk' } := by
  subst e; exact hret _ hz _ _ _ F (fun p hp => N p (hs p hp))
theorem endT {P : Int → Int → Int → Prop} {y mo d : Int} {t1 t2 t3 : Tok} {c : Nat} {D : Addr} (hret : retT news P h₀ L m s Q) (e : P y mo d) (F : Fr h₀ L h' m) (N : News h₀ L h' ((D, tup3 y mo d t1 t2 t3 c) :: news')) (hl : AllLt D news) (hs : ∀ p ∈ news, p ∈ news') : Q (.ref D) { s with heap := h', toks := tk' } := by
  refine hret y mo d e D t1 t2 t3 c h' tk' F (fun p hp => ?_) hl
  rcases List.mem_cons.mp hp with rfl | hp
  · exact N _ (.head _)
  · exact N p (.tail _ (hs p hp))
end
local macro_rules | `(tactic| walk_at "binaryOp Mod int int") => `(tactic| (k_dflt (refine' w_mod_ii ?k1 ?_; (case k1 => omega)); (try dsimp only)))
local macro_rules | `(tactic| walk_at "binaryOp FloorDiv int int") => `(tactic| (k_dflt (refine' w_fdiv_ii ?k1 ?k2 ?_; (case k1 => omega); (case k2 => omega)); (try dsimp only)))
local macro_rules | `(tactic| walk_at "binaryOp Div int int") => `(tactic| (k_dflt (refine' w_div_ii rfl ?k1 ?k2 ?_; (case k1 => omega); (case k2 => omega)); intro z' hz'; (try dsimp only)))
local macro_rules | `(tactic| walk_at "binaryOp Div float int") => `(tactic| (k_dflt (refine' w_div_fi ?k0 rfl ?k1 ?k2 ?_; (case k0 => assumption); (case k1 => omega); (case k2 => omega)); intro z' hz'; (try dsimp only)))
local macro_rules | `(tactic| walk_at "binaryOp Mod float int") => `(tactic| (k_dflt (refine' w_mod_fi ?k0 rfl ?k1 ?k2 ?_; (case k0 => assumption); (case k1 => omega); (case k2 => omega)); intro z' r' hr' hz'; (try dsimp only)))
local macro_rules | `(tactic| walk_at "binaryOp Add float int") => `(tactic| (k_dflt (first | (refine' w_add_fi1 ?k0 ?k1 ?k2 ?_; (case k0 => first | assumption | exact l_epoch); (case k1 => omega); (case k2 => omega)) | (refine' w_add_fi0 ?k0 ?k1 ?k2 ?_; (case k0 => assumption); (case k1 => omega); (case k2 => omega)) | (refine' w_add_fi_fl ?k0 ?k1 ?k2 ?_; (case k0 => assumption); (case k1 => omega); (case k2 => omega)) | (refine' w_add_fi_qt ?k0 ?k1 ?k2 ?k3 ?k4 ?k5 ?_; (case k0 => assumption); (case k1 => omega); (case k2 => omega); (case k3 => omega); (case k4 => omega); (case k5 => omega))); intro z' hz'; (try dsimp only)))
local macro_rules | `(tactic| walk_at "binaryOp Add int float") => `(tactic| (k_dflt (refine' w_add_if1 ?k0 ?k1 ?k2 ?_; (case k0 => first | assumption | exact l_half); (case k1 => omega); (case k2 => omega)); intro z' hz'; (try dsimp only)))
local macro_rules | `(tactic| walk_at "binaryOp Sub float int") => `(tactic| (k_dflt (refine' w_sub_fi1 ?k0 ?k1 ?k2 ?_; (case k0 => first | assumption | exact l_epoch); (case k1 => omega); (case k2 => omega)); intro z' hz'; (try dsimp only)))
local macro_rules | `(tactic| walk_at "binaryOp Sub int float") => `(tactic| (k_dflt (first | (refine' w_sub_122 ?kc ?k1 ?_; (case kc => with_reducible rfl); (case k1 => omega)) | (refine' w_sub_if1 ?k0 ?k1 ?k2 ?_; (case k0 => first | assumption | exact l_1524); (case k1 => omega); (case k2 => omega))); intro z' hz'; (try dsimp only)))
local macro_rules | `(tactic| walk_at "binaryOp Add float float") => `(tactic| (k_dflt (refine' w_add_ff ?k0 ?k1 ?k2 ?k3 ?k4 ?_; (case k0 => assumption); (case k1 => first | assumption | exact l_half); (case k2 => omega); (case k3 => omega); (case k4 => omega)); intro z' r' hr' hz'; (try dsimp only)))
local macro_rules | `(tactic| walk_at "inplaceOp Add float float") => `(tactic| (k_dflt (refine' w_iadd_ff ?k0 ?k1 ?k2 ?k3 ?k4 ?_; (case k0 => assumption); (case k1 => first | assumption | exact l_half); (case k2 => omega); (case k3 => omega); (case k4 => omega)); intro z' r' hr' hz'; (try dsimp only)))
local macro_rules | `(tactic| walk_at "binaryOp Sub float float") => `(tactic| (k_dflt (refine' w_sub_ff ?k0 ?k1 ?k2 ?k3 ?k4 ?_; (case k0 => assumption); (case k1 => first | assumption | exact l_half | exact l_epoch); (case k2 => omega); (case k3 => omega); (case k4 => omega)); intro z' r' hr' hz'; (try dsimp only)))
local macro_rules | `(tactic| walk_at "binaryOp Mult float int") => `(tactic| (k_dflt (first | (refine' w_mul_365 ?kc ?k1 ?_; (case kc => with_reducible rfl); (case k1 => omega)) | (refine' w_mul_306 ?kc ?k1 ?k2 ?_; (case kc => with_reducible rfl); (case k1 => omega); (case k2 => omega)) | (refine' w_mul_fi0 ?k0 ?k1 ?k2 ?_; (case k0 => assumption); (case k1 => omega); (case k2 => omega))); intro z' hz'; (try dsimp only)))
local macro_rules | `(tactic| walk_at "binaryOp Mult int float") => `(tactic| (k_dflt (refine' w_mul_2f ?kc ?k0 ?k1 ?_; (case kc => with_reducible rfl); (case k0 => assumption); (case k1 => omega)); intro z' hz'; (try dsimp only)))
local macro_rules | `(tactic| walk_at "binaryOp Div int float") => `(tactic| (k_dflt (refine' w_div_306 ?kc rfl ?k1 ?k2 ?_; (case kc => with_reducible rfl); (case k1 => omega); (case k2 => omega)); intro z' hz'; (try dsimp only)))
local macro_rules | `(tactic| walk_at "binaryOp Div float float") => `(tactic| (k_dflt (refine' w_div_365 ?kc ?k0 rfl ?k1 ?_; (case kc => with_reducible rfl); (case k0 => assumption); (case k1 => omega)); intro z' hz'; (try dsimp only)))
local macro_rules | `(tactic| walk_at "call builtin:math.floor") => `(tactic| ((with_reducible show wpAny _ _ (call _ [Value.float _ _]) _ _ _); k_dflt (first | (refine' w_floor_qt ?k0 rfl ?k1 ?k2 ?k3 ?_; (case k0 => assumption); (case k1 => omega); (case k2 => omega); (case k3 => omega); intro r' hr') | (refine' w_floor_fl ?k0 rfl ?_; (case k0 => assumption)) | (refine' w_floor_0 ?k0 rfl ?_; (case k0 => assumption)) | (refine' w_floor_2 ?k0 rfl ?_; (case k0 => assumption); intro r' hr')); (try dsimp only)))
local macro_rules | `(tactic| walk_at "call builtin:math.trunc") => `(tactic| ((with_reducible show wpAny _ _ (call _ [Value.float _ _]) _ _ _); k_dflt (first | (refine' w_trunc_qt ?k0 rfl ?k1 ?k2 ?k3 ?k4 ?_; (case k0 => assumption); (case k1 => decide); (case k2 => omega); (case k3 => omega); (case k4 => omega); intro r' hr') | (refine' w_trunc_0 ?k0 rfl ?_; (case k0 => assumption)) | (refine' w_trunc_qtm ?k0 rfl ?k1 ?k2 ?k3 ?k4 ?_; (case k0 => assumption); (case k1 => decide); (case k2 => omega); (case k3 => omega); (case k4 => omega); intro r' hr') | (refine' w_trunc_var ?k0 rfl ?k1 ?k2 ?k3 ?k4 ?_; (case k0 => assumption); (case k1 => omega); (case k2 => omega); (case k3 => omega); (case k4 => omega); intro r' hr' hra' hrb' hrc' hrd'; clear hr')); (try dsimp only)))
local macro_rules | `(tactic| walk_at "call type:int") => `(tactic| ((with_reducible show wpAny _ _ (call _ [Value.float _ _]) _ _ _); k_dflt (refine' w_int_0 ?k0 rfl ?_; (case k0 => assumption)); (try dsimp only)))
local macro_rules | `(tactic| walk_at "compareOp Lt float int") => `(tactic| (k_dflt (refine' w_lt_fi ?k0 ?_; (case k0 => assumption)); (try dsimp only)))
local macro_rules | `(tactic| walk_at "compareOp Eq float int") => `(tactic| (k_dflt (refine' w_eq_fi ?k0 ?_; (case k0 => assumption)); (try dsimp only)))
/-- no way leads to a raise here -/
local macro_rules | `(tactic| walk_at "exec Raise some none") => `(tactic| (exfalso; omega))
local macro_rules | `(tactic| walk_at "ite") => `(tactic| (k_here; first
  | (refine ite_pos (by first | with_reducible assumption | ((try simp only [decide_eq_true_eq, decide_eq_false_iff_not, Bool.and_eq_true, Bool.or_eq_true, Bool.not_eq_true', Bool.not_eq_true, beq_iff_eq, bne_iff_ne, ne_eq, List.any_cons, List.any_nil, Bool.or_false, Bool.not_eq_eq_eq_not, Bool.not_true, Bool.not_false, beq_eq_false_iff_ne, Bool.or_eq_false_iff, reduceIte, Bool.false_eq_true, if_true, if_false]); first | done | (law_purse 20000 => omega))) ?_; walk_say "WAY 1")
  | (refine ite_neg (by first | with_reducible assumption | ((try simp only [decide_eq_true_eq, decide_eq_false_iff_not, Bool.and_eq_true, Bool.or_eq_true, Bool.not_eq_true', Bool.not_eq_true, beq_iff_eq, bne_iff_ne, ne_eq, List.any_cons, List.any_nil, Bool.or_false, Bool.not_eq_eq_eq_not, Bool.not_true, Bool.not_false, beq_eq_false_iff_ne, Bool.or_eq_false_iff, reduceIte, Bool.false_eq_true, if_true, if_false]); first | done | (law_purse 20000 => omega))) ?_; walk_say "WAY 2")))
local macro_rules | `(tactic| walk_at "compareOp In int ref") => `(tactic| (k_here; k_dflt (refine' in_tuple_ints (tupK (Frag.In.keeps ?X (Fr.keep ?F)) ?l) ?i ?_; (case F => k_asm); (case X => k_asm); (case l => k_is); (case i => first | exact IntsAre.cons _ _ (IntsAre.cons _ _ (IntsAre.cons _ _ (IntsAre.cons _ _ IntsAre.nil))))); (try dsimp only)))
local macro_rules | `(tactic| walk_at "exec If") => `(tactic| refine wpAny_If ?_)
local macro_rules | `(tactic| walk_at "eval Call") => `(tactic| ((with_reducible show wpAny _ _ (eval (Expr.Call (Expr.Name _ _) _ [] _) _) _ _ _); refine Call_ ?_))
local macro_rules | `(tactic| walk_at "binaryOp Add int bool") => `(tactic| (first | with_reducible refine w_add_it ?_ | with_reducible refine w_add_if ?_))
section
set_option maxRecDepth 100000 in
set_option maxHeartbeats 8000000 in
theorem c_isleap (w : World) (news : List (Addr × Obj)) (y : Int) (t : Tok) : CG w 50 1 news [.int y t] (retB news (leapB y)) := by
  unfold CG; w_top off; k_fill
  intro loose mean mg mb dp un gd cn cs a ccd cl outer A₀ base h₀ L m s Q E B F X N T hk hd hu hret
  refine wpAny_call ?_
  k_dflt cell_enter
  k_steps
  all_goals (refine endB hret ?_ (by k_asm) (by k_asm) (fun _ h => h))
  all_goals f_lean
  all_goals (rw [Bool.eq_iff_iff]; simp only [leapB, beq_iff_eq, bne_iff_ne, decide_eq_true_eq, ne_eq]; omega)
local macro_rules | `(tactic| walk_at "call ref") => `(tactic| (k_here; k_dflt (refine' (c_isleap _ _ _ _) _ _ _ _ _ _ _ _ _ _ _ _ _ _ _ _ _ _ _ _ _ ?k1 ?k2 ?k3 ?k4 ?k5 ?k6 ?k7 ?k8 ?_; (case k1 => k_asm); (case k2 => k_asm); (case k3 => k_asm); (case k4 => k_asm); (case k5 => k_asm); (case k6 => first | exact rfl | assumption); (case k7 => ktr_room); (case k8 => ktr_units)); intro h9 tk9 F9 N9; (try (with_reducible rename leapB _ = _ => hL9; rw [hL9])); (try dsimp only); (try k_fold)))
set_option maxRecDepth 100000 in
set_option maxHeartbeats 800000 in
theorem c_legal_a (w : World) (news : List (Addr × Obj)) (y d : Int) (t1 t2 t3 : Tok) (hL : leapB y = true) (hl : 0 < d ∧ d ≤ 29) : CG w 57 2 news [.int y t1, .int 2 t2, .int d t3] (retB news true) := by
  unfold CG; w_top off; k_fill
  intro loose mean mg mb dp un gd cn cs a ccd cl outer A₀ base h₀ L m s Q E B F X N T hk hd hu hret
  refine wpAny_call ?_
  k_dflt cell_enter
  k_steps
  all_goals (exact endB hret rfl (by k_asm) (by k_asm) (fun _ h => h))
set_option maxRecDepth 100000 in
set_option maxHeartbeats 800000 in
theorem c_legal_b (w : World) (news : List (Addr × Obj)) (y d : Int) (t1 t2 t3 : Tok) (hL : leapB y = false) (hl : 0 < d ∧ d ≤ 28) : CG w 57 2 news [.int y t1, .int 2 t2, .int d t3] (retB news true) := by
  unfold CG; w_top off; k_fill
  intro loose mean mg mb dp un gd cn cs a ccd cl outer A₀ base h₀ L m s Q E B F X N T hk hd hu hret
  refine wpAny_call ?_
  k_dflt cell_enter
  k_steps
  all_goals (exact endB hret rfl (by k_asm) (by k_asm) (fun _ h => h))
set_option maxRecDepth 100000 in
set_option maxHeartbeats 800000 in
theorem c_legal_c (w : World) (news : List (Addr × Obj)) (y m d : Int) (t1 t2 t3 : Tok) (hm : m ≠ 2) (hl : 0 < d ∧ d ≤ 30) : CG w 57 2 news [.int y t1, .int m t2, .int d t3] (retB news true) := by
  unfold CG; w_top off; k_fill
  intro loose mean mg mb dp un gd cn cs a ccd cl outer A₀ base h₀ L m s Q E B F X N T hk hd hu hret
  refine wpAny_call ?_
  k_dflt cell_enter
  k_steps
  all_goals (exact endB hret rfl (by k_asm) (by k_asm) (fun _ h => h))
set_option maxRecDepth 100000 in
set_option maxHeartbeats 800000 in
theorem c_legal_d (w : World) (news : List (Addr × Obj)) (y m d : Int) (t1 t2 t3 : Tok) (hm : m ≠ 2 ∧ m ≠ 4 ∧ m ≠ 6 ∧ m ≠ 9 ∧ m ≠ 11) (hl : 0 < d ∧ d ≤ 31) : CG w 57 2 news [.int y t1, .int m t2, .int d t3] (retB news true) := by
  unfold CG; w_top off; k_fill
  intro loose mean mg mb dp un gd cn cs a ccd cl outer A₀ base h₀ L m s Q E B F X N T hk hd hu hret
  refine wpAny_call ?_
  k_dflt cell_enter
  k_steps
  all_goals (exact endB hret rfl (by k_asm) (by k_asm) (fun _ h => h))
theorem c_legal (w : World) (news : List (Addr × Obj)) (y m d : Int) (t1 t2 t3 : Tok) (hl : 0 < d ∧ d ≤ mlen y m) : CG w 57 2 news [.int y t1, .int m t2, .int d t3] (retB news true) := by
  unfold mlen at hl
  by_cases h2 : m = 2
  · subst h2
    rw [if_pos rfl] at hl
    cases hL : leapB y
    · exact c_legal_b w news y d t1 t2 t3 hL (by rw [hL] at hl; exact hl)
    · exact c_legal_a w news y d t1 t2 t3 hL (by rw [hL] at hl; exact hl)
  · rw [if_neg h2] at hl
    by_cases h4 : m = 4 ∨ m = 6 ∨ m = 9 ∨ m = 11
    · rw [if_pos h4] at hl
      exact c_legal_c w news y m d t1 t2 t3 h2 hl
    · rw [if_neg h4] at hl
      exact c_legal_d w news y m d t1 t2 t3 (by omega) hl
local macro_rules | `(tactic| walk_at "call ref") => `(tactic| (k_here; k_dflt (refine' (c_legal _ _ _ _ _ _ _ _ ?k0) _ _ _ _ _ _ _ _ _ _ _ _ _ _ _ _ _ _ _ _ _ ?k1 ?k2 ?k3 ?k4 ?k5 ?k6 ?k7 ?k8 ?_; (case k0 => assumption); (case k1 => k_asm); (case k2 => k_asm); (case k3 => k_asm); (case k4 => k_asm); (case k5 => k_asm); (case k6 => first | exact rfl | assumption); (case k7 => ktr_room); (case k8 => ktr_units)); intro h9 tk9 F9 N9; (try dsimp only); (try k_fold)))
set_option maxRecDepth 100000 in
set_option maxHeartbeats 800000 in
theorem c_to_jd (w : World) (news : List (Addr × Obj)) (y m d : Int) (t1 t2 t3 : Tok) (hy : y.natAbs ≤ 2 ^ 32) (hm : 1 ≤ m ∧ m ≤ 12) (hl : 0 < d ∧ d ≤ mlen y m) : CG w 64 3 news [.int y t1, .int m t2, .int d t3] (retF news (2 * gdn y m d - 1)) := by
  have hd31 : d ≤ 31 := by
    have := hl.2
    unfold mlen at this
    split at this
    · split at this <;> omega
    · split at this <;> omega
  unfold CG; w_top off; k_fill
  intro loose mean mg mb dp un gd cn cs a ccd cl outer A₀ base h₀ L m s Q E B F X N T hk hd hu hret
  refine wpAny_call ?_
  k_dflt cell_enter
  k_steps
  all_goals (refine endF hret (by assumption) ?_ (by k_asm) (by k_asm) (fun _ h => h))
  all_goals f_lean
  all_goals (unfold gdn; (repeat' split) <;> first | omega | (exfalso; simp_all; done))
/-- the same, with a bound -/
abbrev retG (news : List (Addr × Obj)) (y m d : Int) (h₀ : Heap) (L : Addr) (mf : Str → Option Value) (s : Shared) (Q : Value → Shared → Prop) : Prop :=
  ∀ (z : UInt64), Rg z 1 (2 * gdn y m d - 1) (2 * gdn y m d - 1) → (gdn y m d).natAbs ≤ 2 ^ 42 → ∀ (t : Tok) (h' : Heap) (tk' : Nat), Fr h₀ L h' mf → News h₀ L h' news → Q (.float z t) { s with heap := h', toks := tk' }
theorem c_to_jd_b (w : World) (news : List (Addr × Obj)) (y m d : Int) (t1 t2 t3 : Tok) (hy : y.natAbs ≤ 2 ^ 32) (hm : 1 ≤ m ∧ m ≤ 12) (hl : 0 < d ∧ d ≤ mlen y m) : CG w 64 3 news [.int y t1, .int m t2, .int d t3] (retG news y m d) := by
  intro loose mean mg mb dp un gd cn cs a ccd cl outer A₀ base h₀ L mf s Q E B F X N T hk hd hu hret
  exact c_to_jd w news y m d t1 t2 t3 hy hm hl loose mean mg mb dp un gd cn cs a ccd cl outer A₀ base h₀ L mf s Q E B F X N T hk hd hu (fun z hz t h' tk' F N => hret z hz (gdn_bound hy hm hl) t h' tk' F N)
end
section
local macro_rules | `(tactic| walk_at "none of mine") => `(tactic| skip)
local macro_rules | `(tactic| walk_at "none of mine") => `(tactic| skip)
local macro_rules | `(tactic| walk_at "none of mine") => `(tactic| skip)
local macro_rules | `(tactic| walk_at "call ref") => `(tactic| (k_here; k_dflt (refine' (c_isleap _ _ _ _) _ _ _ _ _ _ _ _ _ _ _ _ _ _ _ _ _ _ _ _ _ ?k1 ?k2 ?k3 ?k4 ?k5 ?k6 ?k7 ?k8 ?_; (case k1 => k_asm); (case k2 => k_asm); (case k3 => k_asm); (case k4 => k_asm); (case k5 => k_asm); (case k6 => first | exact rfl | assumption); (case k7 => ktr_room); (case k8 => ktr_units)); intro h9 tk9 F9 N9; (try (with_reducible rename leapB _ = _ => hL9; rw [hL9])); (try dsimp only); (try k_fold)))
local macro_rules | `(tactic| walk_at "call ref") => `(tactic| (k_here; k_dflt (refine' (c_to_jd_b _ _ _ _ _ _ _ _ ?k0 ?ka ?kb) _ _ _ _ _ _ _ _ _ _ _ _ _ _ _ _ _ _ _ _ _ ?k1 ?k2 ?k3 ?k4 ?k5 ?k6 ?k7 ?k8 ?_; (case k0 => assumption); (case ka => first | assumption | omega); (case kb => first | exact ⟨by decide, one_le_mlen _ _⟩ | assumption); (case k1 => k_asm); (case k2 => k_asm); (case k3 => k_asm); (case k4 => k_asm); (case k5 => k_asm); (case k6 => first | exact rfl | assumption); (case k7 => ktr_room); (case k8 => ktr_units)); intro z9 hz9 hb9 t9 h9 tk9 F9 N9; (try dsimp only); (try k_fold)))
set_option maxRecDepth 100000 in
set_option maxHeartbeats 8000000 in
theorem c_from_jd (w : World) (news : List (Addr × Obj)) (N : Int) (x : UInt64) (t1 : Tok) (hx : Rg x 1 (2 * N - 1) (2 * N - 1)) (hN : N.natAbs ≤ 2 ^ 40) : CG w 71 4 news [.float x t1] (retT news (fun y m d => gdn y m d = N ∧ 1 ≤ m ∧ m ≤ 12 ∧ 0 < d ∧ d ≤ mlen y m)) := by
  unfold CG; w_top off; k_fill
  intro loose mean mg mb dp un gd cn cs a ccd cl outer A₀ base h₀ L m s Q E B F X N0 T hk hd hu hret
  refine wpAny_call ?_
  k_dflt cell_enter
  k_steps
  · have hyd := fun hD hN => yd_b (N := N) hD (by assumption) (by assumption) (by assumption) (by assumption) (by assumption) (by assumption) (by assumption) (.inl (by assumption)) hN
    obtain ⟨hL, hyd, hYb⟩ := hyd (by omega) hN
    (rename ((_ : Int) = _ / 146097) => hclr; clear hclr); (rename ((_ : Int) = _ % 146097) => hclr; clear hclr); (rename ((_ : Int) = _ / 36524) => hclr; clear hclr); (rename ((_ : Int) = _ % 36524) => hclr; clear hclr); (rename ((_ : Int) = _ / 1461) => hclr; clear hclr); (rename ((_ : Int) = _ % 1461) => hclr; clear hclr); (rename ((_ : Int) = _ / 365) => hclr; clear hclr);
    (k_here; k_dflt (refine' (c_to_jd_b _ _ _ _ _ _ _ _ ?k0 ?ka ?kb) _ _ _ _ _ _ _ _ _ _ _ _ _ _ _ _ _ _ _ _ _ ?k1 ?k2 ?k3 ?k4 ?k5 ?k6 ?k7 ?k8 ?_; (case k0 => assumption); (case ka => first | assumption | omega); (case kb => first | exact ⟨by decide, one_le_mlen _ _⟩ | assumption); (case k1 => k_asm); (case k2 => k_asm); (case k3 => k_asm); (case k4 => k_asm); (case k5 => k_asm); (case k6 => first | exact rfl | assumption); (case k7 => ktr_room); (case k8 => ktr_units)); intro z9 hz9 hb9 t9 h9 tk9 F9 N9; (try dsimp only); (try k_fold))
    k_steps
    all_goals (refine endT hret ?_ (by k_asm) (by k_asm) (allLt_of (by assumption)) (fun _ h => h))
    all_goals exact md_end (lp := 1) (by omega) (by assumption) (.inl ⟨hL, rfl⟩) (by omega) (by omega) (by omega) (by omega)
  · have hyd := fun hD hN => yd_b (N := N) hD (by assumption) (by assumption) (by assumption) (by assumption) (by assumption) (by assumption) (by assumption) (.inr (by assumption)) hN
    obtain ⟨hL, hyd, hYb⟩ := hyd (by omega) hN
    (rename ((_ : Int) = _ / 146097) => hclr; clear hclr); (rename ((_ : Int) = _ % 146097) => hclr; clear hclr); (rename ((_ : Int) = _ / 36524) => hclr; clear hclr); (rename ((_ : Int) = _ % 36524) => hclr; clear hclr); (rename ((_ : Int) = _ / 1461) => hclr; clear hclr); (rename ((_ : Int) = _ % 1461) => hclr; clear hclr); (rename ((_ : Int) = _ / 365) => hclr; clear hclr);
    (k_here; k_dflt (refine' (c_to_jd_b _ _ _ _ _ _ _ _ ?k0 ?ka ?kb) _ _ _ _ _ _ _ _ _ _ _ _ _ _ _ _ _ _ _ _ _ ?k1 ?k2 ?k3 ?k4 ?k5 ?k6 ?k7 ?k8 ?_; (case k0 => assumption); (case ka => first | assumption | omega); (case kb => first | exact ⟨by decide, one_le_mlen _ _⟩ | assumption); (case k1 => k_asm); (case k2 => k_asm); (case k3 => k_asm); (case k4 => k_asm); (case k5 => k_asm); (case k6 => first | exact rfl | assumption); (case k7 => ktr_room); (case k8 => ktr_units)); intro z9 hz9 hb9 t9 h9 tk9 F9 N9; (try dsimp only); (try k_fold))
    k_steps
    all_goals (refine endT hret ?_ (by k_asm) (by k_asm) (allLt_of (by assumption)) (fun _ h => h))
    all_goals exact md_end (lp := 1) (by omega) (by assumption) (.inl ⟨hL, rfl⟩) (by omega) (by omega) (by omega) (by omega)
  · have hyd := fun hD hN => yd_a (N := N) hD (by assumption) (by assumption) (by assumption) (by assumption) (by assumption) (by assumption) (by assumption) (by assumption) (by assumption) hN
    obtain ⟨hyd0, hyd1, hYb⟩ := hyd (by omega) hN
    (rename ((_ : Int) = _ / 146097) => hclr; clear hclr); (rename ((_ : Int) = _ % 146097) => hclr; clear hclr); (rename ((_ : Int) = _ / 36524) => hclr; clear hclr); (rename ((_ : Int) = _ % 36524) => hclr; clear hclr); (rename ((_ : Int) = _ / 1461) => hclr; clear hclr); (rename ((_ : Int) = _ % 1461) => hclr; clear hclr); (rename ((_ : Int) = _ / 365) => hclr; clear hclr);
    rcases leap_cases hyd0 with hL | hL
    · (k_here; k_dflt (refine' (c_to_jd_b _ _ _ _ _ _ _ _ ?k0 ?ka ?kb) _ _ _ _ _ _ _ _ _ _ _ _ _ _ _ _ _ _ _ _ _ ?k1 ?k2 ?k3 ?k4 ?k5 ?k6 ?k7 ?k8 ?_; (case k0 => assumption); (case ka => first | assumption | omega); (case kb => first | exact ⟨by decide, one_le_mlen _ _⟩ | assumption); (case k1 => k_asm); (case k2 => k_asm); (case k3 => k_asm); (case k4 => k_asm); (case k5 => k_asm); (case k6 => first | exact rfl | assumption); (case k7 => ktr_room); (case k8 => ktr_units)); intro z9 hz9 hb9 t9 h9 tk9 F9 N9; (try dsimp only); (try k_fold))
      k_steps
      all_goals (refine endT hret ?_ (by k_asm) (by k_asm) (allLt_of (by assumption)) (fun _ h => h))
      all_goals exact md_end (lp := 1) (by omega) (by assumption) (.inl ⟨hL, rfl⟩) (by omega) (by omega) (by omega) (by omega)
    · (k_here; k_dflt (refine' (c_to_jd_b _ _ _ _ _ _ _ _ ?k0 ?ka ?kb) _ _ _ _ _ _ _ _ _ _ _ _ _ _ _ _ _ _ _ _ _ ?k1 ?k2 ?k3 ?k4 ?k5 ?k6 ?k7 ?k8 ?_; (case k0 => assumption); (case ka => first | assumption | omega); (case kb => first | exact ⟨by decide, one_le_mlen _ _⟩ | assumption); (case k1 => k_asm); (case k2 => k_asm); (case k3 => k_asm); (case k4 => k_asm); (case k5 => k_asm); (case k6 => first | exact rfl | assumption); (case k7 => ktr_room); (case k8 => ktr_units)); intro z9 hz9 hb9 t9 h9 tk9 F9 N9; (try dsimp only); (try k_fold))
      k_steps
      all_goals (refine endT hret ?_ (by k_asm) (by k_asm) (allLt_of (by assumption)) (fun _ h => h))
      all_goals exact md_end (lp := 0) (by omega) (by assumption) (.inr ⟨hL, rfl⟩) (by omega) (by omega) (by omega) (by omega)
end
section
local macro_rules | `(tactic| walk_at "none of mine") => `(tactic| skip)
local macro_rules | `(tactic| walk_at "none of mine") => `(tactic| skip)
local macro_rules | `(tactic| walk_at "none of mine") => `(tactic| skip)
local macro_rules | `(tactic| walk_at "none of mine") => `(tactic| skip)
local macro_rules | `(tactic| walk_at "none of mine") => `(tactic| skip)
local macro_rules | `(tactic| walk_at "none of mine") => `(tactic| skip)
local macro_rules | `(tactic| walk_at "call ref") => `(tactic| (k_here; refine wpAny_call ?_; k_dflt (refine' code_def ?k1 ?k2 ?k3 ?k4 ?k5 ?kA ?kF ?kK ?k6 ?k7 ?k8 ?k9 ?kB ?_ ?c2 ?c3 ?c4 ?c5; (case kA => exact rfl); (case kF => exact rfl); (case kK => first | exact rfl | assumption); (case k1 => k_asm); (case k2 => k_asm); (case k3 => k_asm); (case k4 => k_asm); (case k5 => k_asm); (case k6 => k_is); (case k7 => k_is); (case k8 => ktr_room); (case k9 => first | exact BindsTo.of_eq rfl | exact binds_K (by k_in) rfl (by k_is) rfl rfl rfl); (case c5 => decide); (case kB => exact locs rfl); (case c2 => exact rfl); (case c3 => exact rfl); (case c4 => exact rfl); k_whole; intro g' L' h' FG' F' N' B' X' T'; (try dsimp only); (try k_lift B'); (try k_fold))))
set_option maxRecDepth 100000 in
set_option maxHeartbeats 8000000 in
theorem c_to_jdj3 (w : World) (news : List (Addr × Obj)) (y d : Int) (t1 t2 t3 : Tok) (hy : y.natAbs ≤ 2 ^ 32) (hl : 0 < d ∧ d ≤ 31) : CG w 100 4 news [.int y t1, .int 3 t2, .int d t3] (retF news (2 * jdn y 3 d - 1)) := by
  unfold CG; w_top off; k_fill
  intro loose mean mg mb dp un gd cn cs a ccd cl outer A₀ base h₀ L mf s Q E B F X N0 T hk hd hu hret
  refine wpAny_call ?_
  k_dflt (refine' code_def ?k1 ?k2 ?k3 ?k4 ?k5 ?kA ?kF ?kK ?k6 ?k7 ?k8 ?k9 ?kB ?_ ?c2 ?c3 ?c4 ?c5; (case kA => exact rfl); (case kF => exact rfl); (case kK => first | exact rfl | assumption); (case k1 => k_asm); (case k2 => k_asm); (case k3 => k_asm); (case k4 => k_asm); (case k5 => k_asm); (case k6 => k_is); (case k7 => k_is); (case k8 => ktr_room); (case k9 => first | exact BindsTo.of_eq rfl | exact binds_K (by k_in) rfl (by k_is) rfl rfl rfl); (case c5 => decide); (case kB => exact locs rfl); (case c2 => exact rfl); (case c3 => exact rfl); (case c4 => exact rfl); k_whole; intro g' L' h' FG' F' N' B' X' T'; (try dsimp only); (try k_lift B'); (try k_fold))
  k_steps
  all_goals (refine endF hret (by assumption) ?_ (by k_asm) (by k_asm) (fun _ h => h))
  all_goals f_lean
  all_goals (unfold jdn; omega)
set_option maxRecDepth 100000 in
set_option maxHeartbeats 8000000 in
theorem c_to_jdj4 (w : World) (news : List (Addr × Obj)) (y d : Int) (t1 t2 t3 : Tok) (hy : y.natAbs ≤ 2 ^ 32) (hl : 0 < d ∧ d ≤ 30) : CG w 100 4 news [.int y t1, .int 4 t2, .int d t3] (retF news (2 * jdn y 4 d - 1)) := by
  unfold CG; w_top off; k_fill
  intro loose mean mg mb dp un gd cn cs a ccd cl outer A₀ base h₀ L mf s Q E B F X N0 T hk hd hu hret
  refine wpAny_call ?_
  k_dflt (refine' code_def ?k1 ?k2 ?k3 ?k4 ?k5 ?kA ?kF ?kK ?k6 ?k7 ?k8 ?k9 ?kB ?_ ?c2 ?c3 ?c4 ?c5; (case kA => exact rfl); (case kF => exact rfl); (case kK => first | exact rfl | assumption); (case k1 => k_asm); (case k2 => k_asm); (case k3 => k_asm); (case k4 => k_asm); (case k5 => k_asm); (case k6 => k_is); (case k7 => k_is); (case k8 => ktr_room); (case k9 => first | exact BindsTo.of_eq rfl | exact binds_K (by k_in) rfl (by k_is) rfl rfl rfl); (case c5 => decide); (case kB => exact locs rfl); (case c2 => exact rfl); (case c3 => exact rfl); (case c4 => exact rfl); k_whole; intro g' L' h' FG' F' N' B' X' T'; (try dsimp only); (try k_lift B'); (try k_fold))
  k_steps
  all_goals (refine endF hret (by assumption) ?_ (by k_asm) (by k_asm) (fun _ h => h))
  all_goals f_lean
  all_goals (unfold jdn; omega)
end
section
local macro_rules | `(tactic| walk_at "none of mine") => `(tactic| skip)
local macro_rules | `(tactic| walk_at "none of mine") => `(tactic| skip)
local macro_rules | `(tactic| walk_at "none of mine") => `(tactic| skip)
local macro_rules | `(tactic| walk_at "none of mine") => `(tactic| skip)
local macro_rules | `(tactic| walk_at "none of mine") => `(tactic| skip)
local macro_rules | `(tactic| walk_at "none of mine") => `(tactic| skip)
local macro_rules | `(tactic| walk_at "none of mine") => `(tactic| skip)
local macro_rules | `(tactic| walk_at "none of mine") => `(tactic| skip)
local macro_rules | `(tactic| walk_at "binaryOp Mult int int") => `(tactic| (k_dflt (first | (refine' w_mul_01 ?k1 ?k2 ?k3 ?_; (case k1 => law_purse 400000 => omega); (case k2 => law_purse 400000 => omega); (case k3 => law_purse 400000 => omega); intro r' hr') | (refine' w_mul_10 ?k1 ?k2 ?k3 ?_; (case k1 => law_purse 400000 => omega); (case k2 => law_purse 400000 => omega); (case k3 => law_purse 400000 => omega); intro r' hr')); (try dsimp only)))
set_option maxRecDepth 100000 in
set_option maxHeartbeats 8000000 in
theorem c_west (w : World) (news : List (Addr × Obj)) (y : Int) (t1 : Tok) (hy : 1583 ≤ y ∧ y ≤ 2 ^ 31) : CG w 122 4 news [.int y t1] (retT news (fun y' m' d' => y' = y ∧ ((wL y ≤ 3 ∧ m' = 3 ∧ d' = wL y + 28) ∨ (3 < wL y ∧ m' = 4 ∧ d' = wL y - 3)))) := by
  unfold CG; w_top off; k_fill
  intro loose mean mg mb dp un gd cn cs a ccd cl outer A₀ base h₀ L mf s Q E B F X N0 T hk hd hu hret
  refine wpAny_call ?_
  k_dflt (refine' code_def ?k1 ?k2 ?k3 ?k4 ?k5 ?kA ?kF ?kK ?k6 ?k7 ?k8 ?k9 ?kB ?_ ?c2 ?c3 ?c4 ?c5; (case kA => exact rfl); (case kF => exact rfl); (case kK => first | exact rfl | assumption); (case k1 => k_asm); (case k2 => k_asm); (case k3 => k_asm); (case k4 => k_asm); (case k5 => k_asm); (case k6 => k_is); (case k7 => k_is); (case k8 => ktr_room); (case k9 => first | exact BindsTo.of_eq rfl | exact binds_K (by k_in) rfl (by k_is) rfl rfl rfl); (case c5 => decide); (case kB => exact locs rfl); (case c2 => exact rfl); (case c3 => exact rfl); (case c4 => exact rfl); k_whole; intro g' L' h' FG' F' N' B' X' T'; (try dsimp only); (try k_lift B'); (try k_fold))
  k_steps
  all_goals (refine endT hret ?_ (by k_asm) (by k_asm) (allLt_of (by assumption)) (fun _ h => h))
  all_goals (obtain ⟨hW1, hW2, hW3⟩ := west_i hy.1 (by assumption) (by assumption) (by assumption) (by assumption) (by assumption) (by assumption) (by assumption) (by assumption) (by assumption) (by assumption) (by assumption) (by assumption) (by assumption) (by assumption))
  all_goals exact ⟨rfl, west_md (by assumption) (by assumption) (by assumption) (by assumption) (by assumption) (by assumption) (by assumption) hW1 hW2 hW3⟩
end
section
local macro_rules | `(tactic| walk_at "none of mine") => `(tactic| skip)
local macro_rules | `(tactic| walk_at "none of mine") => `(tactic| skip)
local macro_rules | `(tactic| walk_at "none of mine") => `(tactic| skip)
local macro_rules | `(tactic| walk_at "none of mine") => `(tactic| skip)
local macro_rules | `(tactic| walk_at "none of mine") => `(tactic| skip)
local macro_rules | `(tactic| walk_at "none of mine") => `(tactic| skip)
local macro_rules | `(tactic| walk_at "none of mine") => `(tactic| skip)
local macro_rules | `(tactic| walk_at "none of mine") => `(tactic| skip)
local macro_rules | `(tactic| walk_at "none of mine") => `(tactic| skip)
local macro_rules | `(tactic| walk_at "none of mine") => `(tactic| skip)
local macro_rules | `(tactic| walk_at "call ref") => `(tactic| (k_here; refine wpAny_call ?_; k_dflt (refine' code_def ?k1 ?k2 ?k3 ?k4 ?k5 ?kA ?kF ?kK ?k6 ?k7 ?k8 ?k9 ?kB ?_ ?c2 ?c3 ?c4 ?c5; (case kA => exact rfl); (case kF => exact rfl); (case kK => first | exact rfl | assumption); (case k1 => k_asm); (case k2 => k_asm); (case k3 => k_asm); (case k4 => k_asm); (case k5 => k_asm); (case k6 => k_is); (case k7 => k_is); (case k8 => ktr_room); (case k9 => first | exact BindsTo.of_eq rfl | exact binds_K (by k_in) rfl (by k_is) rfl rfl rfl); (case c5 => decide); (case kB => exact locs rfl); (case c2 => exact rfl); (case c3 => exact rfl); (case c4 => exact rfl); k_whole; intro g' L' h' FG' F' N' B' X' T'; (try dsimp only); (try k_lift B'); (try k_fold))))
set_option maxRecDepth 100000 in
set_option maxHeartbeats 8000000 in
theorem c_ej0 (w : World) (news : List (Addr × Obj)) (y : Int) (t1 : Tok) : CG w 130 2 news [.int y t1] (retT news (fun y' m' d' => y' = y ∧ m' = eM y 0 / 31 ∧ d' = eM y 0 % 31 + 1)) := by
  unfold CG; w_top off; k_fill
  intro loose mean mg mb dp un gd cn cs a ccd cl outer A₀ base h₀ L mf s Q E B F X N0 T hk hd hu hret
  refine wpAny_call ?_
  k_dflt (refine' code_def ?k1 ?k2 ?k3 ?k4 ?k5 ?kA ?kF ?kK ?k6 ?k7 ?k8 ?k9 ?kB ?_ ?c2 ?c3 ?c4 ?c5; (case kA => exact rfl); (case kF => exact rfl); (case kK => first | exact rfl | assumption); (case k1 => k_asm); (case k2 => k_asm); (case k3 => k_asm); (case k4 => k_asm); (case k5 => k_asm); (case k6 => k_is); (case k7 => k_is); (case k8 => ktr_room); (case k9 => first | exact BindsTo.of_eq rfl | exact binds_K (by k_in) rfl (by k_is) rfl rfl rfl); (case c5 => decide); (case kB => exact locs rfl); (case c2 => exact rfl); (case c3 => exact rfl); (case c4 => exact rfl); k_whole; intro g' L' h' FG' F' N' B' X' T'; (try dsimp only); (try k_lift B'); (try k_fold))
  k_steps
  all_goals (refine endT hret ?_ (by k_asm) (by k_asm) (allLt_of (by assumption)) (fun _ h => h))
  all_goals f_lean
  all_goals (have e9 : eM y 0 = 113 + (19 * (y % 19) + 15) % 30 + (2 * (y % 4) + 4 * (y % 7) - (19 * (y % 19) + 15) % 30 + 6) % 7 + 1 := by { unfold eM eD; rw [ite_self, Int.add_zero] })
  all_goals (rw [e9]; omega)

end
section
local macro_rules | `(tactic| walk_at "none of mine") => `(tactic| skip)
local macro_rules | `(tactic| walk_at "none of mine") => `(tactic| skip)
local macro_rules | `(tactic| walk_at "none of mine") => `(tactic| skip)
local macro_rules | `(tactic| walk_at "none of mine") => `(tactic| skip)
local macro_rules | `(tactic| walk_at "none of mine") => `(tactic| skip)
local macro_rules | `(tactic| walk_at "none of mine") => `(tactic| skip)
local macro_rules | `(tactic| walk_at "none of mine") => `(tactic| skip)
local macro_rules | `(tactic| walk_at "none of mine") => `(tactic| skip)
local macro_rules | `(tactic| walk_at "none of mine") => `(tactic| skip)
local macro_rules | `(tactic| walk_at "none of mine") => `(tactic| skip)
local macro_rules | `(tactic| walk_at "none of mine") => `(tactic| skip)
local macro_rules | `(tactic| walk_at "none of mine") => `(tactic| skip)
local macro_rules | `(tactic| walk_at "call ref") => `(tactic| (k_here; k_dflt (first | (refine' (c_to_jdj3 _ _ _ _ _ _ _ ?ka ?kb) _ _ _ _ _ _ _ _ _ _ _ _ _ _ _ _ _ _ _ _ _ ?k1 ?k2 ?k3 ?k4 ?k5 ?k6 ?k7 ?k8 ?_; (case ka => omega); (case kb => omega); (case k1 => k_asm); (case k2 => k_asm); (case k3 => k_asm); (case k4 => k_asm); (case k5 => k_asm); (case k6 => first | exact rfl | assumption); (case k7 => ktr_room); (case k8 => ktr_units)) | (refine' (c_to_jdj4 _ _ _ _ _ _ _ ?ka ?kb) _ _ _ _ _ _ _ _ _ _ _ _ _ _ _ _ _ _ _ _ _ ?k1 ?k2 ?k3 ?k4 ?k5 ?k6 ?k7 ?k8 ?_; (case ka => omega); (case kb => omega); (case k1 => k_asm); (case k2 => k_asm); (case k3 => k_asm); (case k4 => k_asm); (case k5 => k_asm); (case k6 => first | exact rfl | assumption); (case k7 => ktr_room); (case k8 => ktr_units))); intro z9 hz9 t9 h9 tk9 F9 N9; (try dsimp only); (try k_fold)))
local macro_rules | `(tactic| walk_at "call ref") => `(tactic| (k_here; k_dflt (refine' (c_from_jd _ _ _ _ _ ?ka ?kb) _ _ _ _ _ _ _ _ _ _ _ _ _ _ _ _ _ _ _ _ _ ?k1 ?k2 ?k3 ?k4 ?k5 ?k6 ?k7 ?k8 ?_; (case ka => assumption); (case kb => first | assumption | omega); (case k1 => k_asm); (case k2 => k_asm); (case k3 => k_asm); (case k4 => k_asm); (case k5 => k_asm); (case k6 => first | exact rfl | assumption); (case k7 => ktr_room); (case k8 => ktr_units)); intro y9 m9 d9 hP9 D9 ta9 tb9 tc9 c9 h9 tk9 F9 N9 l9; (try dsimp only); (try k_fold)))
set_option maxRecDepth 100000 in
set_option maxHeartbeats 8000000 in
theorem c_to_greg3 (w : World) (news : List (Addr × Obj)) (y d : Int) (t1 t2 t3 : Tok) (hy : y.natAbs ≤ 2 ^ 31) (hl : 0 < d ∧ d ≤ 31) (hb : (jdn y 3 d).natAbs ≤ 2 ^ 40) : CG w 107 6 news [.int y t1, .int 3 t2, .int d t3] (retT news (fun y' m' d' => gdn y' m' d' = jdn y 3 d ∧ 1 ≤ m' ∧ m' ≤ 12 ∧ 0 < d' ∧ d' ≤ mlen y' m')) := by
  unfold CG; w_top off; k_fill
  intro loose mean mg mb dp un gd cn cs a ccd cl outer A₀ base h₀ L mf s Q E B F X N0 T hk hd hu hret
  refine wpAny_call ?_
  k_dflt (refine' code_def ?k1 ?k2 ?k3 ?k4 ?k5 ?kA ?kF ?kK ?k6 ?k7 ?k8 ?k9 ?kB ?_ ?c2 ?c3 ?c4 ?c5; (case kA => exact rfl); (case kF => exact rfl); (case kK => first | exact rfl | assumption); (case k1 => k_asm); (case k2 => k_asm); (case k3 => k_asm); (case k4 => k_asm); (case k5 => k_asm); (case k6 => k_is); (case k7 => k_is); (case k8 => ktr_room); (case k9 => first | exact BindsTo.of_eq rfl | exact binds_K (by k_in) rfl (by k_is) rfl rfl rfl); (case c5 => decide); (case kB => exact locs rfl); (case c2 => exact rfl); (case c3 => exact rfl); (case c4 => exact rfl); k_whole; intro g' L' h' FG' F' N' B' X' T'; (try dsimp only); (try k_lift B'); (try k_fold))
  k_steps
  all_goals (refine endT hret ?e (by k_asm) (by k_asm) ?l ?s; (case l => first | assumption | exact (show AllLt _ (_ :: _) from by assumption).2); (case s => first | exact fun _ h => h | exact fun _ h => .tail _ h))
  all_goals assumption
set_option maxRecDepth 100000 in
set_option maxHeartbeats 8000000 in
theorem c_to_greg4 (w : World) (news : List (Addr × Obj)) (y d : Int) (t1 t2 t3 : Tok) (hy : y.natAbs ≤ 2 ^ 31) (hl : 0 < d ∧ d ≤ 30) (hb : (jdn y 4 d).natAbs ≤ 2 ^ 40) : CG w 107 6 news [.int y t1, .int 4 t2, .int d t3] (retT news (fun y' m' d' => gdn y' m' d' = jdn y 4 d ∧ 1 ≤ m' ∧ m' ≤ 12 ∧ 0 < d' ∧ d' ≤ mlen y' m')) := by
  unfold CG; w_top off; k_fill
  intro loose mean mg mb dp un gd cn cs a ccd cl outer A₀ base h₀ L mf s Q E B F X N0 T hk hd hu hret
  refine wpAny_call ?_
  k_dflt (refine' code_def ?k1 ?k2 ?k3 ?k4 ?k5 ?kA ?kF ?kK ?k6 ?k7 ?k8 ?k9 ?kB ?_ ?c2 ?c3 ?c4 ?c5; (case kA => exact rfl); (case kF => exact rfl); (case kK => first | exact rfl | assumption); (case k1 => k_asm); (case k2 => k_asm); (case k3 => k_asm); (case k4 => k_asm); (case k5 => k_asm); (case k6 => k_is); (case k7 => k_is); (case k8 => ktr_room); (case k9 => first | exact BindsTo.of_eq rfl | exact binds_K (by k_in) rfl (by k_is) rfl rfl rfl); (case c5 => decide); (case kB => exact locs rfl); (case c2 => exact rfl); (case c3 => exact rfl); (case c4 => exact rfl); k_whole; intro g' L' h' FG' F' N' B' X' T'; (try dsimp only); (try k_lift B'); (try k_fold))
  k_steps
  all_goals (refine endT hret ?e (by k_asm) (by k_asm) ?l ?s; (case l => first | assumption | exact (show AllLt _ (_ :: _) from by assumption).2); (case s => first | exact fun _ h => h | exact fun _ h => .tail _ h))
  all_goals assumption
theorem c_to_greg (w : World) (news : List (Addr × Obj)) (y m d : Int) (t1 t2 t3 : Tok) (hy : y.natAbs ≤ 2 ^ 31) (h : (m = 3 ∧ 0 < d ∧ d ≤ 31) ∨ (m = 4 ∧ 0 < d ∧ d ≤ 30)) : CG w 107 6 news [.int y t1, .int m t2, .int d t3] (retT news (fun y' m' d' => gdn y' m' d' = jdn y m d ∧ 1 ≤ m' ∧ m' ≤ 12 ∧ 0 < d' ∧ d' ≤ mlen y' m')) := by
  have hb := jdn_bound hy h
  rcases h with ⟨rfl, hl⟩ | ⟨rfl, hl⟩
  · exact c_to_greg3 w news y d t1 t2 t3 hy hl hb
  · exact c_to_greg4 w news y d t1 t2 t3 hy hl hb
end
section
local macro_rules | `(tactic| walk_at "none of mine") => `(tactic| skip)
local macro_rules | `(tactic| walk_at "none of mine") => `(tactic| skip)
local macro_rules | `(tactic| walk_at "none of mine") => `(tactic| skip)
local macro_rules | `(tactic| walk_at "none of mine") => `(tactic| skip)
local macro_rules | `(tactic| walk_at "none of mine") => `(tactic| skip)
local macro_rules | `(tactic| walk_at "none of mine") => `(tactic| skip)
local macro_rules | `(tactic| walk_at "none of mine") => `(tactic| skip)
local macro_rules | `(tactic| walk_at "none of mine") => `(tactic| skip)
local macro_rules | `(tactic| walk_at "none of mine") => `(tactic| skip)
local macro_rules | `(tactic| walk_at "none of mine") => `(tactic| skip)
local macro_rules | `(tactic| walk_at "none of mine") => `(tactic| skip)
local macro_rules | `(tactic| walk_at "none of mine") => `(tactic| skip)
local macro_rules | `(tactic| walk_at "none of mine") => `(tactic| skip)
local macro_rules | `(tactic| walk_at "none of mine") => `(tactic| skip)
local macro_rules | `(tactic| walk_at "none of mine") => `(tactic| skip)
local macro_rules | `(tactic| walk_at "call ref") => `(tactic| (k_here; k_dflt (refine' (c_ej0 _ _ _ _) _ _ _ _ _ _ _ _ _ _ _ _ _ _ _ _ _ _ _ _ _ ?k1 ?k2 ?k3 ?k4 ?k5 ?k6 ?k7 ?k8 ?_; (case k1 => k_asm); (case k2 => k_asm); (case k3 => k_asm); (case k4 => k_asm); (case k5 => k_asm); (case k6 => first | exact rfl | assumption); (case k7 => ktr_room); (case k8 => ktr_units)); intro y9 m9 d9 hP9 D9 ta9 tb9 tc9 c9 h9 tk9 F9 N9 l9; (obtain ⟨e19, e29, e39⟩ := hP9); (replace e19 := Eq.symm e19); subst e19; (have hj9 := jm_cases (eM_range (Or.inl rfl)) e29 e39); (try dsimp only); (try k_fold)))
local macro_rules | `(tactic| walk_at "call ref") => `(tactic| (k_here; k_dflt (refine' (c_to_greg _ _ _ _ _ _ _ _ ?ka ?kb) _ _ _ _ _ _ _ _ _ _ _ _ _ _ _ _ _ _ _ _ _ ?k1 ?k2 ?k3 ?k4 ?k5 ?k6 ?k7 ?k8 ?_; (case ka => assumption); (case kb => assumption); (case k1 => k_asm); (case k2 => k_asm); (case k3 => k_asm); (case k4 => k_asm); (case k5 => k_asm); (case k6 => first | exact rfl | assumption); (case k7 => ktr_room); (case k8 => ktr_units)); intro y9 m9 d9 hP9 D9 ta9 tb9 tc9 c9 h9 tk9 F9 N9 l9; (try dsimp only); (try k_fold)))
local macro_rules | `(tactic| walk_at "call ref") => `(tactic| (k_here; k_dflt (refine' (c_west _ _ _ _ ?ka) _ _ _ _ _ _ _ _ _ _ _ _ _ _ _ _ _ _ _ _ _ ?k1 ?k2 ?k3 ?k4 ?k5 ?k6 ?k7 ?k8 ?_; (case ka => assumption); (case k1 => k_asm); (case k2 => k_asm); (case k3 => k_asm); (case k4 => k_asm); (case k5 => k_asm); (case k6 => first | exact rfl | assumption); (case k7 => ktr_room); (case k8 => ktr_units)); intro y9 m9 d9 hP9 D9 ta9 tb9 tc9 c9 h9 tk9 F9 N9 l9; (try dsimp only); (try k_fold)))
set_option maxRecDepth 100000 in
set_option maxHeartbeats 8000000 in
theorem c_easter_w (w : World) (news : List (Addr × Obj)) (y : Int) (t1 t2 : Tok) (hy : 1583 ≤ y ∧ y ≤ 2 ^ 31) : CG w 115 8 news [.int y t1, .str (Str.ofString "western") t2] (retT news (fun y' m' d' => y' = y ∧ ((wL y ≤ 3 ∧ m' = 3 ∧ d' = wL y + 28) ∨ (3 < wL y ∧ m' = 4 ∧ d' = wL y - 3)))) := by
  unfold CG; w_top off; k_fill
  intro loose mean mg mb dp un gd cn cs a ccd cl outer A₀ base h₀ L mf s Q E B F X N0 T hk hd hu hret
  refine wpAny_call ?_
  k_dflt (refine' code_def ?k1 ?k2 ?k3 ?k4 ?k5 ?kA ?kF ?kK ?k6 ?k7 ?k8 ?k9 ?kB ?_ ?c2 ?c3 ?c4 ?c5; (case kA => exact rfl); (case kF => exact rfl); (case kK => first | exact rfl | assumption); (case k1 => k_asm); (case k2 => k_asm); (case k3 => k_asm); (case k4 => k_asm); (case k5 => k_asm); (case k6 => k_is); (case k7 => k_is); (case k8 => ktr_room); (case k9 => first | exact BindsTo.of_eq rfl | exact binds_K (by k_in) rfl (by k_is) rfl rfl rfl); (case c5 => decide); (case kB => exact locs rfl); (case c2 => exact rfl); (case c3 => exact rfl); (case c4 => exact rfl); k_whole; intro g' L' h' FG' F' N' B' X' T'; (try dsimp only); (try k_lift B'); (try k_fold))
  k_steps
  all_goals (refine endT hret ?e (by k_asm) (by k_asm) ?l ?s; (case l => first | assumption | exact (show AllLt _ (_ :: _) from by assumption).2); (case s => first | exact fun _ h => h | exact fun _ h => .tail _ h))
  all_goals assumption
set_option maxRecDepth 100000 in
set_option maxHeartbeats 8000000 in
theorem c_easter_o (w : World) (news : List (Addr × Obj)) (y : Int) (t1 t2 : Tok) (hy : y.natAbs ≤ 2 ^ 31) : CG w 115 8 news [.int y t1, .str (Str.ofString "orthodox") t2] (retT news (fun y' m' d' => gdn y' m' d' = oN y 0 ∧ 1 ≤ m' ∧ m' ≤ 12 ∧ 0 < d' ∧ d' ≤ mlen y' m')) := by
  unfold CG; w_top off; k_fill
  intro loose mean mg mb dp un gd cn cs a ccd cl outer A₀ base h₀ L mf s Q E B F X N0 T hk hd hu hret
  refine wpAny_call ?_
  k_dflt (refine' code_def ?k1 ?k2 ?k3 ?k4 ?k5 ?kA ?kF ?kK ?k6 ?k7 ?k8 ?k9 ?kB ?_ ?c2 ?c3 ?c4 ?c5; (case kA => exact rfl); (case kF => exact rfl); (case kK => first | exact rfl | assumption); (case k1 => k_asm); (case k2 => k_asm); (case k3 => k_asm); (case k4 => k_asm); (case k5 => k_asm); (case k6 => k_is); (case k7 => k_is); (case k8 => ktr_room); (case k9 => first | exact BindsTo.of_eq rfl | exact binds_K (by k_in) rfl (by k_is) rfl rfl rfl); (case c5 => decide); (case kB => exact locs rfl); (case c2 => exact rfl); (case c3 => exact rfl); (case c4 => exact rfl); k_whole; intro g' L' h' FG' F' N' B' X' T'; (try dsimp only); (try k_lift B'); (try k_fold))
  k_steps
  all_goals (refine endT hret ?e (by k_asm) (by k_asm) ?l ?s; (case l => first | assumption | exact (show AllLt _ (_ :: _) from by assumption).2); (case s => first | exact fun _ h => h | exact fun _ h => .tail _ h))
  all_goals (subst_vars; assumption)
end
section
local macro_rules | `(tactic| walk_at "none of mine") => `(tactic| skip)
local macro_rules | `(tactic| walk_at "none of mine") => `(tactic| skip)
local macro_rules | `(tactic| walk_at "none of mine") => `(tactic| skip)
local macro_rules | `(tactic| walk_at "none of mine") => `(tactic| skip)
local macro_rules | `(tactic| walk_at "none of mine") => `(tactic| skip)
local macro_rules | `(tactic| walk_at "none of mine") => `(tactic| skip)
local macro_rules | `(tactic| walk_at "none of mine") => `(tactic| skip)
local macro_rules | `(tactic| walk_at "none of mine") => `(tactic| skip)
local macro_rules | `(tactic| walk_at "none of mine") => `(tactic| skip)
local macro_rules | `(tactic| walk_at "none of mine") => `(tactic| skip)
local macro_rules | `(tactic| walk_at "none of mine") => `(tactic| skip)
local macro_rules | `(tactic| walk_at "none of mine") => `(tactic| skip)
local macro_rules | `(tactic| walk_at "none of mine") => `(tactic| skip)
local macro_rules | `(tactic| walk_at "none of mine") => `(tactic| skip)
local macro_rules | `(tactic| walk_at "none of mine") => `(tactic| skip)
local macro_rules | `(tactic| walk_at "none of mine") => `(tactic| skip)
local macro_rules | `(tactic| walk_at "none of mine") => `(tactic| skip)
local macro_rules | `(tactic| walk_at "none of mine") => `(tactic| skip)
local macro_rules | `(tactic| walk_at "none of mine") => `(tactic| skip)
abbrev CGk (w : World) (f : Addr) (d : Nat) (news : List (Addr × Obj)) (vs : List Value) (kw : List (Str × Value)) (Ret : Heap → Addr → (Str → Option Value) → Shared → (Value → Shared → Prop) → Prop) : Prop :=
  ∀ (loose : List Str) (mean : ExcName → Option Value) (mg mb : Str → Option Value) (dp un : Nat) (gd : Option (List Code)) (cn : Str) (cs : Scope) (a : Addr) (ccd : Value) (cl : List (Str × Addr)) (outer : List Env) (A₀ : Around) (base h₀ : Heap) (L : Addr) (m : Str → Option Value) (s : Shared) (Q E : Value → Shared → Prop),
    Below A₀ base outer h₀ → Fr h₀ L s.heap m → (hd.heap_39 w.params).In h₀ → News h₀ L s.heap news → Top hd.view_39 loose mean mg mb h₀ → cs.kind = .function → dp + d < recursionLimit → un + 8 * d < cLine →
    Ret h₀ L m s Q →
    wpAny (model PySem.Challenge.rw_ad5017_02.row.prog w) (ktrTop dp un gd cn cs L a ccd cl outer) (call (.ref f) vs kw) Q E s
set_option maxRecDepth 100000 in
set_option maxHeartbeats 8000000 in
theorem c_ej1 (w : World) (news : List (Addr × Obj)) (y : Int) (t1 t2 : Tok) : CGk w 130 2 news [.int y t1] [(Str.ofString "mode", .str (Str.ofString "eastern") t2)] (retT news (fun y' m' d' => y' = y ∧ m' = eM y 1 / 31 ∧ d' = eM y 1 % 31 + 1)) := by
  unfold CGk; w_top off; k_fill
  intro loose mean mg mb dp un gd cn cs a ccd cl outer A₀ base h₀ L mf s Q E B F X N0 T hk hd hu hret
  refine wpAny_call ?_
  k_dflt (refine' code_def ?k1 ?k2 ?k3 ?k4 ?k5 ?kA ?kF ?kK ?k6 ?k7 ?k8 ?k9 ?kB ?_ ?c2 ?c3 ?c4 ?c5; (case kA => exact rfl); (case kF => exact rfl); (case kK => first | exact rfl | assumption); (case k1 => k_asm); (case k2 => k_asm); (case k3 => k_asm); (case k4 => k_asm); (case k5 => k_asm); (case k6 => k_is); (case k7 => k_is); (case k8 => ktr_room); (case k9 => first | exact BindsTo.of_eq rfl | exact binds_K (by k_in) rfl (by k_is) rfl rfl rfl); (case c5 => decide); (case kB => exact locs rfl); (case c2 => exact rfl); (case c3 => exact rfl); (case c4 => exact rfl); k_whole; intro g' L' h' FG' F' N' B' X' T'; (try dsimp only); (try k_lift B'); (try k_fold))
  k_steps
  all_goals (refine endT hret ?_ (by k_asm) (by k_asm) (allLt_of (by assumption)) (fun _ h => h))
  all_goals f_lean
  all_goals (first | ((have e9 : eD y 1 = (19 * (y % 19) + 15) % 30 + 1 := by { unfold eD; rw [if_pos (by omega)] }); (unfold eM; rw [e9]; omega)) | ((have e9 : eD y 1 = (19 * (y % 19) + 15) % 30 := by { unfold eD; rw [if_neg (by omega), Int.add_zero] }); (unfold eM; rw [e9]; omega)))
local macro_rules | `(tactic| walk_at "call ref") => `(tactic| (k_here; k_dflt (refine' (c_to_greg _ _ _ _ _ _ _ _ ?ka ?kb) _ _ _ _ _ _ _ _ _ _ _ _ _ _ _ _ _ _ _ _ _ ?k1 ?k2 ?k3 ?k4 ?k5 ?k6 ?k7 ?k8 ?_; (case ka => assumption); (case kb => assumption); (case k1 => k_asm); (case k2 => k_asm); (case k3 => k_asm); (case k4 => k_asm); (case k5 => k_asm); (case k6 => first | exact rfl | assumption); (case k7 => ktr_room); (case k8 => ktr_units)); intro y9 m9 d9 hP9 D9 ta9 tb9 tc9 c9 h9 tk9 F9 N9 l9; (try dsimp only); (try k_fold)))
local macro_rules | `(tactic| walk_at "call ref") => `(tactic| (k_here; k_dflt (refine' (c_ej1 _ _ _ _ _) _ _ _ _ _ _ _ _ _ _ _ _ _ _ _ _ _ _ _ _ _ ?k1 ?k2 ?k3 ?k4 ?k5 ?k6 ?k7 ?k8 ?_; (case k1 => k_asm); (case k2 => k_asm); (case k3 => k_asm); (case k4 => k_asm); (case k5 => k_asm); (case k6 => first | exact rfl | assumption); (case k7 => ktr_room); (case k8 => ktr_units)); intro y9 m9 d9 hP9 D9 ta9 tb9 tc9 c9 h9 tk9 F9 N9 l9; (obtain ⟨e19, e29, e39⟩ := hP9); (replace e19 := Eq.symm e19); subst e19; (have hj9 := jm_cases (eM_range (Or.inr rfl)) e29 e39); (try dsimp only); (try k_fold)))
set_option maxRecDepth 100000 in
set_option maxHeartbeats 8000000 in
theorem c_easter_e (w : World) (news : List (Addr × Obj)) (y : Int) (t1 t2 : Tok) (hy : y.natAbs ≤ 2 ^ 31) : CG w 115 8 news [.int y t1, .str (Str.ofString "eastern") t2] (retT news (fun y' m' d' => gdn y' m' d' = oN y 1 ∧ 1 ≤ m' ∧ m' ≤ 12 ∧ 0 < d' ∧ d' ≤ mlen y' m')) := by
  unfold CG; w_top off; k_fill
  intro loose mean mg mb dp un gd cn cs a ccd cl outer A₀ base h₀ L mf s Q E B F X N0 T hk hd hu hret
  refine wpAny_call ?_
  k_dflt (refine' code_def ?k1 ?k2 ?k3 ?k4 ?k5 ?kA ?kF ?kK ?k6 ?k7 ?k8 ?k9 ?kB ?_ ?c2 ?c3 ?c4 ?c5; (case kA => exact rfl); (case kF => exact rfl); (case kK => first | exact rfl | assumption); (case k1 => k_asm); (case k2 => k_asm); (case k3 => k_asm); (case k4 => k_asm); (case k5 => k_asm); (case k6 => k_is); (case k7 => k_is); (case k8 => ktr_room); (case k9 => first | exact BindsTo.of_eq rfl | exact binds_K (by k_in) rfl (by k_is) rfl rfl rfl); (case c5 => decide); (case kB => exact locs rfl); (case c2 => exact rfl); (case c3 => exact rfl); (case c4 => exact rfl); k_whole; intro g' L' h' FG' F' N' B' X' T'; (try dsimp only); (try k_lift B'); (try k_fold))
  k_steps
  all_goals (refine endT hret ?e (by k_asm) (by k_asm) ?l ?s; (case l => first | assumption | exact (show AllLt _ (_ :: _) from by assumption).2); (case s => first | exact fun _ h => h | exact fun _ h => .tail _ h))
  all_goals (subst_vars; assumption)
end
section
local macro_rules | `(tactic| walk_at "none of mine") => `(tactic| skip)
local macro_rules | `(tactic| walk_at "none of mine") => `(tactic| skip)
local macro_rules | `(tactic| walk_at "none of mine") => `(tactic| skip)
local macro_rules | `(tactic| walk_at "none of mine") => `(tactic| skip)
local macro_rules | `(tactic| walk_at "none of mine") => `(tactic| skip)
local macro_rules | `(tactic| walk_at "none of mine") => `(tactic| skip)
local macro_rules | `(tactic| walk_at "none of mine") => `(tactic| skip)
local macro_rules | `(tactic| walk_at "none of mine") => `(tactic| skip)
local macro_rules | `(tactic| walk_at "none of mine") => `(tactic| skip)
local macro_rules | `(tactic| walk_at "none of mine") => `(tactic| skip)
local macro_rules | `(tactic| walk_at "none of mine") => `(tactic| skip)
local macro_rules | `(tactic| walk_at "none of mine") => `(tactic| skip)
local macro_rules | `(tactic| walk_at "none of mine") => `(tactic| skip)
local macro_rules | `(tactic| walk_at "none of mine") => `(tactic| skip)
local macro_rules | `(tactic| walk_at "none of mine") => `(tactic| skip)
local macro_rules | `(tactic| walk_at "none of mine") => `(tactic| skip)
local macro_rules | `(tactic| walk_at "none of mine") => `(tactic| skip)
local macro_rules | `(tactic| walk_at "none of mine") => `(tactic| skip)
local macro_rules | `(tactic| walk_at "none of mine") => `(tactic| skip)
local macro_rules | `(tactic| walk_at "none of mine") => `(tactic| skip)
local macro_rules | `(tactic| walk_at "none of mine") => `(tactic| skip)
local macro_rules | `(tactic| walk_at "none of mine") => `(tactic| skip)
local macro_rules | `(tactic| walk_at "call ref") => `(tactic| (k_here; refine wpAny_call ?_; k_dflt (refine' code_def ?k1 ?k2 ?k3 ?k4 ?k5 ?kA ?kF ?kK ?k6 ?k7 ?k8 ?k9 ?kB ?_ ?c2 ?c3 ?c4 ?c5; (case kA => exact rfl); (case kF => exact rfl); (case kK => first | exact rfl | assumption); (case k1 => k_asm); (case k2 => k_asm); (case k3 => k_asm); (case k4 => k_asm); (case k5 => k_asm); (case k6 => k_is); (case k7 => k_is); (case k8 => ktr_room); (case k9 => first | exact BindsTo.of_eq rfl | exact binds_K (by k_in) rfl (by k_is) rfl rfl rfl); (case c5 => decide); (case kB => exact locs rfl); (case c2 => exact rfl); (case c3 => exact rfl); (case c4 => exact rfl); k_whole; intro g' L' h' FG' F' N' B' X' T'; (try dsimp only); (try k_lift B'); (try k_fold))))
set_option maxRecDepth 100000 in
set_option maxHeartbeats 8000000 in
theorem c_lwest (w : World) (news : List (Addr × Obj)) (y : Int) (t1 : Tok) (hy : 1583 ≤ y ∧ y ≤ 2 ^ 31) : CG w 150 2 news [.int y t1] (retI news (wN y)) := by
  unfold CG; w_top off; k_fill
  intro loose mean mg mb dp un gd cn cs a ccd cl outer A₀ base h₀ L mf s Q E B F X N0 T hk hd hu hret
  refine wpAny_call ?_
  k_dflt (refine' code_def ?k1 ?k2 ?k3 ?k4 ?k5 ?kA ?kF ?kK ?k6 ?k7 ?k8 ?k9 ?kB ?_ ?c2 ?c3 ?c4 ?c5; (case kA => exact rfl); (case kF => exact rfl); (case kK => first | exact rfl | assumption); (case k1 => k_asm); (case k2 => k_asm); (case k3 => k_asm); (case k4 => k_asm); (case k5 => k_asm); (case k6 => k_is); (case k7 => k_is); (case k8 => ktr_room); (case k9 => first | exact BindsTo.of_eq rfl | exact binds_K (by k_in) rfl (by k_is) rfl rfl rfl); (case c5 => decide); (case kB => exact locs rfl); (case c2 => exact rfl); (case c3 => exact rfl); (case c4 => exact rfl); k_whole; intro g' L' h' FG' F' N' B' X' T'; (try dsimp only); (try k_lift B'); (try k_fold))
  k_steps
  all_goals (refine endI hret ?_ (by k_asm) (by k_asm) (fun _ h => h))
  all_goals f_lean
  all_goals rw [west_so hy.1 rfl rfl rfl]
  all_goals (generalize hmo : (19 * (y % 19) + 15 - (13 + 8 * (y / 100)) / 25 + y / 100 - y / 100 / 4) % 30 = moon at *)
  all_goals (generalize hwe : (2 * (y % 4) + 4 * (y % 7) + 6 * moon + 4 + y / 100 - y / 100 / 4) % 7 = week at *)
  all_goals clear hmo hwe
  all_goals (split <;> omega)
end
section
local macro_rules | `(tactic| walk_at "none of mine") => `(tactic| skip)
local macro_rules | `(tactic| walk_at "none of mine") => `(tactic| skip)
local macro_rules | `(tactic| walk_at "none of mine") => `(tactic| skip)
local macro_rules | `(tactic| walk_at "none of mine") => `(tactic| skip)
local macro_rules | `(tactic| walk_at "none of mine") => `(tactic| skip)
local macro_rules | `(tactic| walk_at "none of mine") => `(tactic| skip)
local macro_rules | `(tactic| walk_at "none of mine") => `(tactic| skip)
local macro_rules | `(tactic| walk_at "none of mine") => `(tactic| skip)
local macro_rules | `(tactic| walk_at "none of mine") => `(tactic| skip)
local macro_rules | `(tactic| walk_at "none of mine") => `(tactic| skip)
local macro_rules | `(tactic| walk_at "none of mine") => `(tactic| skip)
local macro_rules | `(tactic| walk_at "none of mine") => `(tactic| skip)
local macro_rules | `(tactic| walk_at "none of mine") => `(tactic| skip)
local macro_rules | `(tactic| walk_at "none of mine") => `(tactic| skip)
local macro_rules | `(tactic| walk_at "none of mine") => `(tactic| skip)
local macro_rules | `(tactic| walk_at "none of mine") => `(tactic| skip)
local macro_rules | `(tactic| walk_at "none of mine") => `(tactic| skip)
local macro_rules | `(tactic| walk_at "none of mine") => `(tactic| skip)
local macro_rules | `(tactic| walk_at "none of mine") => `(tactic| skip)
local macro_rules | `(tactic| walk_at "none of mine") => `(tactic| skip)
local macro_rules | `(tactic| walk_at "none of mine") => `(tactic| skip)
local macro_rules | `(tactic| walk_at "none of mine") => `(tactic| skip)
local macro_rules | `(tactic| walk_at "none of mine") => `(tactic| skip)
local macro_rules | `(tactic| walk_at "none of mine") => `(tactic| skip)
local macro_rules | `(tactic| walk_at "call ref") => `(tactic| (k_here; refine wpAny_call ?_; k_dflt (refine' code_def ?k1 ?k2 ?k3 ?k4 ?k5 ?kA ?kF ?kK ?k6 ?k7 ?k8 ?k9 ?kB ?_ ?c2 ?c3 ?c4 ?c5; (case kA => exact rfl); (case kF => exact rfl); (case kK => first | exact rfl | assumption); (case k1 => k_asm); (case k2 => k_asm); (case k3 => k_asm); (case k4 => k_asm); (case k5 => k_asm); (case k6 => k_is); (case k7 => k_is); (case k8 => ktr_room); (case k9 => first | exact BindsTo.of_eq rfl | exact binds_K (by k_in) rfl (by k_is) rfl rfl rfl); (case c5 => decide); (case kB => exact locs rfl); (case c2 => exact rfl); (case c3 => exact rfl); (case c4 => exact rfl); k_whole; intro g' L' h' FG' F' N' B' X' T'; (try dsimp only); (try k_lift B'); (try k_fold))))
theorem moons_so {g : Int} (h : 0 ≤ g ∧ g < 19) : [36, 25, 44, 33, 22, 41, 30, 49, 38, 27, 46, 35, 24, 43, 32, 21, 40, 29, 48].getD g.toNat (0 : Int) = 21 + (19 * g + 15) % 30 := by
  have hg : g = 0 ∨ g = 1 ∨ g = 2 ∨ g = 3 ∨ g = 4 ∨ g = 5 ∨ g = 6 ∨ g = 7 ∨ g = 8 ∨ g = 9 ∨ g = 10 ∨ g = 11 ∨ g = 12 ∨ g = 13 ∨ g = 14 ∨ g = 15 ∨ g = 16 ∨ g = 17 ∨ g = 18 := by omega
  rcases hg with rfl | rfl | rfl | rfl | rfl | rfl | rfl | rfl | rfl | rfl | rfl | rfl | rfl | rfl | rfl | rfl | rfl | rfl | rfl <;> decide
set_option maxRecDepth 100000 in
set_option maxHeartbeats 8000000 in
theorem c_least (w : World) (news : List (Addr × Obj)) (y l : Int) (t1 t2 : Tok) (hy : y.natAbs ≤ 2 ^ 31) (hl : l = 0 ∨ l = 1) : CG w 157 2 news [.int y t1, .int l t2] (retI news (oN y l)) := by
  unfold CG; w_top off; k_fill
  intro loose mean mg mb dp un gd cn cs a ccd cl outer A₀ base h₀ L mf s Q E B F X N0 T hk hd hu hret
  refine wpAny_call ?_
  k_dflt (refine' code_def ?k1 ?k2 ?k3 ?k4 ?k5 ?kA ?kF ?kK ?k6 ?k7 ?k8 ?k9 ?kB ?_ ?c2 ?c3 ?c4 ?c5; (case kA => exact rfl); (case kF => exact rfl); (case kK => first | exact rfl | assumption); (case k1 => k_asm); (case k2 => k_asm); (case k3 => k_asm); (case k4 => k_asm); (case k5 => k_asm); (case k6 => k_is); (case k7 => k_is); (case k8 => ktr_room); (case k9 => first | exact BindsTo.of_eq rfl | exact binds_K (by k_in) rfl (by k_is) rfl rfl rfl); (case c5 => decide); (case kB => exact locs rfl); (case c2 => exact rfl); (case c3 => exact rfl); (case c4 => exact rfl); k_whole; intro g' L' h' FG' F' N' B' X' T'; (try dsimp only); (try k_lift B'); (try k_fold))
  k_steps
  all_goals (refine endI hret ?_ (by k_asm) (by k_asm) (fun _ h => h))
  all_goals f_lean
  all_goals rw [moons_so (by omega)]
  all_goals (symm; refine east_so hl ?_; unfold eD)
  · rw [if_pos (by assumption)]; omega
  · rw [if_neg (by assumption)]; omega
end
section
local macro_rules | `(tactic| walk_at "none of mine") => `(tactic| skip)
local macro_rules | `(tactic| walk_at "none of mine") => `(tactic| skip)
local macro_rules | `(tactic| walk_at "none of mine") => `(tactic| skip)
local macro_rules | `(tactic| walk_at "none of mine") => `(tactic| skip)
local macro_rules | `(tactic| walk_at "none of mine") => `(tactic| skip)
local macro_rules | `(tactic| walk_at "none of mine") => `(tactic| skip)
local macro_rules | `(tactic| walk_at "none of mine") => `(tactic| skip)
local macro_rules | `(tactic| walk_at "none of mine") => `(tactic| skip)
local macro_rules | `(tactic| walk_at "none of mine") => `(tactic| skip)
local macro_rules | `(tactic| walk_at "none of mine") => `(tactic| skip)
local macro_rules | `(tactic| walk_at "none of mine") => `(tactic| skip)
local macro_rules | `(tactic| walk_at "none of mine") => `(tactic| skip)
local macro_rules | `(tactic| walk_at "none of mine") => `(tactic| skip)
local macro_rules | `(tactic| walk_at "none of mine") => `(tactic| skip)
local macro_rules | `(tactic| walk_at "none of mine") => `(tactic| skip)
local macro_rules | `(tactic| walk_at "none of mine") => `(tactic| skip)
local macro_rules | `(tactic| walk_at "none of mine") => `(tactic| skip)
local macro_rules | `(tactic| walk_at "none of mine") => `(tactic| skip)
local macro_rules | `(tactic| walk_at "none of mine") => `(tactic| skip)
local macro_rules | `(tactic| walk_at "none of mine") => `(tactic| skip)
local macro_rules | `(tactic| walk_at "none of mine") => `(tactic| skip)
local macro_rules | `(tactic| walk_at "none of mine") => `(tactic| skip)
local macro_rules | `(tactic| walk_at "none of mine") => `(tactic| skip)
local macro_rules | `(tactic| walk_at "none of mine") => `(tactic| skip)
local macro_rules | `(tactic| walk_at "none of mine") => `(tactic| skip)
local macro_rules | `(tactic| walk_at "none of mine") => `(tactic| skip)
local macro_rules | `(tactic| walk_at "call ref") => `(tactic| (k_here; refine wpAny_call ?_; k_dflt (refine' code_def ?k1 ?k2 ?k3 ?k4 ?k5 ?kA ?kF ?kK ?k6 ?k7 ?k8 ?k9 ?kB ?_ ?c2 ?c3 ?c4 ?c5; (case kA => exact rfl); (case kF => exact rfl); (case kK => first | exact rfl | assumption); (case k1 => k_asm); (case k2 => k_asm); (case k3 => k_asm); (case k4 => k_asm); (case k5 => k_asm); (case k6 => k_is); (case k7 => k_is); (case k8 => ktr_room); (case k9 => first | exact BindsTo.of_eq rfl | exact binds_K (by k_in) rfl (by k_is) rfl rfl rfl); (case c5 => decide); (case kB => exact locs rfl); (case c2 => exact rfl); (case c3 => exact rfl); (case c4 => exact rfl); k_whole; intro g' L' h' FG' F' N' B' X' T'; (try dsimp only); (try k_lift B'); (try k_fold))))
local macro_rules | `(tactic| walk_at "exec For Name Tuple cons nil") => `(tactic| (k_here; (rename Fr _ _ _ _ => F9y); (try dsimp only at F9y); (generalize hL9 : (_ - 1461 * _ - 365 * _ : Int) = left9 at F9y); (generalize hY9 : (400 * _ + 100 * _ + 4 * _ + _ : Int) = year9 at F9y); (have hC9 := civ_year rfl rfl rfl rfl rfl rfl rfl hL9 hY9); clear hL9 hY9; (obtain ⟨hC91, hC92, hC93, hC94⟩ := hC9)))
/-- a new tuple of three ints of which P is so, told nothing of its place -/
abbrev retC (news : List (Addr × Obj)) (P : Int → Int → Int → Prop) (h₀ : Heap) (L : Addr) (m : Str → Option Value) (s : Shared) (Q : Value → Shared → Prop) : Prop :=
  ∀ (y mo d : Int), P y mo d → ∀ (D : Addr) (t1 t2 t3 : Tok) (c : Nat) (h' : Heap) (tk' : Nat), Fr h₀ L h' m → News h₀ L h' ((D, tup3 y mo d t1 t2 t3 c) :: news) → Q (.ref D) { s with heap := h', toks := tk' }
theorem endC {h₀ h' : Heap} {L : Addr} {m : Str → Option Value} {news news' : List (Addr × Obj)} {s : Shared} {Q : Value → Shared → Prop} {tk' : Nat} {P : Int → Int → Int → Prop} {y mo d : Int} {t1 t2 t3 : Tok} {c : Nat} {D : Addr} (hret : retC news P h₀ L m s Q) (F : Fr h₀ L h' m) (N : News h₀ L h' ((D, tup3 y mo d t1 t2 t3 c) :: news')) (hs : ∀ p ∈ news, p ∈ news') (e : P y mo d) : Q (.ref D) { s with heap := h', toks := tk' } := by
  refine hret y mo d e D t1 t2 t3 c h' tk' F (fun p hp => ?_)
  rcases List.mem_cons.mp hp with rfl | hp
  · exact N _ (.head _)
  · exact N p (.tail _ (hs p hp))
set_option maxRecDepth 100000 in
set_option maxHeartbeats 8000000 in
theorem c_civil (w : World) (news : List (Addr × Obj)) (n : Int) (t1 : Tok) (hn : n.natAbs ≤ 2 ^ 40) : CG w 164 2 news [.int n t1] (retC news (fun y m d => Leg y m d ∧ gdn y m d = n)) := by
  unfold CG; w_top off; k_fill
  intro loose mean mg mb dp un gd cn cs a ccd cl outer A₀ base h₀ L mf s Q E B F X N0 T hk hd hu hret
  refine wpAny_call ?_
  k_dflt (refine' code_def ?k1 ?k2 ?k3 ?k4 ?k5 ?kA ?kF ?kK ?k6 ?k7 ?k8 ?k9 ?kB ?_ ?c2 ?c3 ?c4 ?c5; (case kA => exact rfl); (case kF => exact rfl); (case kK => first | exact rfl | assumption); (case k1 => k_asm); (case k2 => k_asm); (case k3 => k_asm); (case k4 => k_asm); (case k5 => k_asm); (case k6 => k_is); (case k7 => k_is); (case k8 => ktr_room); (case k9 => first | exact BindsTo.of_eq rfl | exact binds_K (by k_in) rfl (by k_is) rfl rfl rfl); (case c5 => decide); (case kB => exact locs rfl); (case c2 => exact rfl); (case c3 => exact rfl); (case c4 => exact rfl); k_whole; intro g' L' h' FG' F' N' B' X' T'; (try dsimp only); (try k_lift B'); (try k_fold))
  k_steps
  all_goals (refine endC hret (by k_asm) (by k_asm) (by intro p9 hp9; (repeat (first | with_reducible exact hp9 | refine List.mem_cons_of_mem _ ?_ | refine List.mem_append_right _ ?_))) ?_)
  all_goals f_lean
  all_goals (repeat ((rename Fr _ _ _ _ => hC9); clear hC9))
  all_goals (repeat ((rename News _ _ _ _ => hC9); clear hC9))
  all_goals first | exact civ_mar (by assumption) (by omega) (by omega) (by omega) ⟨by omega, by omega⟩ | exact civ_jan (by assumption) (by omega) (by omega) (by omega) (by omega) | exact civ_feb (by assumption) (by omega) (by omega) (by omega) (by assumption) (by assumption)
end
section
local macro_rules | `(tactic| walk_at "none of mine") => `(tactic| skip)
local macro_rules | `(tactic| walk_at "none of mine") => `(tactic| skip)
local macro_rules | `(tactic| walk_at "none of mine") => `(tactic| skip)
local macro_rules | `(tactic| walk_at "none of mine") => `(tactic| skip)
local macro_rules | `(tactic| walk_at "none of mine") => `(tactic| skip)
local macro_rules | `(tactic| walk_at "none of mine") => `(tactic| skip)
local macro_rules | `(tactic| walk_at "none of mine") => `(tactic| skip)
local macro_rules | `(tactic| walk_at "none of mine") => `(tactic| skip)
local macro_rules | `(tactic| walk_at "none of mine") => `(tactic| skip)
local macro_rules | `(tactic| walk_at "none of mine") => `(tactic| skip)
local macro_rules | `(tactic| walk_at "none of mine") => `(tactic| skip)
local macro_rules | `(tactic| walk_at "none of mine") => `(tactic| skip)
local macro_rules | `(tactic| walk_at "none of mine") => `(tactic| skip)
local macro_rules | `(tactic| walk_at "none of mine") => `(tactic| skip)
local macro_rules | `(tactic| walk_at "none of mine") => `(tactic| skip)
local macro_rules | `(tactic| walk_at "none of mine") => `(tactic| skip)
local macro_rules | `(tactic| walk_at "none of mine") => `(tactic| skip)
local macro_rules | `(tactic| walk_at "none of mine") => `(tactic| skip)
local macro_rules | `(tactic| walk_at "none of mine") => `(tactic| skip)
local macro_rules | `(tactic| walk_at "none of mine") => `(tactic| skip)
local macro_rules | `(tactic| walk_at "none of mine") => `(tactic| skip)
local macro_rules | `(tactic| walk_at "none of mine") => `(tactic| skip)
local macro_rules | `(tactic| walk_at "none of mine") => `(tactic| skip)
local macro_rules | `(tactic| walk_at "none of mine") => `(tactic| skip)
local macro_rules | `(tactic| walk_at "none of mine") => `(tactic| skip)
local macro_rules | `(tactic| walk_at "none of mine") => `(tactic| skip)
local macro_rules | `(tactic| walk_at "none of mine") => `(tactic| skip)
local macro_rules | `(tactic| walk_at "none of mine") => `(tactic| skip)
local macro_rules | `(tactic| walk_at "none of mine") => `(tactic| skip)
local macro_rules | `(tactic| walk_at "call ref") => `(tactic| (k_here; refine wpAny_call ?_; k_dflt (refine' code_def ?k1 ?k2 ?k3 ?k4 ?k5 ?kA ?kF ?kK ?k6 ?k7 ?k8 ?k9 ?kB ?_ ?c2 ?c3 ?c4 ?c5; (case kA => exact rfl); (case kF => exact rfl); (case kK => first | exact rfl | assumption); (case k1 => k_asm); (case k2 => k_asm); (case k3 => k_asm); (case k4 => k_asm); (case k5 => k_asm); (case k6 => k_is); (case k7 => k_is); (case k8 => ktr_room); (case k9 => first | exact BindsTo.of_eq rfl | exact binds_K (by k_in) rfl (by k_is) rfl rfl rfl); (case c5 => decide); (case kB => exact locs rfl); (case c2 => exact rfl); (case c3 => exact rfl); (case c4 => exact rfl); k_whole; intro g' L' h' FG' F' N' B' X' T'; (try dsimp only); (try k_lift B'); (try k_fold))))
local macro_rules | `(tactic| walk_at "eval ListComp") => `(tactic| (k_here; k_dflt (refine ListComp_TT (by k_asm) (by with_unfolding_all rfl) (by decide) (by rfl) (by decide) (by rfl) ?_)))
local macro_rules | `(tactic| walk_at "SrcTT") => `(tactic| (k_here; k_dflt (refine SrcTT.mk' tupAt_mem (by assumption) (by rfl) (by k_asm) (by k_asm) (by first | size_fits | exact Nat.le_of_ble_eq_true rfl) ?_); intro g'; lct_lit))
local macro_rules | `(tactic| walk_at "CompEnd") => `(tactic| (k_here; (refine PyProof.Rows.LCg.CompEnd.intro (by k_asm) (by k_asm) _ (fun _ h => h) (by assumption) (by assumption) ?_)))
set_option maxRecDepth 100000 in
set_option maxHeartbeats 8000000 in
theorem c_plain (w : World) (news : List (Addr × Obj)) (D : Addr) (y m d : Int) (ta tb tc : Tok) (c : Nat) (hM : (D, tup3 y m d ta tb tc c) ∈ news) : CG w 169 3 news [.ref D] (retB news true) := by
  unfold CG; w_top off; k_fill
  intro loose mean mg mb dp un gd cn cs a ccd cl outer A₀ base h₀ L mf s Q E B F X N0 T hk hd hu hret
  refine wpAny_call ?_
  k_dflt (refine' code_def ?k1 ?k2 ?k3 ?k4 ?k5 ?kA ?kF ?kK ?k6 ?k7 ?k8 ?k9 ?kB ?_ ?c2 ?c3 ?c4 ?c5; (case kA => exact rfl); (case kF => exact rfl); (case kK => first | exact rfl | assumption); (case k1 => k_asm); (case k2 => k_asm); (case k3 => k_asm); (case k4 => k_asm); (case k5 => k_asm); (case k6 => k_is); (case k7 => k_is); (case k8 => ktr_room); (case k9 => first | exact BindsTo.of_eq rfl | exact binds_K (by k_in) rfl (by k_is) rfl rfl rfl); (case c5 => decide); (case kB => exact locs rfl); (case c2 => exact rfl); (case c3 => exact rfl); (case c4 => exact rfl); k_whole; intro g' L' h' FG' F' N' B' X' T'; (try dsimp only); (try k_lift B'); (try k_fold))
  k_steps
  all_goals (refine endB hret (by decide) (by k_asm) (by k_asm) (fun _ h => .tail _ h))
end
section
local macro_rules | `(tactic| walk_at "none of mine") => `(tactic| skip)
local macro_rules | `(tactic| walk_at "none of mine") => `(tactic| skip)
local macro_rules | `(tactic| walk_at "none of mine") => `(tactic| skip)
local macro_rules | `(tactic| walk_at "none of mine") => `(tactic| skip)
local macro_rules | `(tactic| walk_at "none of mine") => `(tactic| skip)
local macro_rules | `(tactic| walk_at "none of mine") => `(tactic| skip)
local macro_rules | `(tactic| walk_at "none of mine") => `(tactic| skip)
local macro_rules | `(tactic| walk_at "none of mine") => `(tactic| skip)
local macro_rules | `(tactic| walk_at "none of mine") => `(tactic| skip)
local macro_rules | `(tactic| walk_at "none of mine") => `(tactic| skip)
local macro_rules | `(tactic| walk_at "none of mine") => `(tactic| skip)
local macro_rules | `(tactic| walk_at "none of mine") => `(tactic| skip)
local macro_rules | `(tactic| walk_at "none of mine") => `(tactic| skip)
local macro_rules | `(tactic| walk_at "none of mine") => `(tactic| skip)
local macro_rules | `(tactic| walk_at "none of mine") => `(tactic| skip)
local macro_rules | `(tactic| walk_at "none of mine") => `(tactic| skip)
local macro_rules | `(tactic| walk_at "none of mine") => `(tactic| skip)
local macro_rules | `(tactic| walk_at "none of mine") => `(tactic| skip)
local macro_rules | `(tactic| walk_at "none of mine") => `(tactic| skip)
local macro_rules | `(tactic| walk_at "none of mine") => `(tactic| skip)
local macro_rules | `(tactic| walk_at "none of mine") => `(tactic| skip)
local macro_rules | `(tactic| walk_at "none of mine") => `(tactic| skip)
local macro_rules | `(tactic| walk_at "none of mine") => `(tactic| skip)
local macro_rules | `(tactic| walk_at "none of mine") => `(tactic| skip)
local macro_rules | `(tactic| walk_at "none of mine") => `(tactic| skip)
local macro_rules | `(tactic| walk_at "none of mine") => `(tactic| skip)
local macro_rules | `(tactic| walk_at "none of mine") => `(tactic| skip)
local macro_rules | `(tactic| walk_at "none of mine") => `(tactic| skip)
local macro_rules | `(tactic| walk_at "none of mine") => `(tactic| skip)
local macro_rules | `(tactic| walk_at "none of mine") => `(tactic| skip)
local macro_rules | `(tactic| walk_at "none of mine") => `(tactic| skip)
local macro_rules | `(tactic| walk_at "none of mine") => `(tactic| skip)
local macro_rules | `(tactic| walk_at "none of mine") => `(tactic| skip)
local macro_rules | `(tactic| walk_at "none of mine") => `(tactic| skip)
local macro_rules | `(tactic| walk_at "subscriptTail") => `(tactic| (k_here; (with_reducible show wpAny _ _ (subscriptTail _ _ (Value.ref _) (Value.int _ _)) _ _ _); k_dflt (refine' item_tupleT ?t ?a ?b ?c ?d ?_; (case t => exact News.isTup (by k_asm) (by first | assumption | exact List.Mem.tail _ (by assumption) | exact List.Mem.tail _ (List.Mem.tail _ (by assumption)))); (case a => decide); (case b => decide); (case c => rfl); (case d => rfl); k_whole)))
local macro_rules | `(tactic| walk_at "call ref") => `(tactic| (k_here; (with_reducible show wpAny _ _ (call (Value.ref 169) _) _ _ _); k_dflt (refine' (c_plain _ _ _ _ _ _ _ _ _ _ ?km) _ _ _ _ _ _ _ _ _ _ _ _ _ _ _ _ _ _ _ _ _ ?k1 ?k2 ?k3 ?k4 ?k5 ?k6 ?k7 ?k8 ?_; (case k1 => k_asm); (case k2 => k_asm); (case k3 => k_asm); (case k4 => k_asm); (case k5 => k_asm); (case k6 => first | exact rfl | assumption); (case k7 => ktr_room); (case k8 => ktr_units); (case km => first | assumption | k_mem)); intro h9 tk9 F9 N9; (try dsimp only); (try k_fold)))
local macro_rules | `(tactic| walk_at "call ref") => `(tactic| (k_here; (with_reducible show wpAny _ _ (call (Value.ref 64) _) _ _ _); k_dflt (refine' (c_to_jd_b _ _ _ _ _ _ _ _ ?k0 ?ka ?kb) _ _ _ _ _ _ _ _ _ _ _ _ _ _ _ _ _ _ _ _ _ ?k1 ?k2 ?k3 ?k4 ?k5 ?k6 ?k7 ?k8 ?_; (case k0 => assumption); (case ka => assumption); (case kb => assumption); (case k1 => k_asm); (case k2 => k_asm); (case k3 => k_asm); (case k4 => k_asm); (case k5 => k_asm); (case k6 => first | exact rfl | assumption); (case k7 => ktr_room); (case k8 => ktr_units)); intro z9 hz9 hb9 t9 h9 tk9 F9 N9; (try dsimp only); (try k_fold)))
set_option maxRecDepth 100000 in
set_option maxHeartbeats 8000000 in
theorem c_lday (w : World) (news : List (Addr × Obj)) (D : Addr) (y mo d : Int) (ta tb tc : Tok) (c : Nat) (hM : (D, tup3 y mo d ta tb tc c) ∈ news) (hy : y.natAbs ≤ 2 ^ 32) (hm : 1 ≤ mo ∧ mo ≤ 12) (hdd : 0 < d ∧ d ≤ mlen y mo) (n : Int) (he : gdn y mo d = n) : CG w 176 4 news [.ref D] (retI news n) := by
  unfold CG; w_top off; k_fill
  intro loose mean mg mb dp un gd cn cs a ccd cl outer A₀ base h₀ L mf s Q E B F X N0 T hk hd hu hret
  refine wpAny_call ?_
  k_dflt (refine' code_def ?k1 ?k2 ?k3 ?k4 ?k5 ?kA ?kF ?kK ?k6 ?k7 ?k8 ?k9 ?kB ?_ ?c2 ?c3 ?c4 ?c5; (case kA => exact rfl); (case kF => exact rfl); (case kK => first | exact rfl | assumption); (case k1 => k_asm); (case k2 => k_asm); (case k3 => k_asm); (case k4 => k_asm); (case k5 => k_asm); (case k6 => k_is); (case k7 => k_is); (case k8 => ktr_room); (case k9 => first | exact BindsTo.of_eq rfl | exact binds_K (by k_in) rfl (by k_is) rfl rfl rfl); (case c5 => decide); (case kB => exact locs rfl); (case c2 => exact rfl); (case c3 => exact rfl); (case c4 => exact rfl); k_whole; intro g' L' h' FG' F' N' B' X' T'; (try dsimp only); (try k_lift B'); (try k_fold))
  k_steps
  all_goals (refine endI hret ?_ (by k_asm) (by k_asm) (fun _ h => h))
  all_goals (f_lean; omega)
end
section
local macro_rules | `(tactic| walk_at "none of mine") => `(tactic| skip)
local macro_rules | `(tactic| walk_at "none of mine") => `(tactic| skip)
local macro_rules | `(tactic| walk_at "none of mine") => `(tactic| skip)
local macro_rules | `(tactic| walk_at "none of mine") => `(tactic| skip)
local macro_rules | `(tactic| walk_at "none of mine") => `(tactic| skip)
local macro_rules | `(tactic| walk_at "none of mine") => `(tactic| skip)
local macro_rules | `(tactic| walk_at "none of mine") => `(tactic| skip)
local macro_rules | `(tactic| walk_at "none of mine") => `(tactic| skip)
local macro_rules | `(tactic| walk_at "none of mine") => `(tactic| skip)
local macro_rules | `(tactic| walk_at "none of mine") => `(tactic| skip)
local macro_rules | `(tactic| walk_at "none of mine") => `(tactic| skip)
local macro_rules | `(tactic| walk_at "none of mine") => `(tactic| skip)
local macro_rules | `(tactic| walk_at "none of mine") => `(tactic| skip)
local macro_rules | `(tactic| walk_at "none of mine") => `(tactic| skip)
local macro_rules | `(tactic| walk_at "none of mine") => `(tactic| skip)
local macro_rules | `(tactic| walk_at "none of mine") => `(tactic| skip)
local macro_rules | `(tactic| walk_at "none of mine") => `(tactic| skip)
local macro_rules | `(tactic| walk_at "none of mine") => `(tactic| skip)
local macro_rules | `(tactic| walk_at "none of mine") => `(tactic| skip)
local macro_rules | `(tactic| walk_at "none of mine") => `(tactic| skip)
local macro_rules | `(tactic| walk_at "none of mine") => `(tactic| skip)
local macro_rules | `(tactic| walk_at "none of mine") => `(tactic| skip)
local macro_rules | `(tactic| walk_at "none of mine") => `(tactic| skip)
local macro_rules | `(tactic| walk_at "none of mine") => `(tactic| skip)
local macro_rules | `(tactic| walk_at "none of mine") => `(tactic| skip)
local macro_rules | `(tactic| walk_at "none of mine") => `(tactic| skip)
local macro_rules | `(tactic| walk_at "none of mine") => `(tactic| skip)
local macro_rules | `(tactic| walk_at "none of mine") => `(tactic| skip)
local macro_rules | `(tactic| walk_at "none of mine") => `(tactic| skip)
local macro_rules | `(tactic| walk_at "none of mine") => `(tactic| skip)
local macro_rules | `(tactic| walk_at "none of mine") => `(tactic| skip)
local macro_rules | `(tactic| walk_at "none of mine") => `(tactic| skip)
local macro_rules | `(tactic| walk_at "none of mine") => `(tactic| skip)
local macro_rules | `(tactic| walk_at "none of mine") => `(tactic| skip)
local macro_rules | `(tactic| walk_at "none of mine") => `(tactic| skip)
local macro_rules | `(tactic| walk_at "none of mine") => `(tactic| skip)
local macro_rules | `(tactic| walk_at "none of mine") => `(tactic| skip)
local macro_rules | `(tactic| walk_at "none of mine") => `(tactic| skip)
section
open PyProof.V PySem.Spec
variable {prog : Program} {w : World} {A : Around} {E : Value → Shared → Prop} {s : Shared} {a b : Addr} {h₀ : Heap} {L : Addr} {nw : List (Addr × Obj)} {Q : Value → Shared → Prop} {y m d y' m' d' : Int} {t1 t2 t3 u1 u2 u3 : Tok} {c c' : Nat}
/-- two equal dates -/
theorem eq3 (N : News h₀ L s.heap nw) (ma : (a, tup3 y m d t1 t2 t3 c) ∈ nw) (mb : (b, tup3 y' m' d' u1 u2 u3 c') ∈ nw) (hu : A.units + 64 < cLine) (e : y = y' ∧ m = m' ∧ d = d') (h : Q (.bool true) s) :
    wpAny (model prog w) A (compareOp .Eq (.ref a) (.ref b)) Q E s := by
  obtain ⟨rfl, rfl, rfl⟩ := e
  refine eq_dataH (reads_tuple_at (N.get ma) rfl rfl (ReadsAll.cons (Reads.int _ _) (ReadsAll.cons (Reads.int _ _) (ReadsAll.cons (Reads.int _ _) ReadsAll.nil)))) (reads_tuple_at (N.get mb) rfl rfl (ReadsAll.cons (Reads.int _ _) (ReadsAll.cons (Reads.int _ _) (ReadsAll.cons (Reads.int _ _) ReadsAll.nil)))) rfl rfl hu ?_
  simp only [PyData.eqv, PyData.eqvAll, beq_self_eq_true, Bool.and_true, Bool.true_and, decide_true]
  exact h
theorem ne3 (N : News h₀ L s.heap nw) (ma : (a, tup3 y m d t1 t2 t3 c) ∈ nw) (mb : (b, tup3 y' m' d' u1 u2 u3 c') ∈ nw) (hu : A.units + 64 < cLine) (e : y = y' ∧ m = m' ∧ d = d') (h : Q (.bool false) s) :
    wpAny (model prog w) A (compareOp .NotEq (.ref a) (.ref b)) Q E s := by
  obtain ⟨rfl, rfl, rfl⟩ := e
  refine ne_dataH (reads_tuple_at (N.get ma) rfl rfl (ReadsAll.cons (Reads.int _ _) (ReadsAll.cons (Reads.int _ _) (ReadsAll.cons (Reads.int _ _) ReadsAll.nil)))) (reads_tuple_at (N.get mb) rfl rfl (ReadsAll.cons (Reads.int _ _) (ReadsAll.cons (Reads.int _ _) (ReadsAll.cons (Reads.int _ _) ReadsAll.nil)))) rfl rfl hu ?_
  simp only [PyData.eqv, PyData.eqvAll, beq_self_eq_true, Bool.and_true, Bool.true_and, decide_true, Bool.not_true]
  exact h
end
local macro_rules | `(tactic| walk_at "call ref") => `(tactic| (k_here; (with_reducible show wpAny _ _ (call (Value.ref 164) _) _ _ _); k_dflt (refine' (c_civil _ _ _ _ ?k0) _ _ _ _ _ _ _ _ _ _ _ _ _ _ _ _ _ _ _ _ _ ?k1 ?k2 ?k3 ?k4 ?k5 ?k6 ?k7 ?k8 ?_; (case k0 => assumption); (case k1 => k_asm); (case k2 => k_asm); (case k3 => k_asm); (case k4 => k_asm); (case k5 => k_asm); (case k6 => first | exact rfl | assumption); (case k7 => ktr_room); (case k8 => ktr_units)); intro y9 m9 d9 hP9 D9 ta9 tb9 tc9 c9 h9 tk9 F9 N9; (try dsimp only); (try k_fold)))
local macro_rules | `(tactic| walk_at "compareOp Eq ref ref") => `(tactic| (k_here; k_dflt (refine' eq3 ?N ?a ?b ?u ?e ?_; (case N => k_asm); (case a => first | assumption | exact List.Mem.tail _ (by assumption) | k_mem); (case b => first | exact .head _ | k_mem); (case u => ktr_units); (case e => first | exact gdn_one (by assumption) (by assumption) (by assumption) | (rename (Leg _ _ _ ∧ _) => hP9; exact gdn_one (by assumption) hP9.1 (by rw [hP9.2]; assumption)))); (try dsimp only)))
set_option maxRecDepth 100000 in
set_option maxHeartbeats 8000000 in
theorem c_so (w : World) (news : List (Addr × Obj)) (D : Addr) (y mo d n : Int) (ta tb tc t1 t2 : Tok) (c : Nat) (hM : (D, tup3 y mo d ta tb tc c) ∈ news) (hL : Leg y mo d) (hn : n.natAbs ≤ 2 ^ 40) (he : gdn y mo d = n) : CG w 183 12 news [.ref D, .int n t1, .int n t2] (retB news true) := by
  unfold CG; w_top off; k_fill
  intro loose mean mg mb dp un gd cn cs a ccd cl outer A₀ base h₀ L mf s Q E B F X N0 T hk hd hu hret
  refine wpAny_call ?_
  k_dflt (refine' code_def ?k1 ?k2 ?k3 ?k4 ?k5 ?kA ?kF ?kK ?k6 ?k7 ?k8 ?k9 ?kB ?_ ?c2 ?c3 ?c4 ?c5; (case kA => exact rfl); (case kF => exact rfl); (case kK => first | exact rfl | assumption); (case k1 => k_asm); (case k2 => k_asm); (case k3 => k_asm); (case k4 => k_asm); (case k5 => k_asm); (case k6 => k_is); (case k7 => k_is); (case k8 => ktr_room); (case k9 => first | exact BindsTo.of_eq rfl | exact binds_K (by k_in) rfl (by k_is) rfl rfl rfl); (case c5 => decide); (case kB => exact locs rfl); (case c2 => exact rfl); (case c3 => exact rfl); (case c4 => exact rfl); k_whole; intro g' L' h' FG' F' N' B' X' T'; (try dsimp only); (try k_lift B'); (try k_fold))
  k_steps
  all_goals (refine endB hret ?_ (by k_asm) (by k_asm) (fun _ h => .tail _ h))
  all_goals rfl
end
section
local macro_rules | `(tactic| walk_at "none of mine") => `(tactic| skip)
local macro_rules | `(tactic| walk_at "none of mine") => `(tactic| skip)
local macro_rules | `(tactic| walk_at "none of mine") => `(tactic| skip)
local macro_rules | `(tactic| walk_at "none of mine") => `(tactic| skip)
local macro_rules | `(tactic| walk_at "none of mine") => `(tactic| skip)
local macro_rules | `(tactic| walk_at "none of mine") => `(tactic| skip)
local macro_rules | `(tactic| walk_at "none of mine") => `(tactic| skip)
local macro_rules | `(tactic| walk_at "none of mine") => `(tactic| skip)
local macro_rules | `(tactic| walk_at "none of mine") => `(tactic| skip)
local macro_rules | `(tactic| walk_at "none of mine") => `(tactic| skip)
local macro_rules | `(tactic| walk_at "none of mine") => `(tactic| skip)
local macro_rules | `(tactic| walk_at "none of mine") => `(tactic| skip)
local macro_rules | `(tactic| walk_at "none of mine") => `(tactic| skip)
local macro_rules | `(tactic| walk_at "none of mine") => `(tactic| skip)
local macro_rules | `(tactic| walk_at "none of mine") => `(tactic| skip)
local macro_rules | `(tactic| walk_at "none of mine") => `(tactic| skip)
local macro_rules | `(tactic| walk_at "none of mine") => `(tactic| skip)
local macro_rules | `(tactic| walk_at "none of mine") => `(tactic| skip)
local macro_rules | `(tactic| walk_at "none of mine") => `(tactic| skip)
local macro_rules | `(tactic| walk_at "none of mine") => `(tactic| skip)
local macro_rules | `(tactic| walk_at "none of mine") => `(tactic| skip)
local macro_rules | `(tactic| walk_at "none of mine") => `(tactic| skip)
local macro_rules | `(tactic| walk_at "none of mine") => `(tactic| skip)
local macro_rules | `(tactic| walk_at "none of mine") => `(tactic| skip)
local macro_rules | `(tactic| walk_at "none of mine") => `(tactic| skip)
local macro_rules | `(tactic| walk_at "none of mine") => `(tactic| skip)
local macro_rules | `(tactic| walk_at "none of mine") => `(tactic| skip)
local macro_rules | `(tactic| walk_at "none of mine") => `(tactic| skip)
local macro_rules | `(tactic| walk_at "none of mine") => `(tactic| skip)
local macro_rules | `(tactic| walk_at "none of mine") => `(tactic| skip)
local macro_rules | `(tactic| walk_at "none of mine") => `(tactic| skip)
local macro_rules | `(tactic| walk_at "none of mine") => `(tactic| skip)
local macro_rules | `(tactic| walk_at "none of mine") => `(tactic| skip)
local macro_rules | `(tactic| walk_at "none of mine") => `(tactic| skip)
local macro_rules | `(tactic| walk_at "none of mine") => `(tactic| skip)
local macro_rules | `(tactic| walk_at "none of mine") => `(tactic| skip)
local macro_rules | `(tactic| walk_at "none of mine") => `(tactic| skip)
local macro_rules | `(tactic| walk_at "none of mine") => `(tactic| skip)
local macro_rules | `(tactic| walk_at "none of mine") => `(tactic| skip)
local macro_rules | `(tactic| walk_at "none of mine") => `(tactic| skip)
local macro_rules | `(tactic| walk_at "none of mine") => `(tactic| skip)
local macro_rules | `(tactic| walk_at "call ref") => `(tactic| (k_here; k_dflt (refine' (c_ej0 _ _ _ _) _ _ _ _ _ _ _ _ _ _ _ _ _ _ _ _ _ _ _ _ _ ?k1 ?k2 ?k3 ?k4 ?k5 ?k6 ?k7 ?k8 ?_; (case k1 => k_asm); (case k2 => k_asm); (case k3 => k_asm); (case k4 => k_asm); (case k5 => k_asm); (case k6 => first | exact rfl | assumption); (case k7 => ktr_room); (case k8 => ktr_units)); intro y9 m9 d9 hP9 D9 ta9 tb9 tc9 c9 h9 tk9 F9 N9 l9; (obtain ⟨e19, e29, e39⟩ := hP9); (replace e19 := Eq.symm e19); subst e19; (have hj9 := jm_cases (eM_range (Or.inl rfl)) e29 e39); (try dsimp only); (try k_fold)))
local macro_rules | `(tactic| walk_at "call ref") => `(tactic| (k_here; k_dflt (refine' (c_to_greg _ _ _ _ _ _ _ _ ?ka ?kb) _ _ _ _ _ _ _ _ _ _ _ _ _ _ _ _ _ _ _ _ _ ?k1 ?k2 ?k3 ?k4 ?k5 ?k6 ?k7 ?k8 ?_; (case ka => assumption); (case kb => assumption); (case k1 => k_asm); (case k2 => k_asm); (case k3 => k_asm); (case k4 => k_asm); (case k5 => k_asm); (case k6 => first | exact rfl | assumption); (case k7 => ktr_room); (case k8 => ktr_units)); intro y9 m9 d9 hP9 D9 ta9 tb9 tc9 c9 h9 tk9 F9 N9 l9; (try dsimp only); (try k_fold)))
local macro_rules | `(tactic| walk_at "call ref") => `(tactic| (k_here; k_dflt (refine' (c_west _ _ _ _ ?ka) _ _ _ _ _ _ _ _ _ _ _ _ _ _ _ _ _ _ _ _ _ ?k1 ?k2 ?k3 ?k4 ?k5 ?k6 ?k7 ?k8 ?_; (case ka => assumption); (case k1 => k_asm); (case k2 => k_asm); (case k3 => k_asm); (case k4 => k_asm); (case k5 => k_asm); (case k6 => first | exact rfl | assumption); (case k7 => ktr_room); (case k8 => ktr_units)); intro y9 m9 d9 hP9 D9 ta9 tb9 tc9 c9 h9 tk9 F9 N9 l9; (try dsimp only); (try k_fold)))
set_option maxRecDepth 100000 in
set_option maxHeartbeats 8000000 in
theorem c_easter1 (w : World) (news : List (Addr × Obj)) (y : Int) (t1 : Tok) (hy : 1583 ≤ y ∧ y ≤ 2 ^ 31) : CG w 115 8 news [.int y t1] (retT news (fun y' m' d' => y' = y ∧ ((wL y ≤ 3 ∧ m' = 3 ∧ d' = wL y + 28) ∨ (3 < wL y ∧ m' = 4 ∧ d' = wL y - 3)))) := by
  unfold CG; w_top off; k_fill
  intro loose mean mg mb dp un gd cn cs a ccd cl outer A₀ base h₀ L mf s Q E B F X N0 T hk hd hu hret
  refine wpAny_call ?_
  k_dflt (refine' code_def ?k1 ?k2 ?k3 ?k4 ?k5 ?kA ?kF ?kK ?k6 ?k7 ?k8 ?k9 ?kB ?_ ?c2 ?c3 ?c4 ?c5; (case kA => exact rfl); (case kF => exact rfl); (case kK => first | exact rfl | assumption); (case k1 => k_asm); (case k2 => k_asm); (case k3 => k_asm); (case k4 => k_asm); (case k5 => k_asm); (case k6 => k_is); (case k7 => k_is); (case k8 => ktr_room); (case k9 => first | exact BindsTo.of_eq rfl | exact binds_K (by k_in) rfl (by k_is) rfl rfl rfl); (case c5 => decide); (case kB => exact locs rfl); (case c2 => exact rfl); (case c3 => exact rfl); (case c4 => exact rfl); k_whole; intro g' L' h' FG' F' N' B' X' T'; (try dsimp only); (try k_lift B'); (try k_fold))
  k_steps
  all_goals (refine endT hret ?_ (by k_asm) (by k_asm) (by first | assumption | exact (show AllLt _ (_ :: _) from by assumption).2) (by first | exact fun _ h => h | exact fun _ h => .tail _ h))
  all_goals assumption
end
section
local macro_rules | `(tactic| walk_at "none of mine") => `(tactic| skip)
local macro_rules | `(tactic| walk_at "none of mine") => `(tactic| skip)
local macro_rules | `(tactic| walk_at "none of mine") => `(tactic| skip)
local macro_rules | `(tactic| walk_at "none of mine") => `(tactic| skip)
local macro_rules | `(tactic| walk_at "none of mine") => `(tactic| skip)
local macro_rules | `(tactic| walk_at "none of mine") => `(tactic| skip)
local macro_rules | `(tactic| walk_at "none of mine") => `(tactic| skip)
local macro_rules | `(tactic| walk_at "none of mine") => `(tactic| skip)
local macro_rules | `(tactic| walk_at "none of mine") => `(tactic| skip)
local macro_rules | `(tactic| walk_at "none of mine") => `(tactic| skip)
local macro_rules | `(tactic| walk_at "none of mine") => `(tactic| skip)
local macro_rules | `(tactic| walk_at "none of mine") => `(tactic| skip)
local macro_rules | `(tactic| walk_at "none of mine") => `(tactic| skip)
local macro_rules | `(tactic| walk_at "none of mine") => `(tactic| skip)
local macro_rules | `(tactic| walk_at "none of mine") => `(tactic| skip)
local macro_rules | `(tactic| walk_at "none of mine") => `(tactic| skip)
local macro_rules | `(tactic| walk_at "none of mine") => `(tactic| skip)
local macro_rules | `(tactic| walk_at "none of mine") => `(tactic| skip)
local macro_rules | `(tactic| walk_at "none of mine") => `(tactic| skip)
local macro_rules | `(tactic| walk_at "none of mine") => `(tactic| skip)
local macro_rules | `(tactic| walk_at "none of mine") => `(tactic| skip)
local macro_rules | `(tactic| walk_at "none of mine") => `(tactic| skip)
local macro_rules | `(tactic| walk_at "none of mine") => `(tactic| skip)
local macro_rules | `(tactic| walk_at "none of mine") => `(tactic| skip)
local macro_rules | `(tactic| walk_at "none of mine") => `(tactic| skip)
local macro_rules | `(tactic| walk_at "none of mine") => `(tactic| skip)
local macro_rules | `(tactic| walk_at "none of mine") => `(tactic| skip)
local macro_rules | `(tactic| walk_at "none of mine") => `(tactic| skip)
local macro_rules | `(tactic| walk_at "none of mine") => `(tactic| skip)
local macro_rules | `(tactic| walk_at "none of mine") => `(tactic| skip)
local macro_rules | `(tactic| walk_at "none of mine") => `(tactic| skip)
local macro_rules | `(tactic| walk_at "none of mine") => `(tactic| skip)
local macro_rules | `(tactic| walk_at "none of mine") => `(tactic| skip)
local macro_rules | `(tactic| walk_at "none of mine") => `(tactic| skip)
local macro_rules | `(tactic| walk_at "none of mine") => `(tactic| skip)
local macro_rules | `(tactic| walk_at "none of mine") => `(tactic| skip)
local macro_rules | `(tactic| walk_at "none of mine") => `(tactic| skip)
local macro_rules | `(tactic| walk_at "none of mine") => `(tactic| skip)
local macro_rules | `(tactic| walk_at "none of mine") => `(tactic| skip)
local macro_rules | `(tactic| walk_at "none of mine") => `(tactic| skip)
local macro_rules | `(tactic| walk_at "none of mine") => `(tactic| skip)
local macro_rules | `(tactic| walk_at "none of mine") => `(tactic| skip)
local macro_rules | `(tactic| walk_at "none of mine") => `(tactic| skip)
local macro_rules | `(tactic| walk_at "none of mine") => `(tactic| skip)
local macro_rules | `(tactic| walk_at "none of mine") => `(tactic| skip)
section
variable {w : World} {h : Heap}
theorem weeks_tup (X : (hd.heap_39 w.params).In h) : IsTup h 141 #[.ref 131, .ref 132, .ref 133, .ref 134, .ref 135, .ref 136, .ref 137, .ref 138, .ref 139, .ref 140] := tupK (l := [.ref 131, .ref 132, .ref 133, .ref 134, .ref 135, .ref 136, .ref 137, .ref 138, .ref 139, .ref 140]) X rfl
theorem week_tup (X : (hd.heap_39 w.params).In h) {k : Int} (hk : 0 ≤ k ∧ k ≤ 9) : ∃ t u, IsTup h (131 + k.toNat) #[.int (tlo k) t, .int (thi k) u] := by
  have : k = 0 ∨ k = 1 ∨ k = 2 ∨ k = 3 ∨ k = 4 ∨ k = 5 ∨ k = 6 ∨ k = 7 ∨ k = 8 ∨ k = 9 := by omega
  rcases this with rfl | rfl | rfl | rfl | rfl | rfl | rfl | rfl | rfl | rfl
  · exact ⟨555, 556, tupK (l := [.int 1583 555, .int 2698 556]) X rfl⟩
  · exact ⟨557, 558, tupK (l := [.int 1586 557, .int 4860 558]) X rfl⟩
  · exact ⟨559, 560, tupK (l := [.int 2725 559, .int 6483 560]) X rfl⟩
  · exact ⟨561, 562, tupK (l := [.int 4995 561, .int 6893 562]) X rfl⟩
  · exact ⟨563, 564, tupK (l := [.int 1584 563, .int 2092 564]) X rfl⟩
  · exact ⟨565, 566, tupK (l := [.int 1595 565, .int 4294 566]) X rfl⟩
  · exact ⟨567, 568, tupK (l := [.int 2437 567, .int 6395 568]) X rfl⟩
  · exact ⟨569, 570, tupK (l := [.int 4609 569, .int 8594 570]) X rfl⟩
  · exact ⟨571, 572, tupK (l := [.int 6808 571, .int 10793 572]) X rfl⟩
  · exact ⟨573, 574, tupK (l := [.int 8601 573, .int 12840 574]) X rfl⟩
variable {prog : Program} {A : Around} {E : Value → Shared → Prop} {s : Shared} {h₀ : Heap} {L : Addr} {m : Str → Option Value} {Q : Value → Shared → Prop} {k : Int} {t : Tok}
theorem weeks_item {v slice : PySem.Expr} (X : (hd.heap_39 w.params).In h₀) (F : Fr h₀ L s.heap m) (hk : 0 ≤ k ∧ k ≤ 9) (hs : ∀ o i, subscripted slice false o i = operate [o, i] (getItem o i)) (h : Q (.ref (131 + k.toNat)) s) : wpAny (model prog w) A (subscriptTail v slice (.ref 141) (.int k t)) Q E s := by
  have T := weeks_tup (X.keeps F.keep)
  have : k = 0 ∨ k = 1 ∨ k = 2 ∨ k = 3 ∨ k = 4 ∨ k = 5 ∨ k = 6 ∨ k = 7 ∨ k = 8 ∨ k = 9 := by omega
  rcases this with rfl | rfl | rfl | rfl | rfl | rfl | rfl | rfl | rfl | rfl <;> exact item_tupleT (l := [.ref 131, .ref 132, .ref 133, .ref 134, .ref 135, .ref 136, .ref 137, .ref 138, .ref 139, .ref 140]) T (by decide) (by decide) rfl rfl h (hs _ _)
theorem week_lo {v slice : PySem.Expr} (X : (hd.heap_39 w.params).In h₀) (F : Fr h₀ L s.heap m) (hk : 0 ≤ k ∧ k ≤ 9) (hs : ∀ o i, subscripted slice false o i = operate [o, i] (getItem o i)) (h : ∀ t, Q (.int (tlo k) t) s) : wpAny (model prog w) A (subscriptTail v slice (.ref (131 + k.toNat)) (.int 0 t)) Q E s := by
  obtain ⟨t1, u1, T⟩ := week_tup (X.keeps F.keep) hk
  exact item_tupleT (l := [.int (tlo k) t1, .int (thi k) u1]) T (by decide) (by decide) rfl rfl (h t1) (hs _ _)
theorem week_hi {v slice : PySem.Expr} (X : (hd.heap_39 w.params).In h₀) (F : Fr h₀ L s.heap m) (hk : 0 ≤ k ∧ k ≤ 9) (hs : ∀ o i, subscripted slice false o i = operate [o, i] (getItem o i)) (h : ∀ t, Q (.int (thi k) t) s) : wpAny (model prog w) A (subscriptTail v slice (.ref (131 + k.toNat)) (.int 1 t)) Q E s := by
  obtain ⟨t1, u1, T⟩ := week_tup (X.keeps F.keep) hk
  exact item_tupleT (l := [.int (tlo k) t1, .int (thi k) u1]) T (by decide) (by decide) rfl rfl (h u1) (hs _ _)
end
end
section
local macro_rules | `(tactic| walk_at "none of mine") => `(tactic| skip)
local macro_rules | `(tactic| walk_at "none of mine") => `(tactic| skip)
local macro_rules | `(tactic| walk_at "none of mine") => `(tactic| skip)
local macro_rules | `(tactic| walk_at "none of mine") => `(tactic| skip)
local macro_rules | `(tactic| walk_at "none of mine") => `(tactic| skip)
local macro_rules | `(tactic| walk_at "none of mine") => `(tactic| skip)
local macro_rules | `(tactic| walk_at "none of mine") => `(tactic| skip)
local macro_rules | `(tactic| walk_at "none of mine") => `(tactic| skip)
local macro_rules | `(tactic| walk_at "none of mine") => `(tactic| skip)
local macro_rules | `(tactic| walk_at "none of mine") => `(tactic| skip)
local macro_rules | `(tactic| walk_at "none of mine") => `(tactic| skip)
local macro_rules | `(tactic| walk_at "none of mine") => `(tactic| skip)
local macro_rules | `(tactic| walk_at "none of mine") => `(tactic| skip)
local macro_rules | `(tactic| walk_at "none of mine") => `(tactic| skip)
local macro_rules | `(tactic| walk_at "none of mine") => `(tactic| skip)
local macro_rules | `(tactic| walk_at "none of mine") => `(tactic| skip)
local macro_rules | `(tactic| walk_at "none of mine") => `(tactic| skip)
local macro_rules | `(tactic| walk_at "none of mine") => `(tactic| skip)
local macro_rules | `(tactic| walk_at "none of mine") => `(tactic| skip)
local macro_rules | `(tactic| walk_at "none of mine") => `(tactic| skip)
local macro_rules | `(tactic| walk_at "none of mine") => `(tactic| skip)
local macro_rules | `(tactic| walk_at "none of mine") => `(tactic| skip)
local macro_rules | `(tactic| walk_at "none of mine") => `(tactic| skip)
local macro_rules | `(tactic| walk_at "none of mine") => `(tactic| skip)
local macro_rules | `(tactic| walk_at "none of mine") => `(tactic| skip)
local macro_rules | `(tactic| walk_at "none of mine") => `(tactic| skip)
local macro_rules | `(tactic| walk_at "none of mine") => `(tactic| skip)
local macro_rules | `(tactic| walk_at "none of mine") => `(tactic| skip)
local macro_rules | `(tactic| walk_at "none of mine") => `(tactic| skip)
local macro_rules | `(tactic| walk_at "none of mine") => `(tactic| skip)
local macro_rules | `(tactic| walk_at "none of mine") => `(tactic| skip)
local macro_rules | `(tactic| walk_at "none of mine") => `(tactic| skip)
local macro_rules | `(tactic| walk_at "none of mine") => `(tactic| skip)
local macro_rules | `(tactic| walk_at "none of mine") => `(tactic| skip)
local macro_rules | `(tactic| walk_at "none of mine") => `(tactic| skip)
local macro_rules | `(tactic| walk_at "none of mine") => `(tactic| skip)
local macro_rules | `(tactic| walk_at "none of mine") => `(tactic| skip)
local macro_rules | `(tactic| walk_at "none of mine") => `(tactic| skip)
local macro_rules | `(tactic| walk_at "none of mine") => `(tactic| skip)
local macro_rules | `(tactic| walk_at "none of mine") => `(tactic| skip)
local macro_rules | `(tactic| walk_at "none of mine") => `(tactic| skip)
local macro_rules | `(tactic| walk_at "none of mine") => `(tactic| skip)
local macro_rules | `(tactic| walk_at "none of mine") => `(tactic| skip)
local macro_rules | `(tactic| walk_at "none of mine") => `(tactic| skip)
local macro_rules | `(tactic| walk_at "none of mine") => `(tactic| skip)
local macro_rules | `(tactic| walk_at "none of mine") => `(tactic| skip)
theorem c_lday' (w : World) (news : List (Addr × Obj)) (D : Addr) (y mo d : Int) (ta tb tc : Tok) (c : Nat) (hM : (D, tup3 y mo d ta tb tc c) ∈ news) (hy : y.natAbs ≤ 2 ^ 32) (hL : Leg y mo d) (n : Int) (he : gdn y mo d = n) : CG w 176 4 news [.ref D] (retI news n) :=
  c_lday w news D y mo d ta tb tc c hM hy ⟨hL.1, hL.2.1⟩ ⟨hL.2.2.1, hL.2.2.2⟩ n he
local macro_rules | `(tactic| walk_at "call ref") => `(tactic| (k_here; (with_reducible show wpAny _ _ (call (Value.ref 176) _) _ _ _); k_dflt (refine' (c_lday' _ _ _ _ _ _ _ _ _ _ ?km ?ky ?kl _ ?ke) _ _ _ _ _ _ _ _ _ _ _ _ _ _ _ _ _ _ _ _ _ ?k1 ?k2 ?k3 ?k4 ?k5 ?k6 ?k7 ?k8 ?_; (case k1 => k_asm); (case k2 => k_asm); (case k3 => k_asm); (case k4 => k_asm); (case k5 => k_asm); (case k6 => first | exact rfl | assumption); (case k7 => ktr_room); (case k8 => ktr_units); (case km => first | with_reducible assumption | k_mem); (case ky => with_reducible assumption); (case kl => with_reducible assumption); (case ke => with_reducible assumption)); intro t9 h9 tk9 F9 N9; (try dsimp only); (try k_fold)))
local macro_rules | `(tactic| walk_at "call ref") => `(tactic| (k_here; (with_reducible show wpAny _ _ (call (Value.ref 115) [Value.int _ _, Value.str (Str.ofString "western") _]) _ _ _); k_dflt (refine' (c_easter_w _ _ _ _ _ ?ka) _ _ _ _ _ _ _ _ _ _ _ _ _ _ _ _ _ _ _ _ _ ?k1 ?k2 ?k3 ?k4 ?k5 ?k6 ?k7 ?k8 ?_; (case ka => assumption); (case k1 => k_asm); (case k2 => k_asm); (case k3 => k_asm); (case k4 => k_asm); (case k5 => k_asm); (case k6 => first | exact rfl | assumption); (case k7 => ktr_room); (case k8 => ktr_units)); intro y9 m9 d9 hP9 D9 ta9 tb9 tc9 c9 h9 tk9 F9 N9 l9; (obtain ⟨e19, hP9⟩ := hP9); (replace e19 := Eq.symm e19); subst e19; (obtain ⟨hm9, hd9, hg9⟩ := west_legal hP9); (have hl9 : Leg _ _ _ := ⟨hm9.1, hm9.2, hd9⟩); (try dsimp only); (try k_fold)))
local macro_rules | `(tactic| walk_at "call ref") => `(tactic| (k_here; (with_reducible show wpAny _ _ (call (Value.ref 150) _) _ _ _); k_dflt (refine' (c_lwest _ _ _ _ ?ka) _ _ _ _ _ _ _ _ _ _ _ _ _ _ _ _ _ _ _ _ _ ?k1 ?k2 ?k3 ?k4 ?k5 ?k6 ?k7 ?k8 ?_; (case ka => assumption); (case k1 => k_asm); (case k2 => k_asm); (case k3 => k_asm); (case k4 => k_asm); (case k5 => k_asm); (case k6 => first | exact rfl | assumption); (case k7 => ktr_room); (case k8 => ktr_units)); intro t9 h9 tk9 F9 N9; (try dsimp only); (try k_fold)))
local macro_rules | `(tactic| walk_at "call ref") => `(tactic| (k_here; (with_reducible show wpAny _ _ (call (Value.ref 157) _) _ _ _); k_dflt (refine' (c_least _ _ _ _ _ _ ?ka ?kb) _ _ _ _ _ _ _ _ _ _ _ _ _ _ _ _ _ _ _ _ _ ?k1 ?k2 ?k3 ?k4 ?k5 ?k6 ?k7 ?k8 ?_; (case ka => first | assumption | omega); (case kb => first | exact Or.inl rfl | exact Or.inr rfl); (case k1 => k_asm); (case k2 => k_asm); (case k3 => k_asm); (case k4 => k_asm); (case k5 => k_asm); (case k6 => first | exact rfl | assumption); (case k7 => ktr_room); (case k8 => ktr_units)); intro t9 h9 tk9 F9 N9; (try dsimp only); (try k_fold)))
local macro_rules | `(tactic| walk_at "call ref") => `(tactic| (k_here; (with_reducible show wpAny _ _ (call (Value.ref 183) _) _ _ _); k_dflt (refine' (c_so _ _ _ _ _ _ _ _ _ _ _ _ _ ?km ?kl ?kn ?ke) _ _ _ _ _ _ _ _ _ _ _ _ _ _ _ _ _ _ _ _ _ ?k1 ?k2 ?k3 ?k4 ?k5 ?k6 ?k7 ?k8 ?_; (case k1 => k_asm); (case k2 => k_asm); (case k3 => k_asm); (case k4 => k_asm); (case k5 => k_asm); (case k6 => first | exact rfl | assumption); (case k7 => ktr_room); (case k8 => ktr_units); (case km => first | with_reducible assumption | exact List.Mem.tail _ (by assumption) | exact List.Mem.tail _ (List.Mem.tail _ (by assumption)) | k_mem); (case kl => with_reducible assumption); (case ke => with_reducible assumption); (case kn => first | with_reducible assumption | exact wN_bound (by assumption) | exact oN_bound (by assumption) (Or.inl rfl) | exact oN_bound (by assumption) (Or.inr rfl))); intro h9 tk9 F9 N9; (try dsimp only); (try k_fold)))
local macro_rules | `(tactic| walk_at "compareOp NotEq ref ref") => `(tactic| (k_here; k_dflt (refine' ne3 ?N ?a ?b ?u ?e ?_; (case N => k_asm); (case a => first | exact .head _ | k_mem); (case b => first | with_reducible assumption | exact List.Mem.tail _ (by assumption) | k_mem); (case u => ktr_units); (case e => exact gdn_one (by with_reducible assumption) (by with_reducible assumption) (by (rename (gdn _ _ _ = wN _) => hx9); rw [hx9]; symm; with_reducible assumption))); (try dsimp only)))
local macro_rules | `(tactic| walk_at "subscriptTail") => `(tactic| (k_here; (with_reducible show wpAny _ _ (subscriptTail _ _ (Value.ref 141) (Value.int _ _)) _ _ _); k_dflt (refine' weeks_item ?x ?f ?k ?s ?_; (case x => k_asm); (case f => k_asm); (case k => omega); (case s => intro o i; with_unfolding_all rfl))))
local macro_rules | `(tactic| walk_at "subscriptTail") => `(tactic| (k_here; (with_reducible show wpAny _ _ (subscriptTail _ _ (Value.ref (_ + Int.toNat _)) (Value.int 0 _)) _ _ _); k_dflt (refine' week_lo ?x ?f ?k ?s ?_; (case x => k_asm); (case f => k_asm); (case k => omega); (case s => intro o i; with_unfolding_all rfl)); intro t9))
local macro_rules | `(tactic| walk_at "subscriptTail") => `(tactic| (k_here; (with_reducible show wpAny _ _ (subscriptTail _ _ (Value.ref (_ + Int.toNat _)) (Value.int 1 _)) _ _ _); k_dflt (refine' week_hi ?x ?f ?k ?s ?_; (case x => k_asm); (case f => k_asm); (case k => omega); (case s => intro o i; with_unfolding_all rfl)); intro t9))
local macro_rules | `(tactic| walk_at "ite") => `(tactic| (k_here; first | ((with_reducible refine ite_neg Bool.false_ne_true ?_); walk_say "WAY 2") | ((with_reducible refine ite_pos (Eq.refl true) ?_); walk_say "WAY 1")))
set_option maxRecDepth 100000 in
set_option maxHeartbeats 8000000 in
theorem c_betw (w : World) (news : List (Addr × Obj)) (DW DE : Addr) (y yw mw dw ye me de : Int) (t1 ta tb tc td te tf : Tok) (c c' : Nat) (hMW : (DW, tup3 yw mw dw ta tb tc c) ∈ news) (hME : (DE, tup3 ye me de td te tf c') ∈ news) (hy : 1583 ≤ y ∧ y ≤ 2 ^ 31) (hya : y.natAbs ≤ 2 ^ 31) (hLW : Leg yw mw dw) (hLE : Leg ye me de) (hyw : yw.natAbs ≤ 2 ^ 32) (hye : ye.natAbs ≤ 2 ^ 32) (gW : gdn yw mw dw = wN y) (gE : gdn ye me de = oN y 0)
    (h7 : (oN y 0 - wN y).fmod 7 = 0) (hk0 : 0 ≤ (oN y 0 - wN y).fdiv 7) (hk1 : 9 < (oN y 0 - wN y).fdiv 7 → 7303 ≤ y) (hk2 : (oN y 0 - wN y).fdiv 7 < 10 → tlo ((oN y 0 - wN y).fdiv 7) ≤ y ∧ y ≤ thi ((oN y 0 - wN y).fdiv 7)) : CG w 190 15 news [.int y t1, .ref DW, .ref DE] (retI news ((oN y 0 - wN y).fdiv 7)) := by
  unfold CG; w_top off; k_fill
  intro loose mean mg mb dp un gd cn cs a ccd cl outer A₀ base h₀ L mf s Q E B F X N0 T hk hd hu hret
  refine wpAny_call ?_
  k_dflt (refine' code_def ?k1 ?k2 ?k3 ?k4 ?k5 ?kA ?kF ?kK ?k6 ?k7 ?k8 ?k9 ?kB ?_ ?c2 ?c3 ?c4 ?c5; (case kA => exact rfl); (case kF => exact rfl); (case kK => first | exact rfl | assumption); (case k1 => k_asm); (case k2 => k_asm); (case k3 => k_asm); (case k4 => k_asm); (case k5 => k_asm); (case k6 => k_is); (case k7 => k_is); (case k8 => ktr_room); (case k9 => first | exact BindsTo.of_eq rfl | exact binds_K (by k_in) rfl (by k_is) rfl rfl rfl); (case c5 => decide); (case kB => exact locs rfl); (case c2 => exact rfl); (case c3 => exact rfl); (case c4 => exact rfl); k_whole; intro g' L' h' FG' F' N' B' X' T'; (try dsimp only); (try k_lift B'); (try k_fold))
  k_steps
  all_goals (refine endI hret rfl (by k_asm) (by k_asm) (by intro p9 hp9; (repeat (first | with_reducible exact hp9 | refine List.mem_cons_of_mem _ ?_ | refine List.mem_append_right _ ?_))))
local macro_rules | `(tactic| walk_at "call ref") => `(tactic| (k_here; (with_reducible show wpAny _ _ (call (Value.ref 115) [Value.int _ _, Value.str (Str.ofString "orthodox") _]) _ _ _); k_dflt (refine' (c_easter_o _ _ _ _ _ ?ka) _ _ _ _ _ _ _ _ _ _ _ _ _ _ _ _ _ _ _ _ _ ?k1 ?k2 ?k3 ?k4 ?k5 ?k6 ?k7 ?k8 ?_; (case ka => assumption); (case k1 => k_asm); (case k2 => k_asm); (case k3 => k_asm); (case k4 => k_asm); (case k5 => k_asm); (case k6 => first | exact rfl | assumption); (case k7 => ktr_room); (case k8 => ktr_units)); intro y9 m9 d9 hP9 D9 ta9 tb9 tc9 c9 h9 tk9 F9 N9 l9; (obtain ⟨hg9, hma9, hmb9, hda9, hdb9⟩ := hP9); (have hyb9 := year_bound hg9 (oN_bound (by assumption) (Or.inl rfl)) (And.intro hma9 hmb9) (And.intro hda9 hdb9)); (have hl9 : Leg _ _ _ := ⟨hma9, hmb9, hda9, hdb9⟩); (try dsimp only); (try k_fold)))
local macro_rules | `(tactic| walk_at "call ref") => `(tactic| (k_here; (with_reducible show wpAny _ _ (call (Value.ref 115) [Value.int _ _, Value.str (Str.ofString "eastern") _]) _ _ _); k_dflt (refine' (c_easter_e _ _ _ _ _ ?ka) _ _ _ _ _ _ _ _ _ _ _ _ _ _ _ _ _ _ _ _ _ ?k1 ?k2 ?k3 ?k4 ?k5 ?k6 ?k7 ?k8 ?_; (case ka => assumption); (case k1 => k_asm); (case k2 => k_asm); (case k3 => k_asm); (case k4 => k_asm); (case k5 => k_asm); (case k6 => first | exact rfl | assumption); (case k7 => ktr_room); (case k8 => ktr_units)); intro y9 m9 d9 hP9 D9 ta9 tb9 tc9 c9 h9 tk9 F9 N9 l9; (obtain ⟨hg9, hma9, hmb9, hda9, hdb9⟩ := hP9); (have hyb9 := year_bound hg9 (oN_bound (by assumption) (Or.inr rfl)) (And.intro hma9 hmb9) (And.intro hda9 hdb9)); (have hl9 : Leg _ _ _ := ⟨hma9, hmb9, hda9, hdb9⟩); (try dsimp only); (try k_fold)))
set_option maxRecDepth 100000 in
set_option maxHeartbeats 8000000 in
theorem c_part0 (w : World) (news : List (Addr × Obj)) (y : Int) (t1 t2 : Tok) (hya : y.natAbs ≤ 2 ^ 31) (hp : oN y 1 = oN y 0) : CG w 197 15 news [.int y t1, .int 0 t2] (retB news true) := by
  unfold CG; w_top off; k_fill
  intro loose mean mg mb dp un gd cn cs a ccd cl outer A₀ base h₀ L mf s Q E B F X N0 T hk hd hu hret
  refine wpAny_call ?_
  k_dflt (refine' code_def ?k1 ?k2 ?k3 ?k4 ?k5 ?kA ?kF ?kK ?k6 ?k7 ?k8 ?k9 ?kB ?_ ?c2 ?c3 ?c4 ?c5; (case kA => exact rfl); (case kF => exact rfl); (case kK => first | exact rfl | assumption); (case k1 => k_asm); (case k2 => k_asm); (case k3 => k_asm); (case k4 => k_asm); (case k5 => k_asm); (case k6 => k_is); (case k7 => k_is); (case k8 => ktr_room); (case k9 => first | exact BindsTo.of_eq rfl | exact binds_K (by k_in) rfl (by k_is) rfl rfl rfl); (case c5 => decide); (case kB => exact locs rfl); (case c2 => exact rfl); (case c3 => exact rfl); (case c4 => exact rfl); k_whole; intro g' L' h' FG' F' N' B' X' T'; (try dsimp only); (try k_lift B'); (try k_fold))
  k_steps
  all_goals (refine endB hret rfl (by k_asm) (by k_asm) (by intro p9 hp9; (repeat (first | with_reducible exact hp9 | refine List.mem_cons_of_mem _ ?_ | refine List.mem_append_right _ ?_))))
set_option maxRecDepth 100000 in
set_option maxHeartbeats 8000000 in
theorem c_part7 (w : World) (news : List (Addr × Obj)) (y : Int) (t1 t2 : Tok) (hya : y.natAbs ≤ 2 ^ 31) (hp : oN y 1 = oN y 0 + 7) (hq : oN y 0 = 1721117 + 365 * y + y / 4 + 37) : CG w 197 15 news [.int y t1, .int 7 t2] (retB news true) := by
  unfold CG; w_top off; k_fill
  intro loose mean mg mb dp un gd cn cs a ccd cl outer A₀ base h₀ L mf s Q E B F X N0 T hk hd hu hret
  refine wpAny_call ?_
  k_dflt (refine' code_def ?k1 ?k2 ?k3 ?k4 ?k5 ?kA ?kF ?kK ?k6 ?k7 ?k8 ?k9 ?kB ?_ ?c2 ?c3 ?c4 ?c5; (case kA => exact rfl); (case kF => exact rfl); (case kK => first | exact rfl | assumption); (case k1 => k_asm); (case k2 => k_asm); (case k3 => k_asm); (case k4 => k_asm); (case k5 => k_asm); (case k6 => k_is); (case k7 => k_is); (case k8 => ktr_room); (case k9 => first | exact BindsTo.of_eq rfl | exact binds_K (by k_in) rfl (by k_is) rfl rfl rfl); (case c5 => decide); (case kB => exact locs rfl); (case c2 => exact rfl); (case c3 => exact rfl); (case c4 => exact rfl); k_whole; intro g' L' h' FG' F' N' B' X' T'; (try dsimp only); (try k_lift B'); (try k_fold))
  k_steps
  all_goals (refine endB hret rfl (by k_asm) (by k_asm) (by intro p9 hp9; (repeat (first | with_reducible exact hp9 | refine List.mem_cons_of_mem _ ?_ | refine List.mem_append_right _ ?_))))
end
section
local macro_rules | `(tactic| walk_at "none of mine") => `(tactic| skip)
local macro_rules | `(tactic| walk_at "none of mine") => `(tactic| skip)
local macro_rules | `(tactic| walk_at "none of mine") => `(tactic| skip)
local macro_rules | `(tactic| walk_at "none of mine") => `(tactic| skip)
local macro_rules | `(tactic| walk_at "none of mine") => `(tactic| skip)
local macro_rules | `(tactic| walk_at "none of mine") => `(tactic| skip)
local macro_rules | `(tactic| walk_at "none of mine") => `(tactic| skip)
local macro_rules | `(tactic| walk_at "none of mine") => `(tactic| skip)
local macro_rules | `(tactic| walk_at "none of mine") => `(tactic| skip)
local macro_rules | `(tactic| walk_at "none of mine") => `(tactic| skip)
local macro_rules | `(tactic| walk_at "none of mine") => `(tactic| skip)
local macro_rules | `(tactic| walk_at "none of mine") => `(tactic| skip)
local macro_rules | `(tactic| walk_at "none of mine") => `(tactic| skip)
local macro_rules | `(tactic| walk_at "none of mine") => `(tactic| skip)
local macro_rules | `(tactic| walk_at "none of mine") => `(tactic| skip)
local macro_rules | `(tactic| walk_at "none of mine") => `(tactic| skip)
local macro_rules | `(tactic| walk_at "none of mine") => `(tactic| skip)
local macro_rules | `(tactic| walk_at "none of mine") => `(tactic| skip)
local macro_rules | `(tactic| walk_at "none of mine") => `(tactic| skip)
local macro_rules | `(tactic| walk_at "none of mine") => `(tactic| skip)
local macro_rules | `(tactic| walk_at "none of mine") => `(tactic| skip)
local macro_rules | `(tactic| walk_at "none of mine") => `(tactic| skip)
local macro_rules | `(tactic| walk_at "none of mine") => `(tactic| skip)
local macro_rules | `(tactic| walk_at "none of mine") => `(tactic| skip)
local macro_rules | `(tactic| walk_at "none of mine") => `(tactic| skip)
local macro_rules | `(tactic| walk_at "none of mine") => `(tactic| skip)
local macro_rules | `(tactic| walk_at "none of mine") => `(tactic| skip)
local macro_rules | `(tactic| walk_at "none of mine") => `(tactic| skip)
local macro_rules | `(tactic| walk_at "none of mine") => `(tactic| skip)
local macro_rules | `(tactic| walk_at "none of mine") => `(tactic| skip)
local macro_rules | `(tactic| walk_at "none of mine") => `(tactic| skip)
local macro_rules | `(tactic| walk_at "none of mine") => `(tactic| skip)
local macro_rules | `(tactic| walk_at "none of mine") => `(tactic| skip)
local macro_rules | `(tactic| walk_at "none of mine") => `(tactic| skip)
local macro_rules | `(tactic| walk_at "none of mine") => `(tactic| skip)
local macro_rules | `(tactic| walk_at "none of mine") => `(tactic| skip)
local macro_rules | `(tactic| walk_at "none of mine") => `(tactic| skip)
local macro_rules | `(tactic| walk_at "none of mine") => `(tactic| skip)
local macro_rules | `(tactic| walk_at "none of mine") => `(tactic| skip)
local macro_rules | `(tactic| walk_at "none of mine") => `(tactic| skip)
local macro_rules | `(tactic| walk_at "none of mine") => `(tactic| skip)
local macro_rules | `(tactic| walk_at "none of mine") => `(tactic| skip)
local macro_rules | `(tactic| walk_at "none of mine") => `(tactic| skip)
local macro_rules | `(tactic| walk_at "none of mine") => `(tactic| skip)
local macro_rules | `(tactic| walk_at "none of mine") => `(tactic| skip)
local macro_rules | `(tactic| walk_at "none of mine") => `(tactic| skip)
local macro_rules | `(tactic| walk_at "none of mine") => `(tactic| skip)
local macro_rules | `(tactic| walk_at "none of mine") => `(tactic| skip)
local macro_rules | `(tactic| walk_at "none of mine") => `(tactic| skip)
local macro_rules | `(tactic| walk_at "none of mine") => `(tactic| skip)
local macro_rules | `(tactic| walk_at "none of mine") => `(tactic| skip)
local macro_rules | `(tactic| walk_at "none of mine") => `(tactic| skip)
local macro_rules | `(tactic| walk_at "none of mine") => `(tactic| skip)
local macro_rules | `(tactic| walk_at "none of mine") => `(tactic| skip)
local macro_rules | `(tactic| walk_at "none of mine") => `(tactic| skip)
local macro_rules | `(tactic| walk_at "none of mine") => `(tactic| skip)
local macro_rules | `(tactic| walk_at "none of mine") => `(tactic| skip)
local macro_rules | `(tactic| walk_at "none of mine") => `(tactic| skip)
local macro_rules | `(tactic| walk_at "none of mine") => `(tactic| skip)
theorem leg_of {y m d : Int} (a : 1 ≤ m ∧ m ≤ 12) (b : 0 < d ∧ d ≤ mlen y m) : Leg y m d := ⟨a.1, a.2, b.1, b.2⟩
theorem btw_facts {y : Int} (hy : 1583 ≤ y) : (oN y 0 - wN y).fmod 7 = 0 ∧ 0 ≤ (oN y 0 - wN y).fdiv 7 ∧ (9 < (oN y 0 - wN y).fdiv 7 → 7303 ≤ y) ∧ ((oN y 0 - wN y).fdiv 7 < 10 → tlo ((oN y 0 - wN y).fdiv 7) ≤ y ∧ y ≤ thi ((oN y 0 - wN y).fdiv 7)) := by
  have h7 := gap_seven y
  unfold gap at h7
  rw [Int.fmod_eq_emod_of_nonneg _ (by decide), Int.fdiv_eq_ediv_of_nonneg _ (by decide)]
  have := weeks_so (y := y) (k := (oN y 0 - wN y) / 7) hy (by omega)
  exact ⟨h7, this⟩
/-- weeks, of which the law says what it says -/
abbrev retK (news : List (Addr × Obj)) (y : Int) (h₀ : Heap) (L : Addr) (m : Str → Option Value) (s : Shared) (Q : Value → Shared → Prop) : Prop :=
  ∀ (n : Int), 0 ≤ n → 7 * n = gap y → ∀ (t : Tok) (h' : Heap) (tk' : Nat), Fr h₀ L h' m → News h₀ L h' news → Q (.int n t) { s with heap := h', toks := tk' }
theorem c_betw' (w : World) (news : List (Addr × Obj)) (DW DE : Addr) (y yw mw dw ye me de : Int) (t1 ta tb tc td te tf : Tok) (c c' : Nat) (hMW : (DW, tup3 yw mw dw ta tb tc c) ∈ news) (hME : (DE, tup3 ye me de td te tf c') ∈ news) (hy : 1583 ≤ y ∧ y ≤ 2 ^ 31) (hLW : Leg yw mw dw) (hLE : Leg ye me de) (hyw : yw.natAbs ≤ 2 ^ 32) (hye : ye.natAbs ≤ 2 ^ 32) (gW : gdn yw mw dw = wN y) (gE : gdn ye me de = oN y 0) : CG w 190 15 news [.int y t1, .ref DW, .ref DE] (retK news y) := by
  have f := btw_facts hy.1
  intro loose mean mg mb dp un gd cn cs a ccd cl outer A₀ base h₀ L mf s Q E B F X N T hk hd hu hret
  refine c_betw w news DW DE y yw mw dw ye me de t1 ta tb tc td te tf c c' hMW hME hy (by omega) hLW hLE hyw hye gW gE f.1 f.2.1 f.2.2.1 f.2.2.2 loose mean mg mb dp un gd cn cs a ccd cl outer A₀ base h₀ L mf s Q E B F X N T hk hd hu (fun t h' tk' F N => hret _ f.2.1 ?_ t h' tk' F N)
  have h7 := f.1
  rw [Int.fmod_eq_emod_of_nonneg _ (by decide)] at h7
  rw [Int.fdiv_eq_ediv_of_nonneg _ (by decide)]
  unfold gap
  omega
local macro_rules | `(tactic| walk_at "call ref") => `(tactic| (k_here; (with_reducible show wpAny _ _ (call (Value.ref 115) [Value.int _ _]) _ _ _); k_dflt (refine' (c_easter1 _ _ _ _ ?ka) _ _ _ _ _ _ _ _ _ _ _ _ _ _ _ _ _ _ _ _ _ ?k1 ?k2 ?k3 ?k4 ?k5 ?k6 ?k7 ?k8 ?_; (case ka => first | assumption | omega); (case k1 => k_asm); (case k2 => k_asm); (case k3 => k_asm); (case k4 => k_asm); (case k5 => k_asm); (case k6 => first | exact rfl | assumption); (case k7 => ktr_room); (case k8 => ktr_units)); intro y9 m9 d9 hP9 D9 ta9 tb9 tc9 c9 h9 tk9 F9 N9 l9; (try simp only [AllLt, and_true] at l9); (obtain ⟨e19, hP9⟩ := hP9); (replace e19 := Eq.symm e19); subst e19; (obtain ⟨hm9, hd9, hg9⟩ := west_legal hP9); (have hl9 := leg_of hm9 hd9); (try dsimp only); (try k_fold)))
local macro_rules | `(tactic| walk_at "call ref") => `(tactic| (k_here; (with_reducible show wpAny _ _ (call (Value.ref 190) _) _ _ _); k_dflt (refine' (c_betw' _ _ _ _ _ _ _ _ _ _ _ _ _ _ _ _ _ _ _ _ ?kmw ?kme ?k11 ?k13 ?k14 ?k15 ?k16 ?k17 ?k18) _ _ _ _ _ _ _ _ _ _ _ _ _ _ _ _ _ _ _ _ _ ?k1 ?k2 ?k3 ?k4 ?k5 ?k6 ?k7 ?k8 ?_; (case k1 => k_asm); (case k2 => k_asm); (case k3 => k_asm); (case k4 => k_asm); (case k5 => k_asm); (case k6 => first | exact rfl | assumption); (case k7 => ktr_room); (case k8 => ktr_units); (case kmw => k_mem); (case kme => k_mem); (case k11 => first | assumption | omega); (case k13 => with_reducible assumption); (case k14 => with_reducible assumption); (case k15 => first | assumption | omega); (case k16 => first | assumption | omega); (case k17 => with_reducible assumption); (case k18 => with_reducible assumption)); intro n9 hn9 hg9 t9 h9 tk9 F9 N9; (try dsimp only); (try k_fold)))
local macro_rules | `(tactic| walk_at "call ref") => `(tactic| (k_here; (with_reducible show wpAny _ _ (call (Value.ref 115) [Value.int _ _, Value.str (Str.ofString "orthodox") _]) _ _ _); k_dflt (refine' (c_easter_o _ _ _ _ _ ?ka) _ _ _ _ _ _ _ _ _ _ _ _ _ _ _ _ _ _ _ _ _ ?k1 ?k2 ?k3 ?k4 ?k5 ?k6 ?k7 ?k8 ?_; (case ka => first | assumption | omega); (case k1 => k_asm); (case k2 => k_asm); (case k3 => k_asm); (case k4 => k_asm); (case k5 => k_asm); (case k6 => first | exact rfl | assumption); (case k7 => ktr_room); (case k8 => ktr_units)); intro y9 m9 d9 hP9 D9 ta9 tb9 tc9 c9 h9 tk9 F9 N9 l9; (try simp only [AllLt, and_true] at l9); (obtain ⟨hg9, hma9, hmb9, hda9, hdb9⟩ := hP9); (have hyb9 := year_bound hg9 (oN_bound (by first | assumption | omega) (Or.inl rfl)) (And.intro hma9 hmb9) (And.intro hda9 hdb9)); (have hl9 := leg_of (And.intro hma9 hmb9) (And.intro hda9 hdb9)); (try dsimp only); (try k_fold)))
local macro_rules | `(tactic| walk_at "call ref") => `(tactic| (k_here; (with_reducible show wpAny _ _ (call (Value.ref 115) [Value.int _ _, Value.str (Str.ofString "eastern") _]) _ _ _); k_dflt (refine' (c_easter_e _ _ _ _ _ ?ka) _ _ _ _ _ _ _ _ _ _ _ _ _ _ _ _ _ _ _ _ _ ?k1 ?k2 ?k3 ?k4 ?k5 ?k6 ?k7 ?k8 ?_; (case ka => first | assumption | omega); (case k1 => k_asm); (case k2 => k_asm); (case k3 => k_asm); (case k4 => k_asm); (case k5 => k_asm); (case k6 => first | exact rfl | assumption); (case k7 => ktr_room); (case k8 => ktr_units)); intro y9 m9 d9 hP9 D9 ta9 tb9 tc9 c9 h9 tk9 F9 N9 l9; (try simp only [AllLt, and_true] at l9); (obtain ⟨hg9, hma9, hmb9, hda9, hdb9⟩ := hP9); (have hyb9 := year_bound hg9 (oN_bound (by assumption) (Or.inr rfl)) (And.intro hma9 hmb9) (And.intro hda9 hdb9)); (have hl9 := leg_of (And.intro hma9 hmb9) (And.intro hda9 hdb9)); (try dsimp only); (try k_fold)))
/-- keeps the walk from going on -/
def Stop (p : Prop) : Prop := p
theorem stop_here {p : Prop} (h : Stop p) : p := h
local macro_rules | `(tactic| walk_at "exec For Name Subscript cons nil") => `(tactic| (k_here; (rename Fr _ _ _ _ => lF'); (with_unfolding_all refine' For_turns lF' ?_; k_whole)))
local macro_rules | `(tactic| walk_at "subscriptTail") => `(tactic| (k_here; (with_reducible show wpAny _ _ (subscriptTail _ _ (Value.ref 141) (Value.int _ _)) _ _ _); k_dflt (refine' weeks_item ?x ?f ?k ?s ?_; (case x => k_asm); (case f => k_asm); (case k => omega); (case s => intro o i; with_unfolding_all rfl))))
local macro_rules | `(tactic| walk_at "pyIter ref") => `(tactic| (k_here; (with_reducible show wpAny _ _ (pyIter (Value.ref (_ + Int.toNat _))) _ _ _); refine stop_here ?_))
theorem pick {h₀ g : Heap} {L : Addr} {news : List (Addr × Obj)} {ws : List Value} {ns : List Int} {o : Obj} {v : Value} {D c : Addr} (_hI : IntsAre ws ns) (hd : o.data = .cell (some v)) (N : News h₀ L g news) (hm : (D, W.listOf ws.toArray 0) ∈ news) (hc : (c, o) ∈ news) (hlt : @LT.lt Nat _ c D) :
    ∃ o v, o.data = .cell (some v) ∧ @LT.lt Nat _ c D ∧ News h₀ L g [(D, W.listOf ws.toArray 0), (c, o)] := by
  refine ⟨o, v, hd, hlt, fun p hp => ?_⟩
  rcases List.mem_cons.mp hp with rfl | hp
  · exact N _ hm
  · rw [List.mem_singleton.mp hp]
    exact N _ hc
theorem pick3 {h₀ g : Heap} {L : Addr} {news : List (Addr × Obj)} {a b c : Addr × Obj} (N : News h₀ L g news) (h1 : a ∈ news) (h2 : b ∈ news) (h3 : c ∈ news) : News h₀ L g [a, b, c] := by
  intro p hp
  rcases List.mem_cons.mp hp with rfl | hp
  · exact N _ h1
  · rcases List.mem_cons.mp hp with rfl | hp
    · exact N _ h2
    · rw [List.mem_singleton.mp hp]
      exact N _ h3
theorem week_turn {k : Int} {t u : Tok} {v : Value} (hk : 0 ≤ k ∧ k ≤ 9) (hv : v ∈ [Value.int (tlo k) t, Value.int (thi k) u]) : ∃ (n : Int) (t : Tok), v = .int n t ∧ gap n = 7 * k ∧ 1583 ≤ n ∧ n ≤ 20000 := by
  obtain ⟨a, b, c, d, e, f⟩ := weeks_ends hk
  rcases List.mem_cons.mp hv with rfl | hv
  · exact ⟨_, _, rfl, a, c, d⟩
  · rw [List.mem_singleton.mp hv]
    exact ⟨_, _, rfl, b, e, f⟩
/-- what holds between the loop's turns: the frame, the draws and the cell -/
def Between (m : Str → Option Value) (D c : Addr) (ws : List Value) (m' : Str → Option Value) (n' : List (Addr × Obj)) : Prop := m' = m ∧ ∃ (o : Obj) (v : Value), o.data = .cell (some v) ∧ n' = [(D, W.listOf ws.toArray 0), (c, o)]
theorem turn_end {h₀ h' : Heap} {L : Addr} {m : Str → Option Value} {D c I : Addr} {ws : List Value} {oI o : Obj} {v : Value} {nw : List (Addr × Obj)} {s : Shared} {tk' : Nat} {Q' : Flow → Shared → Prop}
    (hQ : ∀ h' tk' m' news', Fr h₀ L h' m' → News h₀ L h' ((I, oI) :: news') → (∀ p ∈ news', p.1 ≠ I) → Between m D c ws m' news' → Q' .next { s with heap := h', toks := tk' })
    (F : Fr h₀ L h' m) (N : News h₀ L h' nw) (hI : (I, oI) ∈ nw) (hD : (D, W.listOf ws.toArray 0) ∈ nw) (hc : (c, o) ∈ nw) (hd : o.data = .cell (some v)) (h1 : @Ne Nat D I) (h2 : @Ne Nat c I) : Q' .next { s with heap := h', toks := tk' } := by
  refine hQ h' tk' m [(D, W.listOf ws.toArray 0), (c, o)] F (pick3 N hI hD hc) (fun p hp => ?_) ⟨rfl, o, v, hd, rfl⟩
  rcases List.mem_cons.mp hp with rfl | hp
  · exact h1
  · rw [List.mem_singleton.mp hp]
    exact h2
theorem draws_item {prog : Program} {w : World} {A : Around} {E : Value → Shared → Prop} {s : Shared} {h₀ : Heap} {L D : Addr} {ws : List Value} {ns : List Int} {nw : List (Addr × Obj)} {j : Int} {u : Tok} {v sl : PySem.Expr} {Q : Value → Shared → Prop} (N : News h₀ L s.heap nw) (hm : (D, W.listOf ws.toArray 0) ∈ nw) (hI : IntsAre ws ns) (h0 : 0 ≤ j ∧ j < ns.length) (hj : j < 2 ^ 63)
    (hs : subscripted sl false (.ref D) (.int j u) = operate [.ref D, .int j u] (getItem (.ref D) (.int j u))) (hg : ∀ r, letTemporaryGo v (.ref D) r = pure ()) (h : ∀ t, Q (.int (ns.getD j.toNat 0) t) s) : wpAny (model prog w) A (subscriptTail v sl (.ref D) (.int j u)) Q E s :=
  item_list_ints (News.isList N hm) hI h0.1 h0.2 hj h hs hg
local macro_rules | `(tactic| walk_at "subscriptTail Name Constant ref int") => `(tactic| (k_here; k_dflt (refine' draws_item ?N ?m ?i ?l ?j ?s ?g ?_; (case N => k_asm); (case m => k_mem); (case i => with_reducible assumption); (case l => (simp only [List.length_append, List.length_cons, List.length_nil]; omega)); (case j => decide); (case s => with_unfolding_all rfl); (case g => intro _; with_unfolding_all rfl)); intro t9))
local macro_rules | `(tactic| walk_at "eval ListComp") => `(tactic| (k_here; k_dflt (refine ListComp_TU (by k_asm) (by with_unfolding_all rfl) (by decide) (by rfl) (by decide) (by rfl) ?_)))
local macro_rules | `(tactic| walk_at "SrcTU") => `(tactic| (k_here; k_dflt (refine' SrcTU.mk' (tupAt_base (tupK ?x ?l)) trivial ?a ?F ?N ?z ?_; (case x => k_asm); (case l => k_is); (case a => rfl); (case F => k_asm); (case N => k_asm); (case z => first | size_fits | exact Nat.le_of_ble_eq_true rfl)); intro g'; lcg_lit))
theorem ahead_yes {Y M : Int} (a : M = (38 - Y) % 532 ∨ M = (133 - Y) % 532 ∨ M = (228 - Y) % 532 ∨ M = (475 - Y) % 532) : (Y + M) % 532 = 38 ∨ (Y + M) % 532 = 133 ∨ (Y + M) % 532 = 228 ∨ (Y + M) % 532 = 475 := by omega
theorem ahead_no {Y M j : Int} (b : M ≤ (38 - Y) % 532 ∧ M ≤ (133 - Y) % 532 ∧ M ≤ (228 - Y) % 532 ∧ M ≤ (475 - Y) % 532) (h0 : 0 ≤ j) (h1 : j < M) : ¬ ((Y + j) % 532 = 38 ∨ (Y + j) % 532 = 133 ∨ (Y + j) % 532 = 228 ∨ (Y + j) % 532 = 475) := by omega
theorem ahead_b7 {Y M : Int} (a : M = (38 - Y) % 532 ∨ M = (133 - Y) % 532 ∨ M = (228 - Y) % 532 ∨ M = (475 - Y) % 532) (hY : Y.natAbs ≤ 100000000) : (Y + M).natAbs ≤ 2 ^ 31 := by omega
theorem ahead_b0 {Y M j : Int} (b : M ≤ (38 - Y) % 532 ∧ M ≤ (133 - Y) % 532 ∧ M ≤ (228 - Y) % 532 ∧ M ≤ (475 - Y) % 532) (h0 : 0 ≤ j) (h1 : j < M) (hY : Y.natAbs ≤ 100000000) : (Y + j).natAbs ≤ 2 ^ 31 := by omega
local macro_rules | `(tactic| walk_at "call ref") => `(tactic| (k_here; (with_reducible show wpAny _ _ (call (Value.ref 197) [Value.int (_ + _ % _) _, Value.int 0 _]) _ _ _); k_dflt (refine' (c_part0 _ _ _ _ _ ?ka ?kp) _ _ _ _ _ _ _ _ _ _ _ _ _ _ _ _ _ _ _ _ _ ?k1 ?k2 ?k3 ?k4 ?k5 ?k6 ?k7 ?k8 ?_; (case kp => exact part_no (ahead_no (by with_reducible assumption) (Int.emod_nonneg _ (by omega)) (Int.emod_lt_of_pos _ (by omega)))); (case ka => exact ahead_b0 (by with_reducible assumption) (Int.emod_nonneg _ (by omega)) (Int.emod_lt_of_pos _ (by omega)) (by omega)); (case k1 => k_asm); (case k2 => k_asm); (case k3 => k_asm); (case k4 => k_asm); (case k5 => k_asm); (case k6 => first | exact rfl | assumption); (case k7 => ktr_room); (case k8 => ktr_units)); intro h9 tk9 F9 N9; (try dsimp only); (try k_fold)))
local macro_rules | `(tactic| walk_at "call ref") => `(tactic| (k_here; (with_reducible show wpAny _ _ (call (Value.ref 197) [Value.int (_ + _) _, Value.int 7 _]) _ _ _); k_dflt (refine' (c_part7 _ _ _ _ _ ?ka ?kp ?kq) _ _ _ _ _ _ _ _ _ _ _ _ _ _ _ _ _ _ _ _ _ ?k1 ?k2 ?k3 ?k4 ?k5 ?k6 ?k7 ?k8 ?_; (case kp => exact (part_yes (ahead_yes (by with_reducible assumption))).1); (case kq => exact (part_yes (ahead_yes (by with_reducible assumption))).2); (case ka => exact ahead_b7 (by with_reducible assumption) (by omega)); (case k1 => k_asm); (case k2 => k_asm); (case k3 => k_asm); (case k4 => k_asm); (case k5 => k_asm); (case k6 => first | exact rfl | assumption); (case k7 => ktr_room); (case k8 => ktr_units)); intro h9 tk9 F9 N9; (try dsimp only); (try k_fold)))
set_option maxRecDepth 100000 in
set_option maxHeartbeats 20000000 in
theorem law_holds : PySem.Challenge.rw_ad5017_02.Holds := hd (by
  k_go0
  k_steps
  show wpAny _ _ _ _ _ _
  (rename News _ _ _ _ => NN9); (try dsimp only at NN9)
  (rename Fr _ _ _ _ => FF9); (try dsimp only at FF9)
  (rename (_ = Data.cell (some _)) => hcell9)
  (rename IntsAre _ (List.take 5 _ ++ [0, 0, 0, 0, 0]) => hI9)
  obtain ⟨o9, v9, hd9, hlt9, N9x⟩ := pick hI9 hcell9 NN9 (by k_mem) (by k_mem) (by omega)
  (rename List Int => w9)
  generalize hk9 : List.getD (List.take 5 w9 ++ [0, 0, 0, 0, 0]) (Int.toNat 2) 0 % 10 = k9 at FF9 ⊢
  have hk : 0 ≤ k9 ∧ k9 ≤ 9 := by omega
  clear hk9
  (rename Frag.In _ _ => KX9)
  obtain ⟨tl9, th9, hT9⟩ := week_tup KX9 hk
  refine base_turns (vs := [.int (tlo k9) tl9, .int (thi k9) th9]) (Between _ _ _ _) rfl hT9 FF9 N9x ⟨rfl, _, _, hd9, rfl⟩ ?turn ?done
  case turn =>
    intro v hv m₁ news₁ I oI h tk Q' hP hoff F1 N1 hQ'
    obtain ⟨rfl, o', v', ho', rfl⟩ := hP
    obtain ⟨n9, t9, rfl, hn1, hn2, hn3⟩ := week_turn hk hv
    have hoffD : @Ne Nat _ I := hoff _ (.head _)
    have hoffc : @Ne Nat _ I := hoff _ (.tail _ (.head _))
    clear hoff hv hT9
    (try dsimp only at hoffc hoffD)
    revert hQ' F1 N1 ho' hoffD hoffc hlt9 hn1 hn2 hn3 hk
    (repeat ((rename Fr _ _ _ _ => hC9); clear hC9))
    (repeat ((rename News _ _ _ _ => hC9); clear hC9))
    (repeat ((rename _ ∧ _ => hC9); clear hC9))
    (repeat ((rename Leg _ _ _ => hC9); clear hC9))
    (repeat ((rename _ = _ => hC9); clear hC9))
    (repeat (first | ((rename (List Value → Shared → Prop) => hC9); clear hC9) | ((rename (Value → Shared → Prop) => hC9); clear hC9)))
    (try (rename Ground _ _ _ _ _ _ _ _ _ => hC9; clear hC9))
    (try (rename Flt.MathXP _ _ _ => hC9; clear hC9))
    (try (rename LooseAre _ _ _ => hC9; clear hC9))
    (try (rename Glob _ _ _ _ _ _ _ _ => hC9; clear hC9))
    (try (rename Tables _ _ _ _ => hC9; clear hC9))
    (try (rename TopE _ _ _ _ => hC9; clear hC9))
    (try (rename TopW _ _ _ => hC9; clear hC9))
    (try (rename BMod _ _ _ _ _ => hC9; clear hC9))
    (try (rename Heap.CodeRec _ _ _ => hC9; clear hC9))
    (try (rename Well _ _ _ _ => hC9; clear hC9))
    (try (rename Reads _ _ _ _ => hC9; clear hC9))
    (try (rename ReadsAll _ _ _ _ => hC9; clear hC9))
    (try (rename ReadsAllW _ _ _ _ _ _ => hC9; clear hC9))
    (try (rename Hook.says _ _ _ => hC9; clear hC9))
    intros
    (rename Fr _ _ _ _ => F1); (rename News _ _ _ _ => N1)
    (try dsimp only at F1 N1)
    k_steps
    all_goals (exact turn_end (by assumption) (by k_asm) (by k_asm) (by k_mem) (by k_mem) (by k_mem) (by assumption) (by assumption) (by assumption))
  case done =>
    intro h tk m₁ news₁ F1 N1 hP
    obtain ⟨rfl, o', v', ho', rfl⟩ := hP
    (try dsimp only at F1 N1)
    clear hT9 FF9 NN9 N9x hd9 hcell9
    k_steps)
end
end Mine
theorem PySem.Challenge.cw_ad5017_02_holds : PySem.Challenge.rw_ad5017_02.Holds := by
  exact Mine.law_holds
