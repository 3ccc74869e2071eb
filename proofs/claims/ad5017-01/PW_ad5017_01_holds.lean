import PyProof.Rows.All
import Wide.All
import OpenK.AllK
import Wide.FinOn
import PySem.Challenge.RW_ad5017_01
set_option Elab.async false
namespace Mine
open PySem PySem.Float64

/-- x is finite and lo / 2^k ≤ x ≤ hi / 2^k -/
structure Rg (x : UInt64) (k : Nat) (lo hi : Int) : Prop where
  fin : ∃ a m e, decode x = .fin a m e
  lo : lo * 2 ^ 1074 ≤ val x * 2 ^ k
  hi : val x * 2 ^ k ≤ hi * 2 ^ 1074

theorem v_hits {c j : Nat} (hc : c ≤ 2 ^ 53) (hj : 53 ≤ j) (hj2 : j ≤ 1100) : ∃ t, V t = c * 2 ^ j := by
  by_cases h0 : c = 0
  · exact ⟨0, by subst h0; simp [V]⟩
  · by_cases h1 : 2 ^ 52 ≤ c
    · exact ⟨_, V_at (k := j) hc (.inl h1)⟩
    · have hl1 := Nat.log2_self_le h0
      have hl2 : c < 2 ^ (c.log2 + 1) := Nat.lt_log2_self
      have hl3 : c.log2 < 52 := (Nat.log2_lt h0).2 (by omega)
      generalize c.log2 = l at *
      have e1 : 2 ^ l * 2 ^ (52 - l) = 2 ^ 52 := by rw [← Nat.pow_add]; congr 1; omega
      have e2 : 2 ^ (l + 1) * 2 ^ (52 - l) = 2 ^ 53 := by rw [← Nat.pow_add]; congr 1; omega
      have a1 : 2 ^ 52 ≤ c * 2 ^ (52 - l) := by rw [← e1]; exact Nat.mul_le_mul_right _ hl1
      have a2 : c * 2 ^ (52 - l) ≤ 2 ^ 53 := by rw [← e2]; exact Nat.mul_le_mul_right _ (Nat.le_of_lt hl2)
      refine ⟨_, (V_at (k := j - (52 - l)) a2 (.inl a1)).trans ?_⟩
      rw [Nat.mul_assoc, ← Nat.pow_add]
      congr 2
      omega

theorem near_ge {W D t t' : Nat} (hD : 0 < D) (h : dist W (D * V t) ≤ dist W (D * V t')) (hle : D * V t' ≤ W) : V t' ≤ V t := by
  by_cases hc : V t' ≤ V t
  · exact hc
  · exfalso
    have : D * V t < D * V t' := Nat.mul_lt_mul_of_pos_left (by omega) hD
    unfold dist at h
    omega
theorem near_le {W D t t' : Nat} (hD : 0 < D) (h : dist W (D * V t) ≤ dist W (D * V t')) (hle : W ≤ D * V t') : V t ≤ V t' := by
  by_cases hc : V t ≤ V t'
  · exact hc
  · exfalso
    have : D * V t' < D * V t := Nat.mul_lt_mul_of_pos_left (by omega) hD
    unfold dist at h
    omega

theorem k1128 : 2 * 2 ^ 1127 < (2 ^ 54 - 1) * 2 ^ 2045 := by decide +kernel

theorem rg_right {r : UInt64} {neg : Bool} {W D : Nat} (h : Right r neg W D) (hD : 0 < D) {v : Int} (hv : sgn neg W = v) {k : Nat} {p q : Int} (hk : k ≤ 1000)
    (hp : p.natAbs ≤ 2 ^ 53) (hq : q.natAbs ≤ 2 ^ 53) (hlo : p * (D * 2 ^ 1074) ≤ v * 2 ^ k) (hhi : v * 2 ^ k ≤ q * (D * 2 ^ 1074)) : Rg r k p q := by
  obtain ⟨j, hj⟩ : ∃ j, j + k = 1074 := ⟨1074 - k, by omega⟩
  have hpk : (0 : Int) < 2 ^ k := Int.pow_pos (by decide)
  have hpj : (0 : Int) < 2 ^ j := Int.pow_pos (by decide)
  have eK : (2 : Int) ^ 1074 = 2 ^ j * 2 ^ k := by rw [← Int.pow_add, hj]
  rw [eK] at hlo hhi
  have hlo' : p * (D * 2 ^ j) ≤ v := by
    refine Int.le_of_mul_le_mul_right ?_ hpk
    calc p * (D * 2 ^ j) * 2 ^ k = p * (D * (2 ^ j * 2 ^ k)) := by simp only [Int.mul_assoc]
      _ ≤ _ := hlo
  have hhi' : v ≤ q * (D * 2 ^ j) := by
    refine Int.le_of_mul_le_mul_right ?_ hpk
    calc v * 2 ^ k ≤ q * (D * (2 ^ j * 2 ^ k)) := hhi
      _ = q * (D * 2 ^ j) * 2 ^ k := by simp only [Int.mul_assoc]
  clear hlo hhi
  obtain ⟨t, rfl, htI, htIff, hnear⟩ := h
  have hcast : ∀ c : Int, 0 ≤ c → ((D * (c.natAbs * 2 ^ j) : Nat) : Int) = c * (D * 2 ^ j) := by
    intro c hc
    have : ((c.natAbs : Nat) : Int) = c := by omega
    rw [Int.natCast_mul, Int.natCast_mul, Int.natCast_pow, this]
    show (D : Int) * (c * 2 ^ j) = c * (D * 2 ^ j)
    rw [Int.mul_left_comm]
  have hDj : (0 : Int) < D * 2 ^ j := Int.mul_pos (by omega) hpj
  -- the size of W
  have hWs : W ≤ D * (2 ^ 53 * 2 ^ j) := by
    have : (W : Int) ≤ 2 ^ 53 * (D * 2 ^ j) := by
      have h1 : p * (D * 2 ^ j) ≥ -(2 ^ 53) * (D * 2 ^ j) := Int.mul_le_mul_of_nonneg_right (by omega) (Int.le_of_lt hDj)
      have h2 : q * (D * 2 ^ j) ≤ 2 ^ 53 * (D * 2 ^ j) := Int.mul_le_mul_of_nonneg_right (by omega) (Int.le_of_lt hDj)
      unfold sgn at hv
      cases neg
      · simp only [Bool.false_eq_true, if_false] at hv; omega
      · simp only [if_true] at hv; omega
    have e := hcast (2 ^ 53) (by decide)
    rw [← e] at this
    have this2 := Int.ofNat_le.mp this
    simpa using this2
  have ht : t < infMag := by
    rcases Nat.lt_or_ge t infMag with h | h
    · exact h
    · exfalso
      have := htIff.mp (by omega)
      have hj2 : 2 ^ 53 * 2 ^ j ≤ 2 ^ 1127 := by
        rw [← Nat.pow_add]; exact Nat.pow_le_pow_right Nat.two_pos (by omega)
      have h3 : D * (2 ^ 53 * 2 ^ j) ≤ D * 2 ^ 1127 := Nat.mul_le_mul_left _ hj2
      have h4 : D * (2 * 2 ^ 1127) < D * ((2 ^ 54 - 1) * 2 ^ 2045) := Nat.mul_lt_mul_of_pos_left k1128 hD
      have h5 : D * (2 * 2 ^ 1127) = 2 * (D * 2 ^ 1127) := by rw [Nat.mul_left_comm]
      generalize 2 ^ 1127 = X1 at *
      generalize (2 ^ 54 - 1) * 2 ^ 2045 = X2 at *
      generalize 2 ^ 53 * 2 ^ j = X3 at *
      omega
  have hge : ∀ c : Int, 0 ≤ c → c.natAbs ≤ 2 ^ 53 → c * (D * 2 ^ j) ≤ W → c * 2 ^ j ≤ (V t : Int) := by
    intro c h0 h1 h2
    obtain ⟨t', ht'⟩ := v_hits (j := j) h1 (by omega) (by omega)
    have h3 : D * V t' ≤ W := by
      rw [ht']
      rw [← hcast c h0] at h2
      exact Int.ofNat_le.mp h2
    have := Int.ofNat_le.mpr (near_ge hD (hnear ht t').1 h3)
    rw [ht', Int.natCast_mul, Int.natCast_pow] at this
    have e : ((c.natAbs : Nat) : Int) = c := by omega
    rw [e] at this
    exact this
  have hle : ∀ c : Int, 0 ≤ c → c.natAbs ≤ 2 ^ 53 → W ≤ c * (D * 2 ^ j) → (V t : Int) ≤ c * 2 ^ j := by
    intro c h0 h1 h2
    obtain ⟨t', ht'⟩ := v_hits (j := j) h1 (by omega) (by omega)
    have h3 : W ≤ D * V t' := by
      rw [ht']
      rw [← hcast c h0] at h2
      exact Int.ofNat_le.mp h2
    have := Int.ofNat_le.mpr (near_le hD (hnear ht t').1 h3)
    rw [ht', Int.natCast_mul, Int.natCast_pow] at this
    have e : ((c.natAbs : Nat) : Int) = c := by omega
    rw [e] at this
    exact this
  obtain ⟨m, e, hdec, _⟩ := decode_pack neg ht
  have hval := val_pack neg ht
  have main : p * 2 ^ j ≤ val (pack neg t) ∧ val (pack neg t) ≤ q * 2 ^ j := by
    rw [hval]
    have hV : (0 : Int) ≤ V t := Int.natCast_nonneg _
    unfold sgn at hv ⊢
    cases neg
    · simp only [Bool.false_eq_true, if_false] at hv ⊢
      have hq0 : 0 ≤ q := by
        rcases Int.lt_or_le q 0 with h | h
        · have := Int.mul_neg_of_neg_of_pos h hDj; omega
        · exact h
      constructor
      · rcases Int.lt_or_le p 0 with h | h
        · have := Int.mul_neg_of_neg_of_pos h hpj; omega
        · exact hge p h hp (by omega)
      · exact hle q hq0 hq (by omega)
    · simp only [if_true] at hv ⊢
      have hp0 : 0 ≤ -p := by
        rcases Int.lt_or_le (-p) 0 with h | h
        · have := Int.mul_pos (show 0 < p by omega) hDj; omega
        · exact h
      constructor
      · have := hle (-p) hp0 (by omega) (by rw [Int.neg_mul]; omega)
        rw [Int.neg_mul] at this; omega
      · rcases Int.lt_or_le (-q) 0 with h | h
        · have := Int.mul_pos (show 0 < q by omega) hpj; omega
        · have := hge (-q) h (by omega) (by rw [Int.neg_mul]; omega)
          rw [Int.neg_mul] at this; omega
  refine ⟨⟨_, _, _, hdec⟩, ?_, ?_⟩
  · rw [eK, ← Int.mul_assoc]
    exact Int.mul_le_mul_of_nonneg_right main.1 (Int.le_of_lt hpk)
  · rw [eK, ← Int.mul_assoc]
    exact Int.mul_le_mul_of_nonneg_right main.2 (Int.le_of_lt hpk)
theorem Rg.weak {x : UInt64} {k : Nat} {lo hi lo' hi' : Int} (h : Rg x k lo hi) (h1 : lo' ≤ lo) (h2 : hi ≤ hi') : Rg x k lo' hi' :=
  ⟨h.fin, Int.le_trans (Int.mul_le_mul_of_nonneg_right h1 (Int.le_of_lt (Int.pow_pos (by decide)))) h.lo, Int.le_trans h.hi (Int.mul_le_mul_of_nonneg_right h2 (Int.le_of_lt (Int.pow_pos (by decide))))⟩
theorem Rg.up {x : UInt64} {k : Nat} {lo hi : Int} (h : Rg x k lo hi) (d : Nat) : Rg x (k + d) (lo * 2 ^ d) (hi * 2 ^ d) := by
  have hpd : (0 : Int) < 2 ^ d := Int.pow_pos (by decide)
  refine ⟨h.fin, ?_, ?_⟩
  · rw [Int.pow_add, ← Int.mul_assoc, Int.mul_right_comm lo]
    exact Int.mul_le_mul_of_nonneg_right h.lo (Int.le_of_lt hpd)
  · rw [Int.pow_add, ← Int.mul_assoc, Int.mul_right_comm hi]
    exact Int.mul_le_mul_of_nonneg_right h.hi (Int.le_of_lt hpd)

theorem rg_ofInt {n : Int} (h : n.natAbs ≤ 2 ^ 53) : Rg (ofInt n) 0 n n := by
  have e : sgn (decide (n < 0)) (n.natAbs * 2 ^ 1074) = n * 2 ^ 1074 := by
    rw [sgn_mul]
    have : sgn (decide (n < 0)) n.natAbs = n := by
      unfold sgn
      by_cases hn : n < 0
      · simp [hn]; omega
      · simp [hn]; omega
    rw [this, Int.natCast_pow]
    rfl
  refine rg_right (ofInt_right n) Nat.one_pos e (by decide) h h ?_ ?_ <;> simp

theorem rg_ofFrac {a : Int} {b : Int} (hb : 0 < b) {k : Nat} {p q : Int} (hk : k ≤ 1000) (hp : p.natAbs ≤ 2 ^ 53) (hq : q.natAbs ≤ 2 ^ 53) (hlo : p * b ≤ a * 2 ^ k) (hhi : a * 2 ^ k ≤ q * b) :
    Rg (ofFrac (decide (a < 0) != decide (b < 0)) a.natAbs b.natAbs) k p q := by
  have hs : (decide (a < 0) != decide (b < 0)) = decide (a < 0) := by
    have : ¬ b < 0 := by omega
    simp [this]
  rw [hs]
  have e : sgn (decide (a < 0)) (a.natAbs * 2 ^ 1074) = a * 2 ^ 1074 := by
    rw [sgn_mul]
    have : sgn (decide (a < 0)) a.natAbs = a := by
      unfold sgn
      by_cases hn : a < 0
      · simp [hn]; omega
      · simp [hn]; omega
    rw [this, Int.natCast_pow]
    rfl
  have hb' : ((b.natAbs : Nat) : Int) = b := by omega
  have hbn : 0 < b.natAbs := by omega
  have hP : (0 : Int) < 2 ^ 1074 := Int.pow_pos (by decide)
  refine rg_right (ofFrac_right (W := a.natAbs * 2 ^ 1074) hbn rfl hbn) hbn e hk hp hq ?_ ?_
  · rw [hb', ← Int.mul_assoc, Int.mul_right_comm a]
    exact Int.mul_le_mul_of_nonneg_right hlo (Int.le_of_lt hP)
  · rw [hb', ← Int.mul_assoc, Int.mul_right_comm a]
    exact Int.mul_le_mul_of_nonneg_right hhi (Int.le_of_lt hP)

theorem val_zero (b : Bool) : val (zero b) = 0 := by
  have := val_pack b (t := 0) (by decide)
  unfold zero
  rw [this]
  unfold sgn V
  cases b <;> simp
theorem fin_zero (b : Bool) : ∃ a m e, decode (zero b) = .fin a m e := by
  obtain ⟨m, e, h, _⟩ := decode_pack b (t := 0) (by decide)
  exact ⟨b, m, e, h⟩
theorem sgn_abs (v : Int) : sgn (decide (v < 0)) v.natAbs = v := by
  unfold sgn
  by_cases hn : v < 0
  · simp [hn]; omega
  · simp [hn]; omega

theorem rg_add {x y : UInt64} {k : Nat} {lo hi lo' hi' : Int} (hx : Rg x k lo hi) (hy : Rg y k lo' hi') (hk : k ≤ 1000) (hp : (lo + lo').natAbs ≤ 2 ^ 53) (hq : (hi + hi').natAbs ≤ 2 ^ 53) : Rg (add x y) k (lo + lo') (hi + hi') := by
  obtain ⟨a, m, e, dx⟩ := hx.fin
  obtain ⟨b, m', e', dy⟩ := hy.fin
  have h := add_right dx dy
  have l1 : (lo + lo') * 2 ^ 1074 ≤ (val x + val y) * 2 ^ k := by rw [Int.add_mul, Int.add_mul]; exact Int.add_le_add hx.lo hy.lo
  have l2 : (val x + val y) * 2 ^ k ≤ (hi + hi') * 2 ^ 1074 := by rw [Int.add_mul, Int.add_mul]; exact Int.add_le_add hx.hi hy.hi
  by_cases h0 : val x + val y = 0
  · rw [h.1 h0]
    rw [h0] at l1 l2
    exact ⟨fin_zero _, by rw [val_zero]; exact l1, by rw [val_zero]; exact l2⟩
  · refine rg_right (h.2 h0) Nat.one_pos (sgn_abs _) hk hp hq ?_ ?_
    · simpa using l1
    · simpa using l2
theorem rg_neg {y : UInt64} {k : Nat} {lo hi : Int} (hy : Rg y k lo hi) : Rg (neg y) k (-hi) (-lo) := by
  obtain ⟨b, m', e', dy⟩ := hy.fin
  refine ⟨⟨_, _, _, neg_decode dy⟩, ?_, ?_⟩
  · rw [neg_val dy, Int.neg_mul, Int.neg_mul]; exact Int.neg_le_neg hy.hi
  · rw [neg_val dy, Int.neg_mul, Int.neg_mul]; exact Int.neg_le_neg hy.lo
theorem rg_sub {x y : UInt64} {k : Nat} {lo hi lo' hi' : Int} (hx : Rg x k lo hi) (hy : Rg y k lo' hi') (hk : k ≤ 1000) (hp : (lo - hi').natAbs ≤ 2 ^ 53) (hq : (hi - lo').natAbs ≤ 2 ^ 53) : Rg (sub x y) k (lo - hi') (hi - lo') :=
  by unfold sub; exact rg_add hx (rg_neg hy) hk hp hq

theorem sgn_val {x : UInt64} {a : Bool} {m : Nat} {e : Int} (h : decode x = .fin a m e) : sgn a (val x).natAbs = val x := by
  rw [val_natAbs h, val_eq h]
theorem sgn_xor (a b : Bool) (m k : Nat) : sgn (a != b) (m * k) = sgn a m * sgn b k := by
  unfold sgn
  cases a <;> cases b <;> simp [Int.neg_mul, Int.mul_neg]

theorem Rg.exact {x : UInt64} {k : Nat} {n : Int} (h : Rg x k n n) : val x * 2 ^ k = n * 2 ^ 1074 := Int.le_antisymm h.hi h.lo

/-- the product of two exact ones -/
theorem rg_mul {x y : UInt64} {i j : Nat} {n c : Int} (hx : Rg x i n n) (hy : Rg y j c c) (hk : i + j ≤ 1000) (hp : (n * c).natAbs ≤ 2 ^ 53) : Rg (mul x y) (i + j) (n * c) (n * c) := by
  obtain ⟨a, m, e, dx⟩ := hx.fin
  obtain ⟨b, m', e', dy⟩ := hy.fin
  have h := mul_right dx dy
  have hv : sgn (a != b) ((val x).natAbs * (val y).natAbs) = val x * val y := by rw [sgn_xor, sgn_val dx, sgn_val dy]
  have key : val x * val y * 2 ^ (i + j) = n * c * (2 ^ 1074 * 2 ^ 1074) := by
    rw [Int.pow_add]
    calc val x * val y * (2 ^ i * 2 ^ j) = (val x * 2 ^ i) * (val y * 2 ^ j) := by
          generalize (2 : Int) ^ i = X; generalize (2 : Int) ^ j = Y
          ac_rfl
      _ = (n * 2 ^ 1074) * (c * 2 ^ 1074) := by rw [hx.exact, hy.exact]
      _ = _ := by
          generalize (2 : Int) ^ 1074 = X
          ac_rfl
  have e2 : (((2 ^ 1074 : Nat) : Int) * 2 ^ 1074) = 2 ^ 1074 * 2 ^ 1074 := by rw [Int.natCast_pow]; rfl
  refine rg_right h (Nat.pow_pos Nat.two_pos) hv hk hp hp ?_ ?_
  · rw [e2, key]; exact Int.le_refl _
  · rw [e2, key]; exact Int.le_refl _

/-- a quotient by an exact one above nought -/
theorem rg_div {x y : UInt64} {i j : Nat} {lo hi c : Int} (hx : Rg x i lo hi) (hy : Rg y j c c) (hc : 0 < c) {k : Nat} {p q : Int} (hk : k ≤ 1000) (hp : p.natAbs ≤ 2 ^ 53) (hq : q.natAbs ≤ 2 ^ 53)
    (hlo : p * c * 2 ^ i ≤ lo * 2 ^ j * 2 ^ k) (hhi : hi * 2 ^ j * 2 ^ k ≤ q * c * 2 ^ i) : Rg (div x y) k p q := by
  obtain ⟨a, m, e, dx⟩ := hx.fin
  obtain ⟨b, m', e', dy⟩ := hy.fin
  have hpw : ∀ n : Nat, (0 : Int) < 2 ^ n := fun n => Int.pow_pos (by decide)
  have hy0 : 0 < val y := by
    have h1 := hy.exact
    have h2 := Int.mul_pos hc (hpw 1074)
    rw [← h1] at h2
    rcases Int.lt_or_le 0 (val y) with h | h
    · exact h
    · have := Int.mul_le_mul_of_nonneg_right h (Int.le_of_lt (hpw j))
      rw [Int.zero_mul] at this; omega
  have hm' : m' ≠ 0 := by
    intro h0
    rw [val_eq dy, h0, Nat.zero_mul] at hy0
    unfold sgn at hy0
    cases b <;> simp at hy0
  have h := div_right dx dy hm'
  have hb : b = false := by
    cases b
    · rfl
    · rw [val_eq dy] at hy0
      unfold sgn at hy0
      simp only [if_true] at hy0
      omega
  subst hb
  have hv : sgn (a != false) ((val x).natAbs * 2 ^ 1074) = val x * 2 ^ 1074 := by
    rw [Bool.bne_false, sgn_mul, sgn_val dx, Int.natCast_pow]; rfl
  have hya : (((val y).natAbs : Nat) : Int) = val y := by omega
  refine rg_right h (by omega) hv hk hp hq ?_ ?_
  · rw [hya]
    refine Int.le_of_mul_le_mul_right ?_ (Int.mul_pos (hpw i) (hpw j))
    calc p * (val y * 2 ^ 1074) * (2 ^ i * 2 ^ j) = p * (val y * 2 ^ j) * 2 ^ i * 2 ^ 1074 := by
          generalize (2 : Int) ^ i = X; generalize (2 : Int) ^ j = Y; generalize (2 : Int) ^ 1074 = Z
          ac_rfl
      _ = (p * c * 2 ^ i) * (2 ^ 1074 * 2 ^ 1074) := by
          rw [hy.exact]
          generalize (2 : Int) ^ i = X; generalize (2 : Int) ^ 1074 = Z
          ac_rfl
      _ ≤ (lo * 2 ^ j * 2 ^ k) * (2 ^ 1074 * 2 ^ 1074) := Int.mul_le_mul_of_nonneg_right hlo (Int.le_of_lt (Int.mul_pos (hpw _) (hpw _)))
      _ = (lo * 2 ^ 1074) * (2 ^ j * 2 ^ k * 2 ^ 1074) := by
          generalize (2 : Int) ^ j = X; generalize (2 : Int) ^ k = Y; generalize (2 : Int) ^ 1074 = Z
          ac_rfl
      _ ≤ (val x * 2 ^ i) * (2 ^ j * 2 ^ k * 2 ^ 1074) := Int.mul_le_mul_of_nonneg_right hx.lo (Int.le_of_lt (Int.mul_pos (Int.mul_pos (hpw _) (hpw _)) (hpw _)))
      _ = _ := by
          generalize (2 : Int) ^ j = X; generalize (2 : Int) ^ k = Y; generalize (2 : Int) ^ 1074 = Z; generalize (2 : Int) ^ i = U
          ac_rfl
  · rw [hya]
    refine Int.le_of_mul_le_mul_right ?_ (Int.mul_pos (hpw i) (hpw j))
    calc val x * 2 ^ 1074 * 2 ^ k * (2 ^ i * 2 ^ j) = (val x * 2 ^ i) * (2 ^ j * 2 ^ k * 2 ^ 1074) := by
          generalize (2 : Int) ^ j = X; generalize (2 : Int) ^ k = Y; generalize (2 : Int) ^ 1074 = Z; generalize (2 : Int) ^ i = U
          ac_rfl
      _ ≤ (hi * 2 ^ 1074) * (2 ^ j * 2 ^ k * 2 ^ 1074) := Int.mul_le_mul_of_nonneg_right hx.hi (Int.le_of_lt (Int.mul_pos (Int.mul_pos (hpw _) (hpw _)) (hpw _)))
      _ = (hi * 2 ^ j * 2 ^ k) * (2 ^ 1074 * 2 ^ 1074) := by
          generalize (2 : Int) ^ j = X; generalize (2 : Int) ^ k = Y; generalize (2 : Int) ^ 1074 = Z
          ac_rfl
      _ ≤ (q * c * 2 ^ i) * (2 ^ 1074 * 2 ^ 1074) := Int.mul_le_mul_of_nonneg_right hhi (Int.le_of_lt (Int.mul_pos (hpw _) (hpw _)))
      _ = p * 0 + q * (val y * 2 ^ j) * 2 ^ i * 2 ^ 1074 := by
          rw [hy.exact, Int.mul_zero, Int.zero_add]
          generalize (2 : Int) ^ i = X; generalize (2 : Int) ^ 1074 = Z
          ac_rfl
      _ = _ := by
          rw [Int.mul_zero, Int.zero_add]
          generalize (2 : Int) ^ i = X; generalize (2 : Int) ^ j = Y; generalize (2 : Int) ^ 1074 = Z
          ac_rfl

/-- floor -/
theorem floor_val {x : UInt64} {s : Bool} {m : Nat} {e : Int} (h : decode x = .fin s m e) : floorOf s m e = val x / 2 ^ 1074 := by
  have he := decode_ge h
  rw [val_eq h, sgn_mul, Int.natCast_pow]
  unfold floorOf
  have hpw : ∀ n : Nat, (0 : Int) < 2 ^ n := fun n => Int.pow_pos (by decide)
  show _ = sgn s m * 2 ^ (e + 1074).toNat / 2 ^ 1074
  split
  · rename_i hc
    have e1 : (e + 1074).toNat = e.toNat + 1074 := by omega
    rw [e1, Int.pow_add, ← Int.mul_assoc, Int.mul_ediv_cancel _ (Int.ne_of_gt (hpw _))]
  · rename_i hc
    obtain ⟨f, hf⟩ : ∃ f : Nat, e = -(f : Int) ∧ f ≤ 1074 := ⟨(-e).toNat, by omega, by omega⟩
    obtain ⟨rfl, hf⟩ := hf
    have e1 : (-(f : Int) + 1074).toNat = 1074 - f := by omega
    have e2 : (-(-(f : Int))).toNat = f := by omega
    have e3 : (2 : Int) ^ 1074 = 2 ^ f * 2 ^ (1074 - f) := by rw [← Int.pow_add]; congr 1; omega
    rw [e1, e2, e3, Int.mul_ediv_mul_of_pos_left _ _ (hpw _), Int.fdiv_eq_ediv_of_nonneg _ (Int.le_of_lt (hpw _))]

theorem rg_floor {x : UInt64} {s : Bool} {m : Nat} {e : Int} (h : decode x = .fin s m e) {k : Nat} {lo hi : Int} (hx : Rg x k lo hi) {n : Int} (h1 : n * 2 ^ k ≤ lo) (h2 : hi < (n + 1) * 2 ^ k) : floorOf s m e = n := by
  rw [floor_val h]
  have hpw : ∀ n : Nat, (0 : Int) < 2 ^ n := fun n => Int.pow_pos (by decide)
  have a1 : n * 2 ^ 1074 ≤ val x := by
    refine Int.le_of_mul_le_mul_right ?_ (hpw k)
    calc n * 2 ^ 1074 * 2 ^ k = (n * 2 ^ k) * 2 ^ 1074 := Int.mul_right_comm _ _ _
      _ ≤ lo * 2 ^ 1074 := Int.mul_le_mul_of_nonneg_right h1 (Int.le_of_lt (hpw _))
      _ ≤ _ := hx.lo
  have a2 : val x < (n + 1) * 2 ^ 1074 := by
    refine Int.lt_of_mul_lt_mul_right ?_ (Int.le_of_lt (hpw k))
    calc val x * 2 ^ k ≤ hi * 2 ^ 1074 := hx.hi
      _ < ((n + 1) * 2 ^ k) * 2 ^ 1074 := Int.mul_lt_mul_of_pos_right h2 (hpw _)
      _ = _ := Int.mul_right_comm _ _ _
  have b1 := (Int.le_ediv_iff_mul_le (hpw 1074)).mpr a1
  have b2 := (Int.ediv_lt_iff_lt_mul (hpw 1074)).mpr a2
  generalize val x / 2 ^ 1074 = z at *
  clear a1 a2
  omega

theorem toInt_fin {f : Bool → Nat → Int → Int} {x : UInt64} {s : Bool} {m : Nat} {e : Int} (h : decode x = .fin s m e) : Flt.toInt f x = f s m e := Flt.toInt_fin h

theorem rg_toFloor {x : UInt64} {k : Nat} {lo hi : Int} (hx : Rg x k lo hi) {n : Int} (h1 : n * 2 ^ k ≤ lo) (h2 : hi < (n + 1) * 2 ^ k) : Flt.toInt floorOf x = n := by
  obtain ⟨a, m, e, d⟩ := hx.fin
  rw [Flt.toInt_fin d]
  exact rg_floor d hx h1 h2

theorem decode_neg_val {x : UInt64} {s : Bool} {m : Nat} {e : Int} (h : decode x = .fin s m e) : (s = true → val x ≤ 0) ∧ (s = false → 0 ≤ val x) := by
  rw [val_eq h]
  unfold sgn
  constructor
  · intro hs; subst hs; simp only [if_true]; generalize m * 2 ^ (e + 1074).toNat = z; omega
  · intro hs; subst hs; simp only [Bool.false_eq_true, if_false]; generalize m * 2 ^ (e + 1074).toNat = z; omega

/-- trunc of what lies at or above nought -/
theorem rg_toTrunc {x : UInt64} {k : Nat} {lo hi : Int} (hx : Rg x k lo hi) {n : Int} (hn : 0 ≤ n) (h1 : n * 2 ^ k ≤ lo) (h2 : hi < (n + 1) * 2 ^ k) : Flt.toInt truncOf x = n := by
  have hpw : ∀ n : Nat, (0 : Int) < 2 ^ n := fun n => Int.pow_pos (by decide)
  obtain ⟨a, m, e, d⟩ := hx.fin
  rw [Flt.toInt_fin d]
  have hf := rg_floor d hx h1 h2
  unfold truncOf
  cases a
  · simpa using hf
  · have hv := (decode_neg_val d).1 rfl
    have h0 : 0 ≤ val x := by
      have : 0 ≤ val x * 2 ^ k := Int.le_trans (Int.mul_nonneg (Int.le_trans (Int.mul_nonneg hn (Int.le_of_lt (hpw k))) h1) (Int.le_of_lt (hpw 1074))) hx.lo
      rcases Int.lt_or_le (val x) 0 with h | h
      · have := Int.mul_neg_of_neg_of_pos h (hpw k); omega
      · exact h
    have hz : val x = 0 := by omega
    have hf2 := floor_val d
    rw [hz, Int.zero_ediv] at hf2
    have hn0 : n = 0 := by omega
    subst hn0
    have hm : m = 0 := by
      have h3 := val_natAbs d
      rw [hz] at h3
      have h4 : m * 2 ^ (e + 1074).toNat = 0 := by omega
      rcases Nat.mul_eq_zero.mp h4 with h | h
      · exact h
      · exact absurd h (Nat.ne_of_gt (Nat.two_pow_pos _))
    subst hm
    simp [ceilOf, floorOf, sgn]

/-- trunc of what lies between -1 and nought -/
theorem rg_toTrunc0 {x : UInt64} {k : Nat} {lo hi : Int} (hx : Rg x k lo hi) (h1 : -(2 ^ k) < lo) (h2 : hi ≤ 0) : Flt.toInt truncOf x = 0 := by
  have hpw : ∀ n : Nat, (0 : Int) < 2 ^ n := fun n => Int.pow_pos (by decide)
  have hng := rg_neg hx
  obtain ⟨a, m, e, d⟩ := hx.fin
  have dn := neg_decode d
  rw [Flt.toInt_fin d]
  unfold truncOf
  cases a
  · have hv := (decode_neg_val d).2 rfl
    have hle : val x ≤ 0 := by
      have h3 : val x * 2 ^ k ≤ 0 := Int.le_trans hx.hi (Int.mul_nonpos_of_nonpos_of_nonneg h2 (Int.le_of_lt (hpw 1074)))
      rcases Int.lt_or_le 0 (val x) with h | h
      · have := Int.mul_pos h (hpw k); omega
      · exact h
    have hz : val x = 0 := by omega
    have hf2 := floor_val d
    rw [hz, Int.zero_ediv] at hf2
    simpa using hf2
  · have hf := rg_floor (n := 0) dn hng (by omega) (by omega)
    simp only [if_true]
    unfold ceilOf
    rw [hf]
    rfl

/-- z is the double nearest to a / b -/
def Qt (z : UInt64) (a b : Int) : Prop := ∀ (k : Nat) (p q : Int), k ≤ 1000 → p.natAbs ≤ 2 ^ 53 → q.natAbs ≤ 2 ^ 53 → p * b ≤ a * 2 ^ k → a * 2 ^ k ≤ q * b → Rg z k p q

theorem qt_ofFrac {a b : Int} (hb : 0 < b) : Qt (ofFrac (decide (a < 0) != decide (b < 0)) a.natAbs b.natAbs) a b := fun _ _ _ hk hp hq hlo hhi => rg_ofFrac hb hk hp hq hlo hhi

theorem qt_div {x : UInt64} {a b : Int} (hx : Rg x 0 a a) (hb : 0 < b) (hb2 : b ≤ 2 ^ 53) : Qt (div x (ofInt b)) a b := fun k p q hk hp hq hlo hhi =>
  rg_div hx (rg_ofInt (n := b) (by omega)) hb hk hp hq (by simpa using hlo) (by simpa using hhi)

theorem qt_bounds {a b : Int} (hb : 0 < b) (hb2 : b ≤ 2 ^ 20) (ha : a.natAbs ≤ 2 ^ 32 * b.natAbs) : (a / b).natAbs ≤ 2 ^ 32 := by
  have h1 := Int.emod_add_mul_ediv a b
  have h2 := Int.emod_nonneg a (Int.ne_of_gt hb)
  have h3 := Int.emod_lt_of_pos a hb
  generalize a / b = n at *
  rcases Int.lt_or_le n 0 with h | h
  · have h4 : -(2 ^ 32) ≤ n := by
      rcases Int.lt_or_le n (-(2 ^ 32)) with h5 | h5
      · exfalso
        have : b * n ≤ b * (-(2 ^ 32) - 1) := Int.mul_le_mul_of_nonneg_left (by omega) (Int.le_of_lt hb)
        omega
      · exact h5
    omega
  · have h4 : n ≤ 2 ^ 32 := by
      rcases Int.lt_or_le (2 ^ 32) n with h5 | h5
      · exfalso
        have : b * (2 ^ 32 + 1) ≤ b * n := Int.mul_le_mul_of_nonneg_left (by omega) (Int.le_of_lt hb)
        omega
      · exact h5
    omega

/-- z lies in [n, n + 1) with room to spare -/
abbrev Fl (z : UInt64) (n : Int) : Prop := Rg z 20 (n * 2 ^ 20) (n * 2 ^ 20 + 1048575)

theorem qt_fl {z : UInt64} {a b : Int} (h : Qt z a b) (hb : 0 < b) (hb2 : b ≤ 2 ^ 20) (ha : a.natAbs ≤ 2 ^ 32 * b.natAbs) : Fl z (a / b) := by
  have h0 := qt_bounds hb hb2 ha
  have h1 := Int.emod_add_mul_ediv a b
  have h2 := Int.emod_nonneg a (Int.ne_of_gt hb)
  have h3 := Int.emod_lt_of_pos a hb
  generalize a / b = n at *
  generalize a % b = r at *
  subst h1
  refine h 20 _ _ (by decide) (by omega) (by omega) ?_ ?_
  · have e : (r + b * n) * 2 ^ 20 = r * 2 ^ 20 + n * 2 ^ 20 * b := by rw [Int.add_mul]; congr 1; ac_rfl
    rw [e]; omega
  · have e : (r + b * n) * 2 ^ 20 = r * 2 ^ 20 + n * 2 ^ 20 * b := by rw [Int.add_mul]; congr 1; ac_rfl
    rw [e, Int.add_mul]
    have : r * 2 ^ 20 ≤ (b - 1) * 2 ^ 20 := Int.mul_le_mul_of_nonneg_right (by omega) (by decide)
    omega

theorem fl_floor {z : UInt64} {n : Int} (h : Fl z n) : Flt.toInt floorOf z = n := rg_toFloor h (Int.le_refl _) (by omega)
theorem fl_trunc {z : UInt64} {n : Int} (h : Fl z n) (hn : 0 ≤ n) : Flt.toInt truncOf z = n := rg_toTrunc h hn (Int.le_refl _) (by omega)
theorem fl_add {z : UInt64} {n i : Int} (h : Fl z n) (h1 : (n + i).natAbs ≤ 2 ^ 32) (h2 : i.natAbs ≤ 2 ^ 32) : Fl (add z (ofInt i)) (n + i) := by
  have hi := (rg_ofInt (n := i) (by omega)).up 20
  have := rg_add h hi (by decide) (by omega) (by omega)
  rw [← Int.add_mul] at this
  have e : n * 2 ^ 20 + 1048575 + i * 2 ^ 20 = (n + i) * 2 ^ 20 + 1048575 := by omega
  rw [e] at this
  exact this
theorem qt_trunc0 {z : UInt64} {a b : Int} (h : Qt z a b) (hb : 0 < b) (h1 : -b < a) (h2 : a ≤ 0) (hb2 : b ≤ 2 ^ 20) : Flt.toInt truncOf z = 0 := by
  have : Rg z 20 (-(2 ^ 20) + 1) 0 := by
    refine h 20 _ _ (by decide) (by decide) (by decide) ?_ ?_
    · have : (-b + 1) * 2 ^ 20 ≤ a * 2 ^ 20 := Int.mul_le_mul_of_nonneg_right (by omega) (by decide)
      omega
    · omega
  exact rg_toTrunc0 this (by decide) (by decide)

theorem ofBin_right {neg : Bool} {M : Nat} {g : Int} (h : -1074 ≤ g) : Right (ofBin neg M g) neg (M * 2 ^ (g + 1074).toNat) 1 := by
  unfold ofBin
  refine ofFrac_right (shift_pos _ _ _ (by decide)) ?_ (by decide)
  have := shift_one M g 1074 (by omega)
  rw [Nat.mul_one]
  exact this

theorem rg_isZero {x : UInt64} {k : Nat} {n : Int} (hx : Rg x k n n) : isZero x = decide (n = 0) := by
  have hpw : ∀ n : Nat, (0 : Int) < 2 ^ n := fun n => Int.pow_pos (by decide)
  obtain ⟨a, m, e, d⟩ := hx.fin
  have h1 : isZero x = decide (m = 0) := by
    unfold isZero
    rw [d]
    cases m <;> rfl
  rw [h1]
  apply decide_eq_decide.mpr
  have h2 := hx.exact
  have h3 := val_natAbs d
  constructor
  · intro hm
    subst hm
    have : val x = 0 := by rw [Nat.zero_mul] at h3; omega
    rw [this, Int.zero_mul] at h2
    rcases Int.mul_eq_zero.mp h2.symm with h | h
    · exact h
    · exact absurd h (Int.ne_of_gt (hpw _))
  · intro hn
    subst hn
    rw [Int.zero_mul] at h2
    have hv : val x = 0 := by
      rcases Int.mul_eq_zero.mp h2 with h | h
      · exact h
      · exact absurd h (Int.ne_of_gt (hpw _))
    rw [hv] at h3
    rcases Nat.mul_eq_zero.mp h3.symm with h | h
    · exact h
    · exact absurd h (Nat.ne_of_gt (Nat.two_pow_pos _))

theorem rg_lt0 {x : UInt64} {k : Nat} {n : Int} (hx : Rg x k n n) : lt x (zero false) = decide (n < 0) := by
  have hpw : ∀ n : Nat, (0 : Int) < 2 ^ n := fun n => Int.pow_pos (by decide)
  obtain ⟨a, m, e, d⟩ := hx.fin
  obtain ⟨b, k', f, d0⟩ := fin_zero false
  unfold lt
  rw [cmp_right d d0, val_zero]
  have h2 := hx.exact
  have : val x < 0 ↔ n < 0 := by
    constructor
    · intro h
      have h4 := Int.mul_neg_of_neg_of_pos h (hpw k)
      rcases Int.lt_or_le n 0 with h5 | h5
      · exact h5
      · have := Int.mul_nonneg h5 (Int.le_of_lt (hpw 1074)); omega
    · intro h
      have h4 := Int.mul_neg_of_neg_of_pos h (hpw 1074)
      rcases Int.lt_or_le (val x) 0 with h5 | h5
      · exact h5
      · have := Int.mul_nonneg h5 (Int.le_of_lt (hpw k)); omega
  by_cases h : n < 0
  · rw [Int.compare_eq_lt.mpr (this.mpr h)]
    simp [h]
  · have h' : ¬ val x < 0 := fun q => h (this.mp q)
    have : compare (val x) 0 ≠ .lt := fun q => h' (Int.compare_eq_lt.mp q)
    simp only [h, decide_false]
    cases hc : compare (val x) 0
    · exact absurd hc this
    · rfl
    · rfl

theorem fmod_ex {x y : UInt64} {n b : Int} (hx : Rg x 0 n n) (hy : Rg y 0 b b) (hb : 0 < b) (hb2 : b ≤ 2 ^ 53) : Rg (fmod x y) 0 (n.tmod b) (n.tmod b) := by
  have hpw : ∀ n : Nat, (0 : Int) < 2 ^ n := fun n => Int.pow_pos (by decide)
  obtain ⟨a, m, e, dx⟩ := hx.fin
  obtain ⟨c, k, f, dy⟩ := hy.fin
  have he := decode_ge dx
  have hf := decode_ge dy
  have ex := hx.exact
  have ey := hy.exact
  simp only [Int.pow_zero, Int.mul_one] at ex ey
  have vx := val_natAbs dx
  have vy := val_natAbs dy
  rw [ex, Int.natAbs_mul, Int.natAbs_pow] at vx
  rw [ey, Int.natAbs_mul, Int.natAbs_pow] at vy
  have e2 : (2 : Int).natAbs = 2 := rfl
  rw [e2] at vx vy
  have hk : k ≠ 0 := by
    intro h0
    rw [h0, Nat.zero_mul] at vy
    rcases Nat.mul_eq_zero.mp vy with h | h
    · omega
    · exact absurd h (Nat.ne_of_gt (Nat.two_pow_pos _))
  obtain ⟨g, hg⟩ : ∃ g, g = min e f := ⟨_, rfl⟩
  have hfm : fmod x y = ofBin a (m * 2 ^ (e - g).toNat % (k * 2 ^ (f - g).toNat)) g := by
    unfold fmod
    rw [dx, dy]
    simp only
    rw [if_neg (by simpa using hk)]
    have s1 : (sgn false (m * 2 ^ (e - g).toNat)).toNat = m * 2 ^ (e - g).toNat := by unfold sgn; simp only [Bool.false_eq_true, if_false]; exact Int.toNat_natCast _
    have s2 : (sgn false (k * 2 ^ (f - g).toNat)).toNat = k * 2 ^ (f - g).toNat := by unfold sgn; simp only [Bool.false_eq_true, if_false]; exact Int.toNat_natCast _
    unfold align
    simp only [← hg]
    rw [s1, s2]
  have a1 : (m * 2 ^ (e - g).toNat) * 2 ^ (g + 1074).toNat = n.natAbs * 2 ^ 1074 := by
    have e1 : (e - g).toNat + (g + 1074).toNat = (e + 1074).toNat := by omega
    rw [vx, Nat.mul_assoc, ← Nat.pow_add, e1]
  have a2 : (k * 2 ^ (f - g).toNat) * 2 ^ (g + 1074).toNat = b.natAbs * 2 ^ 1074 := by
    have e1 : (f - g).toNat + (g + 1074).toNat = (f + 1074).toNat := by omega
    rw [vy, Nat.mul_assoc, ← Nat.pow_add, e1]
  have a3 : (m * 2 ^ (e - g).toNat % (k * 2 ^ (f - g).toNat)) * 2 ^ (g + 1074).toNat = n.natAbs % b.natAbs * 2 ^ 1074 := by
    rw [← Nat.mul_mod_mul_right, a1, a2, Nat.mul_mod_mul_right]
  have R := ofBin_right (neg := a) (M := m * 2 ^ (e - g).toNat % (k * 2 ^ (f - g).toNat)) (g := g) (by omega)
  rw [a3, ← hfm] at R
  have hlt : n.natAbs % b.natAbs < b.natAbs := Nat.mod_lt _ (by omega)
  have hsg : sgn a (n.natAbs % b.natAbs * 2 ^ 1074) = n.tmod b * 2 ^ 1074 := by
    rw [sgn_mul, Int.natCast_pow]
    suffices hcore : sgn a (n.natAbs % b.natAbs) = n.tmod b by rw [hcore]; rfl
    have hv := decode_neg_val dx
    rw [ex] at hv
    unfold sgn
    have hb' : ((b.natAbs : Nat) : Int) = b := by omega
    cases a
    · have h0 : 0 ≤ n := by
        have := hv.2 rfl
        rcases Int.lt_or_le n 0 with h | h
        · have := Int.mul_neg_of_neg_of_pos h (hpw 1074); omega
        · exact h
      simp only [Bool.false_eq_true, if_false]
      rw [Int.natCast_emod, hb', Int.tmod_eq_emod_of_nonneg h0]
      have : ((n.natAbs : Nat) : Int) = n := by omega
      rw [this]
    · have h0 : n ≤ 0 := by
        have := hv.1 rfl
        rcases Int.lt_or_le 0 n with h | h
        · have := Int.mul_pos h (hpw 1074); omega
        · exact h
      simp only [if_true]
      rw [Int.natCast_emod, hb']
      have h3 : ((n.natAbs : Nat) : Int) = -n := by omega
      rw [h3]
      have h4 : n = -(-n) := by omega
      rw [h4, Int.neg_tmod, Int.neg_neg, Int.tmod_eq_emod_of_nonneg (by omega)]
  have hbd : (n.tmod b).natAbs ≤ 2 ^ 53 := by
    rw [Int.natAbs_tmod]; omega
  refine rg_right R Nat.one_pos hsg (by decide) hbd hbd ?_ ?_
  · simp
  · simp

theorem divmod_snd (x y : UInt64) : (divmod x y).2 = if isZero (fmod x y) then copysign (zero false) y else if lt y (zero false) != lt (fmod x y) (zero false) then add (fmod x y) y else fmod x y := by
  unfold divmod
  simp only
  by_cases h1 : isZero (fmod x y) = true
  · simp only [if_pos h1]
  · simp only [if_neg h1]
    by_cases h2 : (lt y (zero false) != lt (fmod x y) (zero false)) = true
    · simp only [if_pos h2]
    · simp only [if_neg h2]

theorem mod_ex {x : UInt64} {n b : Int} (hx : Rg x 0 n n) (hb : 0 < b) (hb2 : b ≤ 2 ^ 52) : Rg (divmod x (ofInt b)).2 0 (n % b) (n % b) := by
  have hy : Rg (ofInt b) 0 b b := rg_ofInt (by omega)
  have hm := fmod_ex hx hy hb (by omega)
  have t1 := Int.emod_nonneg n (Int.ne_of_gt hb)
  have t2 := Int.emod_lt_of_pos n hb
  rw [divmod_snd, rg_isZero hm, rg_lt0 hy, rg_lt0 hm]
  by_cases h0 : n.tmod b = 0
  · rw [if_pos (by simpa using h0)]
    have hn : n % b = 0 := Int.emod_eq_zero_of_dvd (Int.dvd_of_tmod_eq_zero h0)
    rw [hn]
    have hz : ∃ s, copysign (zero false) (ofInt b) = zero s := by
      refine ⟨signBit (ofInt b), ?_⟩
      unfold copysign
      rw [if_neg (by decide +kernel)]
      have : (zero false).toNat % 2 ^ 63 = 0 := by decide +kernel
      rw [this]; rfl
    obtain ⟨s, hs⟩ := hz
    rw [hs]
    exact ⟨fin_zero s, by rw [val_zero]; simp, by rw [val_zero]; simp⟩
  · rw [if_neg (by simpa using h0)]
    have hbn : decide (b < 0) = false := decide_eq_false (by omega)
    rw [hbn]
    by_cases h1 : n.tmod b < 0
    · rw [if_pos (by simp [h1])]
      have hn : n < 0 := by
        rcases Int.lt_or_le n 0 with h | h
        · exact h
        · have := Int.tmod_nonneg b h; omega
      have e : n % b = n.tmod b + b := by
        rw [Int.emod_eq_tmod]
        have : ¬ (0 ≤ n ∨ b ∣ n) := by
          rintro (h | h)
          · omega
          · exact h0 (Int.tmod_eq_zero_of_dvd h)
        rw [if_neg this]
        have : ((b.natAbs : Nat) : Int) = b := by omega
        rw [this]
      rw [e]
      have := rg_add hm hy (by decide) (by omega) (by omega)
      exact this
    · rw [if_neg (by simp [h1])]
      have e : n % b = n.tmod b := by
        rw [Int.emod_eq_tmod]
        have : 0 ≤ n ∨ b ∣ n := by
          rcases Int.lt_or_le n 0 with h | h
          · exfalso
            have h5 : n.tmod b ≤ 0 := by
              have h4 : n = -(-n) := by omega
              rw [h4, Int.neg_tmod]
              have := Int.tmod_nonneg b (show 0 ≤ -n by omega)
              omega
            omega
          · exact .inl h
        rw [if_pos this]; exact Int.add_zero _
      rw [e]
      exact hm

theorem cmp_by {K : Int} (hK : 0 < K) (p q : Int) : compare (p * K) (q * K) = compare p q := by
  show compareOfLessAndEq (p * K) (q * K) = compareOfLessAndEq p q
  unfold compareOfLessAndEq
  simp only [Int.mul_lt_mul_right hK, Int.mul_eq_mul_right_iff (Int.ne_of_gt hK)]
theorem rg_cmpInt {x : UInt64} {k : Nat} {n : Int} (hx : Rg x k n n) (i : Int) : cmpInt x i = some (compare n (i * 2 ^ k)) := by
  have hpw : ∀ n : Nat, (0 : Int) < 2 ^ n := fun n => Int.pow_pos (by decide)
  obtain ⟨a, m, e, d⟩ := hx.fin
  rw [cmpInt_right d, ← cmp_by (hpw k) (val x), hx.exact, ← cmp_by (hpw 1074) n, Int.mul_right_comm i]
end Mine
namespace Mine
def leapB (y : Int) : Bool := decide (y % 4 = 0 ∧ (y % 100 ≠ 0 ∨ y % 400 = 0))
def mlen (y m : Int) : Int := if m = 2 then (if leapB y then 29 else 28) else if m = 4 ∨ m = 6 ∨ m = 9 ∨ m = 11 then 30 else 31
/-- the number of a day of the Gregorian calendar: its noon -/
def gdn (y m d : Int) : Int := 1721425 + 365 * (y - 1) + (y - 1) / 4 - (y - 1) / 100 + (y - 1) / 400 + (367 * m - 362) / 12 + (if m ≤ 2 then 0 else if leapB y then -1 else -2) + d

/-- the number of a day of the Julian calendar, March or April -/
def jdn (y m d : Int) : Int := 1461 * (y + 4716) / 4 + 306001 * (m + 1) / 10000 + d - 1524
/-- the western Easter's words, as the code reckons them -/
def wK (y : Int) : Int := if y / 100 < 17 then 0 else (y / 100 - 17) / 25
def wI1 (y : Int) : Int := (y / 100 - y / 100 / 4 - (y / 100 - wK y) / 3 + 19 * (y % 19) + 15) % 30
def wI (y : Int) : Int := if wI1 y = 29 then 28 else if wI1 y = 28 ∧ 10 < y % 19 then 27 else wI1 y
def wL (y : Int) : Int := wI y - (y + y / 4 + wI y + 2 - y / 100 + y / 100 / 4) % 7
def eD (y later : Int) : Int := (19 * (y % 19) + 15) % 30 + (if y % 19 = 0 then later else 0)
/-- the Julian Easter: days behind March's last day but .. (1 is 1 April's 114 ..) -/
def eM (y later : Int) : Int := 113 + eD y later + (2 * (y % 4) + 4 * (y % 7) - eD y later + 6) % 7 + 1
theorem one_le_mlen (y m : Int) : 1 ≤ mlen y m := by
  unfold mlen
  split
  · split <;> decide
  · split <;> decide
theorem mlen_le (y m : Int) : mlen y m ≤ 31 := by
  unfold mlen
  split
  · split <;> decide
  · split <;> decide
theorem leap_iff (y : Int) : leapB y = true ↔ (y % 4 = 0 ∧ (y % 100 ≠ 0 ∨ y % 400 = 0)) := by unfold leapB; exact decide_eq_true_iff

theorem gdn_jan (y : Int) : gdn y 1 1 = 1721426 + 365 * (y - 1) + (y - 1) / 4 - (y - 1) / 100 + (y - 1) / 400 := by
  unfold gdn
  rw [if_pos (by decide)]
  omega

section
variable {D q r c r2 k r3 yi N : Int}
/-- the year of a day: an ordinary end -/
theorem yd_a (hD : D = N - 1721426) (hq : q = D / 146097) (hr : r = D % 146097) (hc : c = r / 36524) (hr2 : r2 = r % 36524) (hk : k = r2 / 1461) (hr3 : r3 = r2 % 1461) (hyi : yi = r3 / 365) (h1 : c ≠ 4) (h2 : yi ≠ 4) (hN : N.natAbs ≤ 2 ^ 40) :
    gdn (q * 400 + c * 100 + k * 4 + yi + 1) 1 1 ≤ N ∧ N - gdn (q * 400 + c * 100 + k * 4 + yi + 1) 1 1 ≤ 364 ∧ (q * 400 + c * 100 + k * 4 + yi + 1).natAbs ≤ 2 ^ 32 := by
  rw [gdn_jan]
  have b1 : 0 ≤ c ∧ c ≤ 3 := by omega
  have b2 : 0 ≤ k ∧ k ≤ 24 := by omega
  have b3 : 0 ≤ yi ∧ yi ≤ 3 := by omega
  have e0 : q * 400 + c * 100 + k * 4 + yi + 1 - 1 = 400 * q + 100 * c + 4 * k + yi := by omega
  have e1 : (400 * q + 100 * c + 4 * k + yi) / 4 = 100 * q + 25 * c + k := by omega
  have e2 : (400 * q + 100 * c + 4 * k + yi) / 100 = 4 * q + c := by omega
  have e3 : (400 * q + 100 * c + 4 * k + yi) / 400 = q := by omega
  rw [e0, e1, e2, e3]
  omega
/-- the last day of a leap year -/
theorem yd_b (hD : D = N - 1721426) (hq : q = D / 146097) (hr : r = D % 146097) (hc : c = r / 36524) (hr2 : r2 = r % 36524) (hk : k = r2 / 1461) (hr3 : r3 = r2 % 1461) (hyi : yi = r3 / 365) (h : c = 4 ∨ yi = 4) (hN : N.natAbs ≤ 2 ^ 40) :
    leapB (q * 400 + c * 100 + k * 4 + yi) = true ∧ N - gdn (q * 400 + c * 100 + k * 4 + yi) 1 1 = 365 ∧ (q * 400 + c * 100 + k * 4 + yi).natAbs ≤ 2 ^ 32 := by
  rw [gdn_jan, leap_iff]
  have hr0 : 0 ≤ r ∧ r < 146097 := by omega
  rcases h with h | h
  · have hr : r = 146096 := by omega
    have a1 : r2 = 0 := by omega
    have a2 : k = 0 := by omega
    have a3 : yi = 0 := by omega
    have e0 : q * 400 + c * 100 + k * 4 + yi = 400 * (q + 1) := by omega
    rw [e0]
    omega
  · have b1 : 0 ≤ c ∧ c ≤ 3 := by omega
    have b2 : 0 ≤ k ∧ k ≤ 24 := by omega
    have a1 : r3 = 1460 := by omega
    have b4 : c = 3 ∨ k ≤ 23 := by omega
    have e0 : q * 400 + c * 100 + k * 4 + yi = 400 * q + 100 * c + 4 * (k + 1) := by omega
    rw [e0]
    have e1 : (400 * q + 100 * c + 4 * (k + 1) - 1) / 4 = 100 * q + 25 * c + k := by omega
    have e2 : (400 * q + 100 * c + 4 * (k + 1) - 1) / 100 = 4 * q + c := by omega
    have e3 : (400 * q + 100 * c + 4 * (k + 1) - 1) / 400 = q := by omega
    rw [e1, e2, e3]
    refine ⟨⟨by omega, ?_⟩, by omega, by omega⟩
    omega
end

/-- the month of a day -/
theorem md_of {N Y yd adj mm lp : Int} (hmm : mm = ((yd + adj) * 12 + 373) / 367) (hlp : (leapB Y = true ∧ lp = 1) ∨ (leapB Y = false ∧ lp = 0)) (hyd : yd = N - gdn Y 1 1) (h0 : 0 ≤ yd) (h1 : yd ≤ 364 + lp) (hadj : (yd < 58 + lp ∧ adj = 0) ∨ (58 + lp ≤ yd ∧ adj = 2 - lp)) :
    (1 ≤ mm ∧ mm ≤ 12) ∧ 0 < N - gdn Y mm 1 + 1 ∧ N - gdn Y mm 1 + 1 ≤ mlen Y mm ∧ gdn Y mm (N - gdn Y mm 1 + 1) = N := by
  have hg : gdn Y mm 1 = gdn Y 1 1 + (367 * mm - 362) / 12 + (if mm ≤ 2 then 0 else if leapB Y then -1 else -2) := by
    unfold gdn
    rw [if_pos (show (1 : Int) ≤ 2 by decide)]
    omega
  have hg2 : gdn Y mm (N - gdn Y mm 1 + 1) = N := by
    have : ∀ d, gdn Y mm d = gdn Y mm 1 + d - 1 := by intro d; unfold gdn; omega
    rw [this]; omega
  have hlp2 : lp = 0 ∨ lp = 1 := by
    rcases hlp with ⟨_, h⟩ | ⟨_, h⟩
    · exact .inr h
    · exact .inl h
  have hmmb : 1 ≤ mm ∧ mm ≤ 12 := by omega
  refine ⟨hmmb, ?_, ?_, hg2⟩
  all_goals (
    rw [hg]
    clear hg hg2
    generalize gdn Y 1 1 = J at *
    obtain ⟨j, hj⟩ : ∃ j : Nat, mm = j := ⟨mm.toNat, by omega⟩
    have hj1 : 1 ≤ j ∧ j ≤ 12 := by omega)
  · rcases hlp with ⟨hL, hlp⟩ | ⟨hL, hlp⟩
    all_goals (
      simp only [hL, Bool.false_eq_true, if_false, if_true] at *
      split <;> omega)
  · unfold mlen
    rcases hlp with ⟨hL, hlp⟩ | ⟨hL, hlp⟩
    all_goals (
      simp only [hL, Bool.false_eq_true, if_false, if_true] at *
      have : j = 1 ∨ j = 2 ∨ j = 3 ∨ j = 4 ∨ j = 5 ∨ j = 6 ∨ j = 7 ∨ j = 8 ∨ j = 9 ∨ j = 10 ∨ j = 11 ∨ j = 12 := by omega
      rcases this with rfl | rfl | rfl | rfl | rfl | rfl | rfl | rfl | rfl | rfl | rfl | rfl <;> subst hj <;> simp <;> omega)
theorem md_end {N Y yd adj mm lp d : Int} (hd : d = N - gdn Y mm 1 + 1) (hmm : mm = ((yd + adj) * 12 + 373) / 367) (hlp : (leapB Y = true ∧ lp = 1) ∨ (leapB Y = false ∧ lp = 0)) (hyd : yd = N - gdn Y 1 1) (h0 : 0 ≤ yd) (h1 : yd ≤ 364 + lp) (hadj : (yd < 58 + lp ∧ adj = 0) ∨ (58 + lp ≤ yd ∧ adj = 2 - lp)) :
    gdn Y mm d = N ∧ 1 ≤ mm ∧ mm ≤ 12 ∧ 0 < d ∧ d ≤ mlen Y mm := by
  obtain ⟨⟨a, b⟩, c, e, f⟩ := md_of hmm hlp hyd h0 h1 hadj
  subst hd
  exact ⟨f, a, b, c, e⟩
theorem gdn_bound {y m d : Int} (hy : y.natAbs ≤ 2 ^ 32) (hm : 1 ≤ m ∧ m ≤ 12) (hd : 0 < d ∧ d ≤ mlen y m) : (gdn y m d).natAbs ≤ 2 ^ 42 := by
  have := mlen_le y m
  unfold gdn
  split
  · omega
  · split <;> omega
theorem leap_cases {N Y : Int} (_h : gdn Y 1 1 ≤ N) : leapB Y = true ∨ leapB Y = false := by cases leapB Y <;> simp

theorem west_i {y c q k c4 c3 i30 a a2 b r9 e r7 r6 : Int} (hy : 1583 ≤ y) (h14 : a = 0 ∧ r6 = 0 ∨ a = 1 ∧ r6 = 1 - r7) (h13 : r9 = 0 ∧ r7 = 0 ∨ r9 = 1 ∧ r7 = e) (h11 : a2 = 0 ∧ r9 = 0 ∨ a2 = 1 ∧ r9 = b)
    (h7 : a = (c - c4 - c3 + 19 * (y - 19 * q) + 15 - 30 * i30) / 28) (h8 : a2 = (c - c4 - c3 + 19 * (y - 19 * q) + 15 - 30 * i30) / 28)
    (h9 : 29 < c - c4 - c3 + 19 * (y - 19 * q) + 15 - 30 * i30 + 1 → b = 0) (h10 : c - c4 - c3 + 19 * (y - 19 * q) + 15 - 30 * i30 + 1 ≤ 29 → 29 < 2 * (c - c4 - c3 + 19 * (y - 19 * q) + 15 - 30 * i30 + 1) → b = 1)
    (h6 : i30 = (c - c4 - c3 + 19 * (y - 19 * q) + 15) / 30) (h1 : c = y / 100) (h2 : q = y / 19) (h3 : (0 ≤ c - 17 ∧ k = (c - 17) / 25) ∨ (c - 17 < 0 ∧ k = 0)) (h4 : c4 = c / 4) (h5 : c3 = (c - k) / 3) (h12 : e = (21 - (y - 19 * q)) / 11) :
    c - c4 - c3 + 19 * (y - 19 * q) + 15 - 30 * i30 - r6 = wI y ∧ 0 ≤ wI y ∧ wI y ≤ 28 := by
  have hk : wK y = k := by
    unfold wK
    rw [← h1]
    split <;> omega
  have hn : y % 19 = y - 19 * q := by omega
  have hi : wI1 y = c - c4 - c3 + 19 * (y - 19 * q) + 15 - 30 * i30 := by
    unfold wI1
    rw [hk, hn, ← h1, ← h4, ← h5]
    clear h7 h8 h9 h10 h11 h12 h13 h14 hk h3 h5 h4 h1
    omega
  have hb : 0 ≤ wI1 y ∧ wI1 y < 30 := by unfold wI1; omega
  have hnn : 0 ≤ y - 19 * q ∧ y - 19 * q ≤ 18 := by omega
  unfold wI
  rw [hn]
  rw [← hi] at h7 h8 h9 h10 ⊢
  generalize wI1 y = I at *
  generalize y - 19 * q = n at *
  clear h1 h2 h3 h4 h5 h6 hk hn hi hy
  split
  · have : a = 1 := by omega
    have : b = 0 := by omega
    omega
  · split
    · have : a = 1 := by omega
      have : b = 1 := by omega
      have : e = 0 := by omega
      omega
    · by_cases h28 : I = 28
      · have : a = 1 := by omega
        have : b = 1 := by omega
        have : e = 1 := by omega
        omega
      · have : a = 0 := by omega
        omega
theorem west_md {y c y4 c4 I j7 m44 m4 r0 : Int} (h7 : m4 = 0 ∧ r0 = 0 ∨ m4 = 1 ∧ r0 = 31) (h6 : m4 = (3 + m44) / 4) (h5 : m44 = (I - (y + y4 + I + 2 - c + c4 - 7 * j7) + 40) / 44) (h4 : j7 = (y + y4 + I + 2 - c + c4) / 7) (h1 : c = y / 100) (h2 : y4 = y / 4) (h3 : c4 = c / 4) (hI : I = wI y) (h8 : 0 ≤ wI y) (h9 : wI y ≤ 28) :
    (wL y ≤ 3 ∧ 3 + m44 = 3 ∧ I - (y + y4 + I + 2 - c + c4 - 7 * j7) + 28 - r0 = wL y + 28) ∨ (3 < wL y ∧ 3 + m44 = 4 ∧ I - (y + y4 + I + 2 - c + c4 - 7 * j7) + 28 - r0 = wL y - 3) := by
  have hL : wL y = I - (y + y4 + I + 2 - c + c4 - 7 * j7) := by
    unfold wL
    rw [← hI, ← h1, ← h2, ← h3]
    omega
  rw [← hI] at h8 h9
  have hb : 0 ≤ y + y4 + I + 2 - c + c4 - 7 * j7 ∧ y + y4 + I + 2 - c + c4 - 7 * j7 ≤ 6 := by omega
  rw [hL]
  generalize y + y4 + I + 2 - c + c4 - 7 * j7 = J at *
  omega

/-- the day number of the Julian Easter -/
def oN (y later : Int) : Int := jdn y (eM y later / 31) (eM y later % 31 + 1)
theorem eD_range {y later : Int} (h : later = 0 ∨ later = 1) : 0 ≤ eD y later ∧ eD y later ≤ 29 := by
  unfold eD
  split <;> omega
theorem eM_range {y later : Int} (h : later = 0 ∨ later = 1) : 114 ≤ eM y later ∧ eM y later ≤ 149 := by
  have := eD_range (y := y) h
  unfold eM
  omega
theorem jm_cases {M m d : Int} (h : 114 ≤ M ∧ M ≤ 149) (hm : m = M / 31) (hd : d = M % 31 + 1) : (m = 3 ∧ 0 < d ∧ d ≤ 31) ∨ (m = 4 ∧ 0 < d ∧ d ≤ 30) := by omega
theorem jdn_bound {y m d : Int} (hy : y.natAbs ≤ 2 ^ 31) (h : (m = 3 ∧ 0 < d ∧ d ≤ 31) ∨ (m = 4 ∧ 0 < d ∧ d ≤ 30)) : (jdn y m d).natAbs ≤ 2 ^ 40 := by
  unfold jdn
  omega
theorem jdn3 (y d : Int) : jdn y 3 d = 1461 * (y + 4716) / 4 + 122 + d - 1524 := by unfold jdn; omega
theorem jdn4 (y d : Int) : jdn y 4 d = 1461 * (y + 4716) / 4 + 153 + d - 1524 := by unfold jdn; omega
theorem jC3 {y d N : Int} (hl : 0 < d ∧ d ≤ 31) (hN : N = 1461 * (y + 4716) / 4 + 122 + d - 1524) : ∀ i : Int, i = N + 1524 → (4 * i - 489) / 1461 = y + 4716 := by intro i hi; omega
theorem jC4 {y d N : Int} (hl : 0 < d ∧ d ≤ 30) (hN : N = 1461 * (y + 4716) / 4 + 153 + d - 1524) : ∀ i : Int, i = N + 1524 → (4 * i - 489) / 1461 = y + 4716 := by intro i hi; omega

theorem year_bound {y m d N : Int} (h : gdn y m d = N) (hN : N.natAbs ≤ 2 ^ 40) (hm : 1 ≤ m ∧ m ≤ 12) (hd : 0 < d ∧ d ≤ mlen y m) : y.natAbs ≤ 2 ^ 32 := by
  have := mlen_le y m
  unfold gdn at h
  split at h
  · omega
  · split at h <;> omega
theorem oN_bound {y later : Int} (hy : y.natAbs ≤ 2 ^ 31) (h : later = 0 ∨ later = 1) : (oN y later).natAbs ≤ 2 ^ 40 := jdn_bound hy (jm_cases (eM_range h) rfl rfl)

/-- the day number of the western Easter -/
def wN (y : Int) : Int := gdn y 3 1 + wL y + 27
theorem wI_range (y : Int) : 0 ≤ wI y ∧ wI y ≤ 28 := by
  have : 0 ≤ wI1 y ∧ wI1 y < 30 := by unfold wI1; omega
  unfold wI
  split
  · omega
  · split <;> omega
theorem wL_range (y : Int) : -6 ≤ wL y ∧ wL y ≤ 28 := by
  have := wI_range y
  unfold wL
  omega
theorem gdn_m3 (y d : Int) : gdn y 3 d = gdn y 3 1 + d - 1 := by unfold gdn; omega
theorem gdn_m4 (y d : Int) : gdn y 4 d = gdn y 3 1 + 30 + d := by
  unfold gdn
  rw [if_neg (show ¬ (4 : Int) ≤ 2 by decide), if_neg (show ¬ (3 : Int) ≤ 2 by decide)]
  omega
theorem west_legal {y m d : Int} (h : (wL y ≤ 3 ∧ m = 3 ∧ d = wL y + 28) ∨ (3 < wL y ∧ m = 4 ∧ d = wL y - 3)) : (1 ≤ m ∧ m ≤ 12) ∧ (0 < d ∧ d ≤ mlen y m) ∧ gdn y m d = wN y := by
  have := wL_range y
  rcases h with ⟨h1, rfl, rfl⟩ | ⟨h1, rfl, rfl⟩
  · refine ⟨by decide, ⟨by omega, ?_⟩, ?_⟩
    · have : mlen y 3 = 31 := by unfold mlen; simp
      omega
    · rw [gdn_m3]; unfold wN; omega
  · refine ⟨by decide, ⟨by omega, ?_⟩, ?_⟩
    · have : mlen y 4 = 30 := by unfold mlen; simp
      omega
    · rw [gdn_m4]; unfold wN; omega
theorem west_time {y m d : Int} (h : (wL y ≤ 3 ∧ m = 3 ∧ d = wL y + 28) ∨ (3 < wL y ∧ m = 4 ∧ d = wL y - 3)) : (m = 3 ∧ 22 ≤ d ∧ d ≤ 31) ∨ (m = 4 ∧ 1 ≤ d ∧ d ≤ 25) := by
  have := wL_range y
  omega
end Mine
namespace Mine
theorem nat_dv (a b : Nat) : Nat.div a b = a / b := rfl
theorem nat_md (a b : Nat) : Nat.mod a b = a % b := rfl
theorem nat_eq {a b : Nat} (h : a = b) : Nat.beq a b = true := by subst h; exact Nat.beq_refl a
theorem nat_ne {a b : Nat} (h : ¬ a = b) : Nat.beq a b = false := by
  cases e : Nat.beq a b
  · rfl
  · exact absurd (Nat.eq_of_beq_eq_true e) h
theorem nat_le {a b : Nat} (h : a ≤ b) : Nat.ble a b = true := Nat.ble_eq_true_of_le h
theorem nat_nle {a b : Nat} (h : ¬ a ≤ b) : Nat.ble a b = false := by
  cases e : Nat.ble a b
  · rfl
  · exact absurd (Nat.le_of_ble_eq_true e) h
/-- the western Easter's words in plain Nat, for the kernel's own figures -/
def f1 (h g : Nat) : Nat := Nat.mod (Nat.add (Nat.sub (Nat.sub h (Nat.div h 4)) (Nat.div (Nat.sub h (Nat.div (Nat.sub h 17) 25)) 3)) (Nat.add (Nat.mul 19 g) 15)) 30
def f2 (i g : Nat) : Nat := cond (Nat.beq i 29) 28 (cond (Nat.beq i 28) (cond (Nat.ble 11 g) 27 28) i)
def fJ (y h i : Nat) : Nat := Nat.mod (Nat.add (Nat.sub (Nat.add y (Nat.add (Nat.div y 4) (Nat.add i 2))) h) (Nat.div h 4)) 7
/-- wL y and 6 -/
def fL3 (y h i : Nat) : Nat := Nat.sub (Nat.add i 6) (fJ y h i)
def fL (y : Nat) : Nat := fL3 y (Nat.div y 100) (f2 (f1 (Nat.div y 100) (Nat.mod y 19)) (Nat.mod y 19))
theorem f1_so {y : Nat} (hy : 1583 ≤ y) : (f1 (Nat.div y 100) (Nat.mod y 19) : Int) = wI1 y := by
  have e1 : Nat.div y 100 = y / 100 := rfl
  have e2 : Nat.mod y 19 = y % 19 := rfl
  rw [e1, e2]
  unfold f1 wI1 wK
  simp only [Nat.add_eq, Nat.sub_eq, Nat.mul_eq, nat_dv, nat_md]
  split <;> omega
theorem cond_eq {α : Type} (a b : Nat) (x y : α) : cond (Nat.beq a b) x y = if a = b then x else y := by
  by_cases h : a = b
  · rw [if_pos h, nat_eq h]; rfl
  · rw [if_neg h, nat_ne h]; rfl
theorem cond_le {α : Type} (a b : Nat) (x y : α) : cond (Nat.ble a b) x y = if a ≤ b then x else y := by
  by_cases h : a ≤ b
  · rw [if_pos h, nat_le h]; rfl
  · rw [if_neg h, nat_nle h]; rfl
theorem f2_so {i g : Nat} : f2 i g = if i = 29 then 28 else if i = 28 ∧ 10 < g then 27 else i := by
  unfold f2
  simp only [cond_eq, cond_le]
  repeat' split
  all_goals omega
theorem fL_so {y : Nat} (hy : 1583 ≤ y) : (fL y : Int) = wL y + 6 := by
  have h1 := f1_so hy
  unfold fL
  generalize hi : f1 (Nat.div y 100) (Nat.mod y 19) = i at *
  have h2 : (f2 i (Nat.mod y 19) : Int) = wI y := by
    rw [f2_so]
    have e2 : Nat.mod y 19 = y % 19 := rfl
    rw [e2]
    unfold wI
    rw [← h1]
    repeat' split
    all_goals omega
  generalize f2 i (Nat.mod y 19) = I at *
  have e1 : Nat.div y 100 = y / 100 := rfl
  rw [e1]
  unfold fL3 fJ wL
  rw [← h2]
  simp only [Nat.add_eq, Nat.sub_eq, Nat.mul_eq, nat_dv, nat_md]
  omega
/-- the orthodox Easter's: eD and the Sunday's -/
def fD (g : Nat) : Nat := Nat.mod (Nat.add (Nat.mul 19 g) 15) 30
def fE (y d : Nat) : Nat := Nat.add d (Nat.mod (Nat.sub (Nat.add (Nat.mul 2 (Nat.mod y 4)) (Nat.add (Nat.mul 4 (Nat.mod y 7)) 41)) d) 7)
theorem fE_so (y : Nat) : (fE y (fD (Nat.mod y 19)) : Int) = eD y 0 + (2 * ((y : Int) % 4) + 4 * ((y : Int) % 7) - eD y 0 + 6) % 7 := by
  have e2 : Nat.mod y 19 = y % 19 := rfl
  have h : (fD (Nat.mod y 19) : Int) = eD y 0 := by
    rw [e2]
    unfold fD eD
    simp only [Nat.add_eq, Nat.sub_eq, Nat.mul_eq, nat_dv, nat_md]
    split <;> omega
  have h30 : fD (Nat.mod y 19) < 30 := Nat.mod_lt _ (by decide)
  rw [← h]
  generalize fD (Nat.mod y 19) = d at *
  unfold fE
  simp only [Nat.add_eq, Nat.sub_eq, Nat.mul_eq, nat_dv, nat_md]
  omega
end Mine
namespace Mine
theorem eD_le {y later : Int} (h : later = 0 ∨ later = 1) : 0 ≤ eD y later ∧ eD y later ≤ 28 := by
  have h0 := Int.emod_nonneg y (show (19 : Int) ≠ 0 by decide)
  have h1 := Int.emod_lt_of_pos y (show (0 : Int) < 19 by decide)
  unfold eD
  generalize y % 19 = g at *
  have hg : g = 0 ∨ g = 1 ∨ g = 2 ∨ g = 3 ∨ g = 4 ∨ g = 5 ∨ g = 6 ∨ g = 7 ∨ g = 8 ∨ g = 9 ∨ g = 10 ∨ g = 11 ∨ g = 12 ∨ g = 13 ∨ g = 14 ∨ g = 15 ∨ g = 16 ∨ g = 17 ∨ g = 18 := by omega
  rcases h with rfl | rfl <;> rcases hg with rfl | rfl | rfl | rfl | rfl | rfl | rfl | rfl | rfl | rfl | rfl | rfl | rfl | rfl | rfl | rfl | rfl | rfl | rfl <;> decide
theorem e_time {y later m d : Int} (h : later = 0 ∨ later = 1) (hm : m = eM y later / 31) (hd : d = eM y later % 31 + 1) : (m = 3 ∧ 22 ≤ d ∧ d ≤ 31) ∨ (m = 4 ∧ 1 ≤ d ∧ d ≤ 25) := by
  have h1 := eD_le (y := y) h
  have : 114 ≤ eM y later ∧ eM y later ≤ 148 := by unfold eM; omega
  omega
theorem eM_per (y r later : Int) : eM (y + 532 * r) later = eM y later := by
  have h1 : (y + 532 * r) % 19 = y % 19 := by omega
  have h2 : (y + 532 * r) % 4 = y % 4 := by omega
  have h3 : (y + 532 * r) % 7 = y % 7 := by omega
  unfold eM eD
  rw [h1, h2, h3]
theorem oN_per (y r later : Int) : oN (y + 532 * r) later = oN y later + 194313 * r := by
  unfold oN
  rw [eM_per]
  unfold jdn
  omega
def eOk (later : Int) (i : Nat) : Bool := decide (oN (i : Int) later % 7 = 6) && (decide (oN ((i : Int) + 1) later - oN (i : Int) later = 350) || decide (oN ((i : Int) + 1) later - oN (i : Int) later = 357) || decide (oN ((i : Int) + 1) later - oN (i : Int) later = 378) || decide (oN ((i : Int) + 1) later - oN (i : Int) later = 385))
theorem e_all0 : (List.range 532).all (eOk 0) = true := by decide +kernel
theorem e_all1 : (List.range 532).all (eOk 1) = true := by decide +kernel
theorem e_all {later : Int} (h : later = 0 ∨ later = 1) : ∀ i, i < 532 → eOk later i = true := by
  intro i hi
  rcases h with rfl | rfl
  · exact List.all_eq_true.mp e_all0 i (List.mem_range.mpr hi)
  · exact List.all_eq_true.mp e_all1 i (List.mem_range.mpr hi)
theorem e_step {y later : Int} (h : later = 0 ∨ later = 1) : oN y later % 7 = 6 ∧ (oN (y + 1) later - oN y later = 350 ∨ oN (y + 1) later - oN y later = 357 ∨ oN (y + 1) later - oN y later = 378 ∨ oN (y + 1) later - oN y later = 385) := by
  obtain ⟨i, hi, r, hr⟩ : ∃ i : Nat, i < 532 ∧ ∃ r : Int, y = i + 532 * r := ⟨(y % 532).toNat, by omega, y / 532, by omega⟩
  have := e_all h i hi
  unfold eOk at this
  simp only [Bool.and_eq_true, Bool.or_eq_true, decide_eq_true_eq] at this
  have e1 : y + 1 = ((i : Int) + 1) + 532 * r := by omega
  rw [e1, hr, oN_per, oN_per]
  omega
theorem gdn_march (y : Int) : gdn y 3 1 = 1721485 + 365 * (y - 1) + y / 4 - y / 100 + y / 400 := by
  unfold gdn
  rw [if_neg (show ¬ (3 : Int) ≤ 2 by decide)]
  cases hL : leapB y
  · have : ¬ (y % 4 = 0 ∧ (y % 100 ≠ 0 ∨ y % 400 = 0)) := by rw [← leap_iff, hL]; decide
    simp only [Bool.false_eq_true, if_false]
    by_cases h4 : y % 4 = 0
    · by_cases h1 : y % 100 = 0
      · by_cases h2 : y % 400 = 0
        · omega
        · omega
      · omega
    · have : y % 100 ≠ 0 := by omega
      have : y % 400 ≠ 0 := by omega
      omega
  · have := (leap_iff y).mp hL
    simp only [if_true]
    obtain ⟨h4, h⟩ := this
    by_cases h1 : y % 100 = 0
    · have h2 : y % 400 = 0 := by omega
      omega
    · have h2 : y % 400 ≠ 0 := by omega
      omega
theorem w_sun (y : Int) : wN y % 7 = 6 := by
  unfold wN wL
  rw [gdn_march]
  have e : y / 100 / 4 = y / 400 := by omega
  rw [e]
  generalize wI y = I
  omega
theorem wN_bound {y : Int} (hy : 1583 ≤ y ∧ y ≤ 2 ^ 31) : (wN y).natAbs ≤ 2 ^ 40 := by
  have := wL_range y
  unfold wN
  rw [gdn_march]
  omega
theorem wN_lin (y : Int) : wN y = 1721120 + 365 * y + y / 4 - y / 100 + y / 400 + wL y + 27 := by
  unfold wN
  rw [gdn_march]
  omega
/-- the julian Easter's number in one line -/
theorem oN_lin {y later : Int} (h : later = 0 ∨ later = 1) : oN y later = 365 * y + y / 4 + 1721139 + eD y later + (2 * (y % 4) + 4 * (y % 7) - eD y later + 6) % 7 := by
  have h1 := eD_le (y := y) h
  unfold oN jdn eM
  generalize eD y later = D at *
  generalize he : (2 * (y % 4) + 4 * (y % 7) - D + 6) % 7 = e
  have he2 : 0 ≤ e ∧ e ≤ 6 := by omega
  clear he
  have hi : (113 + D + e + 1) / 31 = 3 ∨ (113 + D + e + 1) / 31 = 4 := by omega
  rcases hi with hi | hi
  · rw [hi]; omega
  · rw [hi]; omega
def anyF (a b c e d : Nat) : Bool := cond (Nat.beq d a) true (cond (Nat.beq d b) true (cond (Nat.beq d c) true (Nat.beq d e)))
theorem anyF_so {a b c e d : Nat} (h : anyF a b c e d = true) : d = a ∨ d = b ∨ d = c ∨ d = e := by
  unfold anyF at h
  simp only [cond_eq] at h
  split at h
  · omega
  split at h
  · omega
  split at h
  · omega
  have := Nat.eq_of_beq_eq_true h
  omega
def nG (a b : Nat) : Bool := cond (Nat.ble b a) (anyF 0 7 28 35 (Nat.sub a b)) false
def nF (y : Nat) : Bool := nG (Nat.add (fE y (fD (Nat.mod y 19))) (Nat.sub (Nat.div y 100) (Nat.div y 400))) (Nat.add (fL y) 2)
theorem n_all : (List.range 817).all (fun i => nF (Nat.add 1583 i)) = true := by decide +kernel
theorem nF_so {y : Nat} (hy : 1583 ≤ y) (h : nF y = true) : oN y 0 - wN y = 0 ∨ oN y 0 - wN y = 7 ∨ oN y 0 - wN y = 28 ∨ oN y 0 - wN y = 35 := by
  have h1 := fL_so hy
  have h2 := fE_so y
  have h3 := oN_lin (y := y) (later := 0) (.inl rfl)
  have h4 := wN_lin y
  unfold nF nG at h
  rw [cond_le] at h
  split at h
  · have := anyF_so h
    simp only [Nat.add_eq, Nat.sub_eq, nat_dv] at *
    generalize fE y (fD (Nat.mod y 19)) = A at *
    generalize fL y = B at *
    generalize (2 * ((y : Int) % 4) + 4 * ((y : Int) % 7) - eD y 0 + 6) % 7 = e at *
    omega
  · exact absurd h (by decide)
/-- the western Easter's day, less 1721141 -/
def wF (y : Nat) : Nat := Nat.sub (Nat.add (Nat.mul 365 y) (Nat.add (Nat.div y 4) (Nat.add (Nat.div y 400) (fL y)))) (Nat.div y 100)
theorem wF_so {y : Nat} (hy : 1583 ≤ y) : wN y = (wF y : Int) + 1721141 := by
  have h1 := fL_so hy
  have h4 := wN_lin y
  unfold wF
  simp only [Nat.add_eq, Nat.sub_eq, Nat.mul_eq, nat_dv] at *
  generalize fL y = B at *
  omega
def wG (a b : Nat) : Bool := cond (Nat.ble b a) (anyF 350 357 378 385 (Nat.sub a b)) false
def wOk (k : Nat) (i : Nat) : Bool := wG (wF (Nat.succ (Nat.add k i))) (wF (Nat.add k i))
theorem w_all0 : (List.range 700).all (wOk 1583) = true := by decide +kernel
theorem w_all1 : (List.range 700).all (wOk 2283) = true := by decide +kernel
theorem w_all2 : (List.range 700).all (wOk 2983) = true := by decide +kernel
theorem w_all3 : (List.range 700).all (wOk 3683) = true := by decide +kernel
theorem w_all4 : (List.range 700).all (wOk 4383) = true := by decide +kernel
theorem w_all5 : (List.range 700).all (wOk 5083) = true := by decide +kernel
theorem w_all6 : (List.range 700).all (wOk 5783) = true := by decide +kernel
theorem w_all7 : (List.range 700).all (wOk 6483) = true := by decide +kernel
theorem w_all8 : (List.range 700).all (wOk 7183) = true := by decide +kernel
theorem w_all9 : (List.range 700).all (wOk 7883) = true := by decide +kernel
theorem w_all10 : (List.range 700).all (wOk 8583) = true := by decide +kernel
theorem w_all11 : (List.range 700).all (wOk 9283) = true := by decide +kernel
theorem wOk_use {k : Nat} (h : (List.range 700).all (wOk k) = true) (hk : 1583 ≤ k) {y : Int} (h1 : (k : Int) ≤ y) (h2 : y < k + 700) : wN (y + 1) - wN y = 350 ∨ wN (y + 1) - wN y = 357 ∨ wN (y + 1) - wN y = 378 ∨ wN (y + 1) - wN y = 385 := by
  have := List.all_eq_true.mp h (y - k).toNat (List.mem_range.mpr (by omega))
  unfold wOk wG at this
  have e0 : Nat.add k (y - k).toNat = k + (y - k).toNat := rfl
  have e : ((Nat.add k (y - k).toNat : Nat) : Int) = y := by omega
  have e1 : ((Nat.succ (Nat.add k (y - k).toNat) : Nat) : Int) = y + 1 := by omega
  have g1 := wF_so (y := Nat.add k (y - k).toNat) (by omega)
  have g2 := wF_so (y := Nat.succ (Nat.add k (y - k).toNat)) (by omega)
  rw [e] at g1
  rw [e1] at g2
  rw [cond_le] at this
  split at this
  · have := anyF_so this
    generalize wF (Nat.succ (Nat.add k (y - k).toNat)) = A at *
    generalize wF (Nat.add k (y - k).toNat) = B at *
    rw [Nat.sub_eq] at this
    omega
  · exact absurd this (by decide)
theorem w_step {y : Int} (h1 : 1583 ≤ y) (h2 : y ≤ 9981) : wN (y + 1) - wN y = 350 ∨ wN (y + 1) - wN y = 357 ∨ wN (y + 1) - wN y = 378 ∨ wN (y + 1) - wN y = 385 := by
  by_cases c0 : y < 2283
  · exact wOk_use w_all0 (by decide) (by omega) (by omega)
  by_cases c1 : y < 2983
  · exact wOk_use w_all1 (by decide) (by omega) (by omega)
  by_cases c2 : y < 3683
  · exact wOk_use w_all2 (by decide) (by omega) (by omega)
  by_cases c3 : y < 4383
  · exact wOk_use w_all3 (by decide) (by omega) (by omega)
  by_cases c4 : y < 5083
  · exact wOk_use w_all4 (by decide) (by omega) (by omega)
  by_cases c5 : y < 5783
  · exact wOk_use w_all5 (by decide) (by omega) (by omega)
  by_cases c6 : y < 6483
  · exact wOk_use w_all6 (by decide) (by omega) (by omega)
  by_cases c7 : y < 7183
  · exact wOk_use w_all7 (by decide) (by omega) (by omega)
  by_cases c8 : y < 7883
  · exact wOk_use w_all8 (by decide) (by omega) (by omega)
  by_cases c9 : y < 8583
  · exact wOk_use w_all9 (by decide) (by omega) (by omega)
  by_cases c10 : y < 9283
  · exact wOk_use w_all10 (by decide) (by omega) (by omega)
  by_cases c11 : y < 9983
  · exact wOk_use w_all11 (by decide) (by omega) (by omega)
  omega
theorem near_law {y : Int} (h1 : 1583 ≤ y) (h2 : y ≤ 2399) : oN y 0 - wN y = 0 ∨ oN y 0 - wN y = 7 ∨ oN y 0 - wN y = 28 ∨ oN y 0 - wN y = 35 := by
  have := List.all_eq_true.mp n_all (y - 1583).toNat (List.mem_range.mpr (by omega))
  have e0 : Nat.add 1583 (y - 1583).toNat = 1583 + (y - 1583).toNat := rfl
  have e : ((Nat.add 1583 (y - 1583).toNat : Nat) : Int) = y := by omega
  have := nF_so (by omega) this
  rw [e] at this
  exact this
theorem any4 {r a b c d : Int} (h : r = a ∨ r = b ∨ r = c ∨ r = d) : [a, b, c, d].any (· == r) = true := by
  rcases h with rfl | rfl | rfl | rfl <;> simp
theorem near_r {r y : Int} (h : 2 * r = 2 * oN y 0 - 1 - (2 * wN y - 1)) (h1 : 1583 ≤ y) (h2 : y ≤ 2399) : r = 0 ∨ r = 7 ∨ r = 28 ∨ r = 35 := by
  have := near_law h1 h2
  omega
theorem wstep_r {r y : Int} (h : 2 * r = 2 * wN (y + 1) - 1 - (2 * wN y - 1)) (h1 : 1583 ≤ y) (h2 : y ≤ 9981) : r = 350 ∨ r = 357 ∨ r = 378 ∨ r = 385 := by
  have := w_step h1 h2
  omega
theorem estep0_r {r y : Int} (h : 2 * r = 2 * oN (y + 1) 0 - 1 - (2 * oN y 0 - 1)) : r = 350 ∨ r = 357 ∨ r = 378 ∨ r = 385 := by
  have := (e_step (y := y) (later := 0) (.inl rfl)).2
  omega
theorem estep1_r {r y : Int} (h : 2 * r = 2 * oN (y + 1) 1 - 1 - (2 * oN y 1 - 1)) : r = 350 ∨ r = 357 ∨ r = 378 ∨ r = 385 := by
  have := (e_step (y := y) (later := 1) (.inr rfl)).2
  omega
theorem two_list (ns : List Int) : ∃ a b, List.take 2 (List.take 2 ns ++ [0, 0]) = [a, b] := by
  match ns with
  | [] => exact ⟨_, _, rfl⟩
  | [a] => exact ⟨_, _, rfl⟩
  | a :: b :: r => exact ⟨_, _, rfl⟩
end Mine
open PySem PySem.W PyProof.Rows
namespace Mine
section
open PySem.Float64

theorem rg_isFinite {x : UInt64} {k : Nat} {lo hi : Int} (h : Rg x k lo hi) : PySem.Float64.isNaN x = false ∧ PySem.Float64.isInf x = false := by
  obtain ⟨a, m, e, d⟩ := h.fin
  constructor
  · unfold PySem.Float64.isNaN; rw [d]
  · unfold PySem.Float64.isInf; rw [d]

theorem rg_truncI {x : UInt64} {n : Int} (hx : Rg x 0 n n) : Flt.toInt truncOf x = n := by
  have hng := rg_neg hx
  obtain ⟨a, m, e, d⟩ := hx.fin
  have dn := neg_decode d
  have h1 := rg_floor d hx (n := n) (by simp) (by simp; omega)
  have h2 := rg_floor dn hng (n := -n) (by simp) (by simp; omega)
  rw [Flt.toInt_fin d]
  unfold truncOf
  cases a
  · simpa using h1
  · simp only [if_true]
    unfold ceilOf
    have h3 : floorOf (!true) m e = -n := h2
    rw [h3]; omega

theorem rg_half {x : UInt64} {n c : Int} (hx : Rg x 1 n n) (h : n = 2 * c) : Rg x 0 c c := by
  subst h
  have h1 := hx.lo
  have h2 := hx.hi
  refine ⟨hx.fin, ?_, ?_⟩
  · generalize (2 : Int) ^ 1074 = K at *
    have e : 2 * c * K = 2 * (c * K) := Int.mul_assoc _ _ _
    rw [e] at h1
    have : val x * 2 ^ 0 = val x := by simp
    rw [this]
    have : val x * 2 ^ 1 = 2 * val x := by omega
    rw [this] at h1
    omega
  · generalize (2 : Int) ^ 1074 = K at *
    have e : 2 * c * K = 2 * (c * K) := Int.mul_assoc _ _ _
    rw [e] at h2
    have : val x * 2 ^ 0 = val x := by simp
    rw [this]
    have : val x * 2 ^ 1 = 2 * val x := by omega
    rw [this] at h2
    omega

def rgB (x : UInt64) (k : Nat) (lo hi : Int) : Bool := PySem.Float64.isFinite x && decide (lo * 2 ^ 1074 ≤ val x * 2 ^ k) && decide (val x * 2 ^ k ≤ hi * 2 ^ 1074)
theorem rg_of {x : UInt64} {k : Nat} {lo hi : Int} (h : rgB x k lo hi = true) : Rg x k lo hi := by
  unfold rgB at h
  rw [Bool.and_eq_true, Bool.and_eq_true, decide_eq_true_eq, decide_eq_true_eq] at h
  obtain ⟨⟨h1, h2⟩, h3⟩ := h
  refine ⟨?_, h2, h3⟩
  unfold PySem.Float64.isFinite at h1
  split at h1
  · exact ⟨_, _, _, by assumption⟩
  · cases h1

theorem l_epoch : Rg 0x413a445180000000 1 3442851 3442851 := rg_of (by decide +kernel)
theorem l_half : Rg 0x3fe0000000000000 1 1 1 := rg_of (by decide +kernel)
theorem l_365 : Rg 0x4076d40000000000 2 1461 1461 := rg_of (by decide +kernel)
theorem l_1524 : Rg 0x4097d20000000000 1 3049 3049 := rg_of (by decide +kernel)
theorem l_122 : Rg 0x405e866666666666 45 4296011832046387 4296011832046387 := rg_of (by decide +kernel)
theorem l_122b : Rg 0x405e866666666666 5 3907 3908 := rg_of (by decide +kernel)

section
variable {prog : Program} {w : World} {A : Around} {E : Value → Shared → Prop} {s : Shared} {t u : Tok} {Q : Value → Shared → Prop} {x y : UInt64} {a b c i n : Int}

theorem w_div_ii (hA : A.handled = none) (hb : 0 < b) (ha : a.natAbs ≤ 2 ^ 50) (h : ∀ z, Qt z a b → Q (.float z s.toks) { s with toks := s.toks + 1 }) : wpAny (model prog w) A (binaryOp .Div (.int a t) (.int b u)) Q E s :=
  Flt.div_ii_fits hA (by have : (2 : Nat) ^ 50 < 2 ^ 1023 := by decide +kernel
                         omega) (fun hz => absurd hz (by omega)) fun _ _ => h _ (qt_ofFrac hb)

theorem not_over (hn : n.natAbs ≤ 2 ^ 53) : ¬ Flt.Over n := fun ho => by
  have := (rg_isFinite (rg_ofInt hn)).2
  rw [Flt.inf_of_over ho] at this; cases this

theorem w_div_fi (hx : Rg x 0 a a) (hA : A.handled = none) (hb : 0 < b) (hb2 : b ≤ 2 ^ 53) (h : ∀ z, Qt z a b → Q (.float z s.toks) { s with toks := s.toks + 1 }) : wpAny (model prog w) A (binaryOp .Div (.float x t) (.int b u)) Q E s :=
  Flt.truediv_fi hA (fun ho => absurd ho (not_over (by omega))) (fun hz => absurd hz (by omega)) fun _ _ => h _ (qt_div hx hb hb2)

theorem w_mod_fi (hx : Rg x 0 a a) (hA : A.handled = none) (hb : 0 < b) (hb2 : b ≤ 2 ^ 52) (h : ∀ z r, r = a % b → Rg z 0 r r → Q (.float z s.toks) { s with toks := s.toks + 1 }) : wpAny (model prog w) A (binaryOp .Mod (.float x t) (.int b u)) Q E s :=
  Flt.mod_fi hA (fun ho => absurd ho (not_over (by omega))) (fun hz => absurd hz (by omega)) fun _ _ => h _ _ rfl (mod_ex hx hb hb2)

theorem fit_of (h : n.natAbs ≤ 2 ^ 53) : n.natAbs < 2 ^ 1023 := by
  have : (2 : Nat) ^ 53 < 2 ^ 1023 := by decide +kernel
  omega

theorem up1 (hi : i.natAbs ≤ 2 ^ 53) : Rg (ofInt i) 1 (2 * i) (2 * i) := by
  have := (rg_ofInt (n := i) hi).up 1
  have e : i * 2 ^ 1 = 2 * i := by omega
  rw [e] at this
  exact this

theorem w_add_fi0 (hx : Rg x 0 n n) (hi : i.natAbs ≤ 2 ^ 52) (hn : n.natAbs ≤ 2 ^ 52) (h : ∀ z, Rg z 0 (n + i) (n + i) → Q (.float z s.toks) { s with toks := s.toks + 1 }) : wpAny (model prog w) A (binaryOp .Add (.float x t) (.int i u)) Q E s :=
  add_fi_fits (fit_of (by omega)) (h _ (rg_add hx (rg_ofInt (by omega)) (by decide) (by omega) (by omega)))
theorem w_add_fi1 (hx : Rg x 1 n n) (hi : i.natAbs ≤ 2 ^ 50) (hn : n.natAbs ≤ 2 ^ 52) (h : ∀ z, Rg z 1 (n + 2 * i) (n + 2 * i) → Q (.float z s.toks) { s with toks := s.toks + 1 }) : wpAny (model prog w) A (binaryOp .Add (.float x t) (.int i u)) Q E s :=
  add_fi_fits (fit_of (by omega)) (h _ (rg_add hx (up1 (by omega)) (by decide) (by omega) (by omega)))
theorem w_add_if1 (hx : Rg x 1 n n) (hi : i.natAbs ≤ 2 ^ 50) (hn : n.natAbs ≤ 2 ^ 52) (h : ∀ z, Rg z 1 (2 * i + n) (2 * i + n) → Q (.float z s.toks) { s with toks := s.toks + 1 }) : wpAny (model prog w) A (binaryOp .Add (.int i u) (.float x t)) Q E s :=
  add_if_fits (fit_of (by omega)) (h _ (rg_add (up1 (by omega)) hx (by decide) (by omega) (by omega)))
theorem w_sub_fi1 (hx : Rg x 1 n n) (hi : i.natAbs ≤ 2 ^ 50) (hn : n.natAbs ≤ 2 ^ 52) (h : ∀ z, Rg z 1 (n - 2 * i) (n - 2 * i) → Q (.float z s.toks) { s with toks := s.toks + 1 }) : wpAny (model prog w) A (binaryOp .Sub (.float x t) (.int i u)) Q E s :=
  sub_fi_fits (fit_of (by omega)) (h _ (rg_sub hx (up1 (by omega)) (by decide) (by omega) (by omega)))
theorem w_sub_if1 (hx : Rg x 1 n n) (hi : i.natAbs ≤ 2 ^ 50) (hn : n.natAbs ≤ 2 ^ 52) (h : ∀ z, Rg z 1 (2 * i - n) (2 * i - n) → Q (.float z s.toks) { s with toks := s.toks + 1 }) : wpAny (model prog w) A (binaryOp .Sub (.int i u) (.float x t)) Q E s :=
  sub_if_fits (fit_of (by omega)) (h _ (rg_sub (up1 (by omega)) hx (by decide) (by omega) (by omega)))

theorem w_add_ff (hx : Rg x 1 a a) (hy : Rg y 1 b b) (h1 : (a + b) % 2 = 0) (ha : a.natAbs ≤ 2 ^ 51) (hb : b.natAbs ≤ 2 ^ 51) (h : ∀ z r, 2 * r = a + b → Rg z 0 r r → Q (.float z s.toks) { s with toks := s.toks + 1 }) : wpAny (model prog w) A (binaryOp .Add (.float x t) (.float y u)) Q E s :=
  add_float (h _ ((a + b) / 2) (by omega) (rg_half (rg_add hx hy (by decide) (by omega) (by omega)) (by omega)))
theorem w_iadd_ff (hx : Rg x 1 a a) (hy : Rg y 1 b b) (h1 : (a + b) % 2 = 0) (ha : a.natAbs ≤ 2 ^ 51) (hb : b.natAbs ≤ 2 ^ 51) (h : ∀ z r, 2 * r = a + b → Rg z 0 r r → Q (.float z s.toks) { s with toks := s.toks + 1 }) : wpAny (model prog w) A (inplaceOp .Add (.float x t) (.float y u)) Q E s :=
  iadd_float (h _ ((a + b) / 2) (by omega) (rg_half (rg_add hx hy (by decide) (by omega) (by omega)) (by omega)))
theorem w_sub_ff (hx : Rg x 1 a a) (hy : Rg y 1 b b) (h1 : (a - b) % 2 = 0) (ha : a.natAbs ≤ 2 ^ 51) (hb : b.natAbs ≤ 2 ^ 51) (h : ∀ z r, 2 * r = a - b → Rg z 0 r r → Q (.float z s.toks) { s with toks := s.toks + 1 }) : wpAny (model prog w) A (binaryOp .Sub (.float x t) (.float y u)) Q E s :=
  sub_float (h _ ((a - b) / 2) (by omega) (rg_half (rg_sub hx hy (by decide) (by omega) (by omega)) (by omega)))

theorem w_mul_fi0 (hx : Rg x 0 n n) (hi : i.natAbs ≤ 2 ^ 53) (hn : (n * i).natAbs ≤ 2 ^ 53) (h : ∀ z, Rg z 0 (n * i) (n * i) → Q (.float z s.toks) { s with toks := s.toks + 1 }) : wpAny (model prog w) A (binaryOp .Mult (.float x t) (.int i u)) Q E s :=
  mul_fi_fits (fit_of hi) (h _ (rg_mul hx (rg_ofInt hi) (by decide) hn))
/-- twice a whole number and a half -/
theorem w_mul_2f (hi : i = 2) (hx : Rg x 1 n n) (hn : n.natAbs ≤ 2 ^ 51) (h : ∀ z, Rg z 0 n n → Q (.float z s.toks) { s with toks := s.toks + 1 }) : wpAny (model prog w) A (binaryOp .Mult (.int i u) (.float x t)) Q E s := by
  subst hi
  exact mul_if_fits (by decide +kernel) (h _ (rg_half (rg_mul (rg_ofInt (n := 2) (by decide)) hx (by decide) (by omega)) rfl))
theorem w_mul_365 (hc : x = 0x4076d40000000000) (hi : i.natAbs ≤ 2 ^ 42) (h : ∀ z, Rg z 2 (1461 * i) (1461 * i) → Q (.float z s.toks) { s with toks := s.toks + 1 }) : wpAny (model prog w) A (binaryOp .Mult (.float x t) (.int i u)) Q E s := by
  subst hc
  exact mul_fi_fits (fit_of (by omega)) (h _ (rg_mul l_365 (rg_ofInt (by omega)) (by decide) (by omega)))

theorem m306 : (List.range 24).all (fun i => rgB (mul 0x403e99a027525461 (ofInt (i : Nat))) 20 ((306001 * (i : Int) / 10000) * 2 ^ 20) ((306001 * (i : Int) / 10000) * 2 ^ 20 + 1048575)) = true := by decide +kernel
theorem w_mul_306 (hc : x = 0x403e99a027525461) (h0 : 0 ≤ i) (h1 : i < 24) (h : ∀ z, Fl z (306001 * i / 10000) → Q (.float z s.toks) { s with toks := s.toks + 1 }) : wpAny (model prog w) A (binaryOp .Mult (.float x t) (.int i u)) Q E s := by
  subst hc
  obtain ⟨j, rfl⟩ : ∃ j : Nat, i = j := ⟨i.toNat, by omega⟩
  have := List.all_eq_true.mp m306 j (List.mem_range.mpr (by omega))
  exact mul_fi_fits (fit_of (by omega)) (h _ (rg_of this))

theorem d306 : (List.range 72).all (fun i => rgB (div (ofInt ((i : Int) + 120)) 0x403e99a027525461) 20 ((10000 * ((i : Int) + 120) / 306001) * 2 ^ 20) ((10000 * ((i : Int) + 120) / 306001) * 2 ^ 20 + 1048575)) = true := by decide +kernel
theorem z306 : PySem.Float64.isZero 0x403e99a027525461 = false := by decide +kernel
theorem w_div_306 (hc : x = 0x403e99a027525461) (hA : A.handled = none) (h0 : 120 ≤ i) (h1 : i < 192) (h : ∀ z, Fl z (10000 * i / 306001) → Q (.float z s.toks) { s with toks := s.toks + 1 }) : wpAny (model prog w) A (binaryOp .Div (.int i u) (.float x t)) Q E s := by
  subst hc
  obtain ⟨j, rfl⟩ : ∃ j : Nat, i = (j : Int) + 120 := ⟨(i - 120).toNat, by omega⟩
  have := List.all_eq_true.mp d306 j (List.mem_range.mpr (by omega))
  exact Flt.truediv_if hA (fun ho => absurd ho (not_over (by omega))) (fun _ hz => by rw [z306] at hz; cases hz) fun _ _ => h _ (rg_of this)

/-- an int less 122.1: between 122 1/8 and 122 1/16 less -/
theorem w_sub_122 (hc : x = 0x405e866666666666) (hi : i.natAbs ≤ 2 ^ 44) (h : ∀ z, Rg z 5 (32 * i - 3908) (32 * i - 3907) → Q (.float z s.toks) { s with toks := s.toks + 1 }) : wpAny (model prog w) A (binaryOp .Sub (.int i u) (.float x t)) Q E s := by
  subst hc
  have h1 := (rg_ofInt (n := i) (by omega)).up 5
  have e : i * 2 ^ 5 = 32 * i := by omega
  rw [e] at h1
  exact sub_if_fits (fit_of (by omega)) (h _ (rg_sub h1 l_122b (by decide) (by omega) (by omega)))
theorem z365 : PySem.Float64.isZero 0x4076d40000000000 = false := by decide +kernel
theorem w_div_365 (hc : y = 0x4076d40000000000) (hx : Rg x 5 (32 * i - 3908) (32 * i - 3907)) (hA : A.handled = none) (hi : i.natAbs ≤ 2 ^ 40) (h : ∀ z, Fl z ((4 * i - 489) / 1461) → Q (.float z s.toks) { s with toks := s.toks + 1 }) : wpAny (model prog w) A (binaryOp .Div (.float x t) (.float y u)) Q E s := by
  subst hc
  exact truediv_float_or hA (fun hz => by rw [z365] at hz; cases hz) fun _ => h _ (rg_div hx l_365 (by decide) (by decide) (by omega) (by omega) (by omega) (by omega))

theorem w_div_365c (hc : y = 0x4076d40000000000) (hx : Rg x 5 (32 * i - 3908) (32 * i - 3907)) (hA : A.handled = none) (hi : i.natAbs ≤ 2 ^ 40) (hq : (4 * i - 489) / 1461 = c) (h : ∀ z, Fl z c → Q (.float z s.toks) { s with toks := s.toks + 1 }) : wpAny (model prog w) A (binaryOp .Div (.float x t) (.float y u)) Q E s :=
  w_div_365 hc hx hA hi fun z hz => h z (hq ▸ hz)
theorem w_floor (hx : Rg x c.toNat a b) (h1 : Flt.toInt floorOf x = n) (hA : A.handled = none) (h : Q (.int n s.toks) { s with toks := s.toks + 1 }) : wpAny (model prog w) A (call (.builtin "math.floor") [.float x t]) Q E s :=
  Flt.call_floor_float hA (fun hz => by rw [(rg_isFinite hx).1] at hz; cases hz) (fun hz => by rw [(rg_isFinite hx).2] at hz; cases hz) fun _ => by rw [h1]; exact h
theorem w_floor' {k : Nat} (hx : Rg x k a b) (h1 : Flt.toInt floorOf x = n) (hA : A.handled = none) (h : Q (.int n s.toks) { s with toks := s.toks + 1 }) : wpAny (model prog w) A (call (.builtin "math.floor") [.float x t]) Q E s :=
  Flt.call_floor_float hA (fun hz => by rw [(rg_isFinite hx).1] at hz; cases hz) (fun hz => by rw [(rg_isFinite hx).2] at hz; cases hz) fun _ => by rw [h1]; exact h
theorem w_floor_qt (hx : Qt x a b) (hA : A.handled = none) (hb : 0 < b) (hb2 : b ≤ 2 ^ 20) (ha : a.natAbs ≤ 2 ^ 32 * b.natAbs) (h : ∀ r, r = a / b → Q (.int r s.toks) { s with toks := s.toks + 1 }) : wpAny (model prog w) A (call (.builtin "math.floor") [.float x t]) Q E s :=
  w_floor' (qt_fl hx hb hb2 ha) (fl_floor (qt_fl hx hb hb2 ha)) hA (h _ rfl)
theorem w_floor_fl (hx : Fl x n) (hA : A.handled = none) (h : Q (.int n s.toks) { s with toks := s.toks + 1 }) : wpAny (model prog w) A (call (.builtin "math.floor") [.float x t]) Q E s :=
  w_floor' hx (fl_floor hx) hA h
theorem w_floor_0 (hx : Rg x 0 n n) (hA : A.handled = none) (h : Q (.int n s.toks) { s with toks := s.toks + 1 }) : wpAny (model prog w) A (call (.builtin "math.floor") [.float x t]) Q E s :=
  w_floor' hx (rg_toFloor hx (by simp) (by simp; omega)) hA h
theorem w_floor_2 (hx : Rg x 2 n n) (hA : A.handled = none) (h : ∀ r, r = n / 4 → Q (.int r s.toks) { s with toks := s.toks + 1 }) : wpAny (model prog w) A (call (.builtin "math.floor") [.float x t]) Q E s :=
  w_floor' hx (rg_toFloor hx (by omega) (by omega)) hA (h _ rfl)

theorem w_trunc' {k : Nat} (hx : Rg x k a b) (h1 : Flt.toInt truncOf x = n) (hA : A.handled = none) (h : Q (.int n s.toks) { s with toks := s.toks + 1 }) : wpAny (model prog w) A (call (.builtin "math.trunc") [.float x t]) Q E s :=
  Flt.call_trunc_float hA (fun hz => by rw [(rg_isFinite hx).1] at hz; cases hz) (fun hz => by rw [(rg_isFinite hx).2] at hz; cases hz) fun _ => by rw [h1]; exact h
theorem w_trunc_qt (hx : Qt x a b) (hA : A.handled = none) (hb : 0 < b) (h0 : 0 ≤ a) (hb2 : b ≤ 2 ^ 20) (ha : a.natAbs ≤ 2 ^ 32 * b.natAbs) (h : ∀ r, r = a / b → Q (.int r s.toks) { s with toks := s.toks + 1 }) : wpAny (model prog w) A (call (.builtin "math.trunc") [.float x t]) Q E s :=
  w_trunc' (qt_fl hx hb hb2 ha) (fl_trunc (qt_fl hx hb hb2 ha) (Int.ediv_nonneg h0 (Int.le_of_lt hb))) hA (h _ rfl)
/-- a numerator that may lie somewhat below nought -/
theorem w_trunc_qtm (hx : Qt x a b) (hA : A.handled = none) (hb : 0 < b) (h0 : -b < a) (hb2 : b ≤ 2 ^ 20) (ha : a.natAbs ≤ 2 ^ 32 * b.natAbs) (h : ∀ r, (0 ≤ a ∧ r = a / b) ∨ (a < 0 ∧ r = 0) → Q (.int r s.toks) { s with toks := s.toks + 1 }) : wpAny (model prog w) A (call (.builtin "math.trunc") [.float x t]) Q E s := by
  rcases Int.lt_or_le a 0 with hn | hn
  · exact w_trunc' (qt_fl hx hb hb2 ha) (qt_trunc0 hx hb h0 (by omega) hb2) hA (h 0 (.inr ⟨hn, rfl⟩))
  · exact w_trunc_qt hx hA hb hn hb2 ha fun r hr => h r (.inl ⟨hn, hr⟩)
/-- a denominator that is no written number: what is known of the quotient -/
theorem w_trunc_var (hx : Qt x a b) (hA : A.handled = none) (hb : 0 < b) (h0 : 0 ≤ a) (hb2 : b ≤ 2 ^ 20) (ha : a.natAbs ≤ 2 ^ 32 * b.natAbs) (h : ∀ r, r = a / b → 0 ≤ r → r ≤ a → (a < b → r = 0) → (b ≤ a → a < 2 * b → r = 1) → Q (.int r s.toks) { s with toks := s.toks + 1 }) : wpAny (model prog w) A (call (.builtin "math.trunc") [.float x t]) Q E s :=
  w_trunc_qt hx hA hb h0 hb2 ha fun r hr => h r hr (hr ▸ Int.ediv_nonneg h0 (Int.le_of_lt hb)) (hr ▸ Int.ediv_le_self _ h0) (fun hl => hr ▸ Int.ediv_eq_zero_of_lt h0 hl) fun h1 h2 => by
    have e := Int.emod_add_mul_ediv a b
    have e1 := Int.emod_nonneg a (Int.ne_of_gt hb)
    have e2 := Int.emod_lt_of_pos a hb
    rw [← hr] at e
    rcases Int.lt_trichotomy r 1 with h3 | h3 | h3
    · exfalso
      have : b * r ≤ b * 0 := Int.mul_le_mul_of_nonneg_left (by omega) (Int.le_of_lt hb)
      omega
    · exact h3
    · exfalso
      have : b * 2 ≤ b * r := Int.mul_le_mul_of_nonneg_left (by omega) (Int.le_of_lt hb)
      omega
theorem mul_ok (ha : a.natAbs ≤ 2 ^ 60) : a.natAbs < 2 ^ 63 := by omega
/-- a product by nought or one -/
theorem w_mul_01 (h0 : 0 ≤ a) (h1 : a ≤ 1) (hb : b.natAbs ≤ 2 ^ 40) (h : ∀ r, (a = 0 ∧ r = 0) ∨ (a = 1 ∧ r = b) → Q (.int r s.toks) { s with toks := s.toks + 1 }) : wpAny (model prog w) A (binaryOp .Mult (.int a t) (.int b u)) Q E s := by
  have : a = 0 ∨ a = 1 := by omega
  rcases this with rfl | rfl
  · exact mul_int (by rw [Int.zero_mul]; exact h 0 (.inl ⟨rfl, rfl⟩))
  · exact mul_int (by rw [Int.one_mul]; exact h b (.inr ⟨rfl, rfl⟩))
theorem w_mul_10 (h0 : 0 ≤ b) (h1 : b ≤ 1) (hb : a.natAbs ≤ 2 ^ 40) (h : ∀ r, (b = 0 ∧ r = 0) ∨ (b = 1 ∧ r = a) → Q (.int r s.toks) { s with toks := s.toks + 1 }) : wpAny (model prog w) A (binaryOp .Mult (.int a t) (.int b u)) Q E s := by
  have : b = 0 ∨ b = 1 := by omega
  rcases this with rfl | rfl
  · exact mul_int (by rw [Int.mul_zero]; exact h 0 (.inl ⟨rfl, rfl⟩))
  · exact mul_int (by rw [Int.mul_one]; exact h a (.inr ⟨rfl, rfl⟩))
theorem w_trunc_0 (hx : Rg x 0 n n) (hA : A.handled = none) (h : Q (.int n s.toks) { s with toks := s.toks + 1 }) : wpAny (model prog w) A (call (.builtin "math.trunc") [.float x t]) Q E s :=
  w_trunc' hx (rg_truncI hx) hA h
theorem w_int_0 (hx : Rg x 0 n n) (hA : A.handled = none) (h : Q (.int n s.toks) { s with toks := s.toks + 1 }) : wpAny (model prog w) A (call (.type "int") [.float x t]) Q E s :=
  Flt.call_int_float3 hA (fun hz => by rw [(rg_isFinite hx).1] at hz; cases hz) (fun hz => by rw [(rg_isFinite hx).2] at hz; cases hz) fun _ => by rw [rg_truncI hx]; exact h

theorem w_add_fi_qt (hx : Qt x a b) (hb : 0 < b) (hb2 : b ≤ 2 ^ 20) (ha : a.natAbs ≤ 2 ^ 32 * b.natAbs) (hi : i.natAbs ≤ 2 ^ 32) (hn : (a / b + i).natAbs ≤ 2 ^ 32) (h : ∀ z, Fl z (a / b + i) → Q (.float z s.toks) { s with toks := s.toks + 1 }) : wpAny (model prog w) A (binaryOp .Add (.float x t) (.int i u)) Q E s :=
  add_fi_fits (fit_of (by omega)) (h _ (fl_add (qt_fl hx hb hb2 ha) hn hi))
theorem w_add_fi_fl (hx : Fl x n) (hi : i.natAbs ≤ 2 ^ 32) (hn : (n + i).natAbs ≤ 2 ^ 32) (h : ∀ z, Fl z (n + i) → Q (.float z s.toks) { s with toks := s.toks + 1 }) : wpAny (model prog w) A (binaryOp .Add (.float x t) (.int i u)) Q E s :=
  add_fi_fits (fit_of (by omega)) (h _ (fl_add hx hn hi))

theorem w_mod_ii (hb : 0 < b) (h : Q (.int (a % b) s.toks) { s with toks := s.toks + 1 }) : wpAny (model prog w) A (binaryOp .Mod (.int a t) (.int b u)) Q E s :=
  mod_int' (by omega) (by rw [Int.fmod_eq_emod_of_nonneg _ (by omega)]; exact h)
theorem w_fdiv_ii (hb : 0 < b) (hb2 : b < 1073741824) (h : Q (.int (a / b) s.toks) { s with toks := s.toks + 1 }) : wpAny (model prog w) A (binaryOp .FloorDiv (.int a t) (.int b u)) Q E s :=
  floordiv_int (by omega) (by rw [Int.fdiv_eq_ediv_of_nonneg _ (by omega)]; exact h) (Or.inl (PyProof.noPylong_small (by omega)))
theorem w_add_it (h : Q (.int (a + 1) s.toks) { s with toks := s.toks + 1 }) : wpAny (model prog w) A (binaryOp .Add (.int a t) (.bool true)) Q E s := add_int_bool h
theorem w_add_if (h : Q (.int (a + 0) s.toks) { s with toks := s.toks + 1 }) : wpAny (model prog w) A (binaryOp .Add (.int a t) (.bool false)) Q E s := add_int_bool h
theorem w_lt_fi (hx : Rg x 0 n n) (h : Q (.bool (decide (n < i))) s) : wpAny (model prog w) A (compareOp .Lt (.float x t) (.int i u)) Q E s := by
  refine lt_fi ?_
  rw [rg_cmpInt hx]
  have : (some (compare n (i * 2 ^ 0)) == some Ordering.lt) = decide (n < i) := by
    have e : i * 2 ^ 0 = i := by simp
    rw [e]
    by_cases hc : n < i
    · rw [Int.compare_eq_lt.mpr hc]; simp [hc]
    · have : compare n i ≠ .lt := fun q => hc (Int.compare_eq_lt.mp q)
      simp only [hc, decide_false]
      cases hd : compare n i
      · exact absurd hd this
      · rfl
      · rfl
  rw [this]; exact h
theorem w_eq_fi (hx : Rg x 0 n n) (h : Q (.bool (decide (n = i))) s) : wpAny (model prog w) A (compareOp .Eq (.float x t) (.int i u)) Q E s := by
  refine eq_fi ?_
  rw [rg_cmpInt hx]
  have : (some (compare n (i * 2 ^ 0)) == some Ordering.eq) = decide (n = i) := by
    have e : i * 2 ^ 0 = i := by simp
    rw [e]
    by_cases hc : n = i
    · subst hc; simp
    · have : compare n i ≠ .eq := fun q => hc (Int.compare_eq_eq.mp q)
      simp only [hc, decide_false]
      cases hd : compare n i
      · rfl
      · exact absurd hd this
      · rfl
  rw [this]; exact h
end
end
end Mine
namespace Mine
section
open PySem.Calls
section
variable {prog : Program} {w : World} {A : Around} {E : Value → Shared → Prop} {s : Shared}
theorem le_pair_tree {a b : Addr} {x1 x2 y1 y2 : Int} {t1 t2 u1 u2 : Tok} {P : Fin → Shared → Prop} (ha : IsTup s.heap a #[.int x1 t1, .int x2 t2]) (hb : IsTup s.heap b #[.int y1 u1, .int y2 u2])
    (h : P (.done (.ret (.bool (decide (x1 < y1 ∨ (x1 = y1 ∧ x2 ≤ y2)))))) s) :
    wpAny (model prog w) A (Builtin.«tuple.__le__» ⟨[.ref a, .ref b], []⟩) P E s := by
  have hTb := hb.typeIs
  obtain ⟨oa, hoa, _, na, hda⟩ := ha
  obtain ⟨ob, hob, _, nb, hdb⟩ := hb
  show wpAny _ _ (isInstance (.ref b) (.type "tuple") >>= _) _ _ s
  refine wpAny_bind (wpAny_isInstance hTb isSubtype_tuple_tuple ?_)
  simp only [Bool.not_true, Bool.false_eq_true, if_false]
  refine wpAny_bind (wpAny_tupleItemsOf hoa hda ?_)
  refine wpAny_bind (wpAny_tupleItemsOf hob hdb ?_)
  refine wpAny_bind ?_
  refine wpAny_forIn_list _
    (fun rest r s' => r.1 = none ∧ s' = s ∧ (rest = [(Value.int x1 t1, Value.int y1 u1), (Value.int x2 t2, Value.int y2 u2)] ∨ (rest = [(Value.int x2 t2, Value.int y2 u2)] ∧ x1 = y1) ∨ (rest = [] ∧ x1 = y1 ∧ x2 = y2)))
    _ ?_ ?_ _ _ ⟨rfl, rfl, .inl rfl⟩
  · rintro ⟨u, v⟩ rest r s' ⟨hr, rfl, hc⟩
    rcases hc with hc | ⟨hc, e1⟩ | ⟨hc, _⟩
    · simp only [List.cons.injEq, Prod.mk.injEq] at hc
      obtain ⟨⟨rfl, rfl⟩, rfl⟩ := hc
      refine wpAny_bind (wpAny_eqBool_int ?_)
      by_cases hk : x1 = y1
      · subst hk
        simp only [beq_self_eq_true, Bool.not_true, Bool.false_eq_true, if_false]
        refine wpAny_pure ?_; simp
      · have hf : (x1 == y1) = false := by simpa using hk
        rw [hf]
        simp only [Bool.not_false, if_true]
        have hv : decide (x1 < y1 ∨ (x1 = y1 ∧ x2 ≤ y2)) = decide (x1 ≤ y1) := by apply decide_eq_decide.mpr; omega
        rw [hv] at h
        refine wpAny_bind (wpAny_rule ?_)
        refine wpAny_bind ?_
        exact le_int (wpAny_bind (wpAny_pure (wpAny_pure (wpAny_pure h))))
    · simp only [List.cons.injEq, Prod.mk.injEq] at hc
      obtain ⟨⟨rfl, rfl⟩, rfl⟩ := hc
      refine wpAny_bind (wpAny_eqBool_int ?_)
      by_cases hk : x2 = y2
      · subst hk
        simp only [beq_self_eq_true, Bool.not_true, Bool.false_eq_true, if_false]
        refine wpAny_pure ?_; simp [e1]
      · have hf : (x2 == y2) = false := by simpa using hk
        rw [hf]
        simp only [Bool.not_false, if_true]
        have hv : decide (x1 < y1 ∨ (x1 = y1 ∧ x2 ≤ y2)) = decide (x2 ≤ y2) := by apply decide_eq_decide.mpr; omega
        rw [hv] at h
        refine wpAny_bind (wpAny_rule ?_)
        refine wpAny_bind ?_
        exact le_int (wpAny_bind (wpAny_pure (wpAny_pure (wpAny_pure h))))
    · cases hc
  · rintro ⟨r1, r2⟩ s' ⟨hr, rfl, hc⟩
    simp only at hr
    subst hr
    rcases hc with hc | ⟨hc, _⟩ | ⟨_, e1, e2⟩
    · cases hc
    · cases hc
    · refine wpAny_pure ?_
      have hv : decide (x1 < y1 ∨ (x1 = y1 ∧ x2 ≤ y2)) = true := by apply decide_eq_true; omega
      rw [hv] at h
      exact h
theorem le_pair {a b : Addr} {x1 x2 y1 y2 : Int} {t1 t2 u1 u2 : Tok} {Q : Value → Shared → Prop} (ha : IsTup s.heap a #[.int x1 t1, .int x2 t2]) (hb : IsTup s.heap b #[.int y1 u1, .int y2 u2]) (hu : A.units < cLine)
    (h : Q (.bool (decide (x1 < y1 ∨ (x1 = y1 ∧ x2 ≤ y2)))) s) : wpAny (model prog w) A (compareOp .LtE (.ref a) (.ref b)) Q E s := by
  show wpAny _ _ (richCompare .LtE _ _) _ _ _
  exact wpAny_richCompare_same_room (op := .LtE) ha.typeIs hb.typeIs F.slot_tuple_le
    (wpAny_call_entry F.slot_tuple_le ha.typeIs F.entry_tuple_le (le_pair_tree ha hb ⟨_, rfl, (fun e => nomatch e), h⟩) (F.args_tuple_le_2 _ _)) hu

theorem eqBool_if {n k : Int} {z : UInt64} {t u : Tok} {Q : Bool → Shared → Prop} (hz : Rg z 0 k k) (h : Q (n == k) s) : wpAny (model prog w) A (eqBool (.int n t) (.float z u)) Q E s := by
  unfold eqBool
  refine wpAny_holding ?_
  have hab : ¬ (Value.int n t == Value.float z u) = true := fun q => by cases eq_of_beq q
  rw [if_neg hab]
  have hc : (PySem.Float64.cmpInt z n == some Ordering.eq) = (n == k) := by
    rw [rg_cmpInt hz]
    have e : n * 2 ^ 0 = n := by simp
    rw [e]
    by_cases hk : n = k
    · subst hk; simp
    · have h1 : (n == k) = false := by simpa using hk
      have : compare k n ≠ .eq := fun q => hk (Int.compare_eq_eq.mp q).symm
      rw [h1]
      cases hd : compare k n
      · rfl
      · exact absurd hd this
      · rfl
  show wpAny _ _ (compareOp .Eq (.int n t) (.float z u) >>= _) _ _ _
  refine wpAny_bind ?_
  exact eq_if (wpAny_truthy_bool (by rw [hc]; exact h))
theorem tuple_contains_float {t : Addr} {items : Array Value} {ns : List Int} {x : Int} {z : UInt64} {u : Tok} {P : Fin → Shared → Prop} (hz : Rg z 0 x x) (ht : IsTup s.heap t items) (hi : IntsAre items.toList ns)
    (h : P (.done (.ret (.bool (ns.any (· == x))))) s) : wpAny (model prog w) A (Builtin.«tuple.__contains__» ⟨[.ref t, .float z u], []⟩) P E s := by
  show wpAny _ _ (Builtin.Tuple.tupleItemsOf (.ref t) >>= _) _ _ s
  refine wpAny_bind (tupleItemsOf_ ht ?_)
  refine wpAny_bind (forIn_array_ _ (fun rest b s' => b.1 = none ∧ s' = s ∧ ∃ ms, IntsAre rest ms ∧ P (.done (.ret (.bool (ms.any (· == x))))) s) _ ?_ ?_ items _ ⟨rfl, rfl, ns, hi, h⟩)
  · rintro y rest b s' ⟨hb, rfl, ms, hm, hP⟩
    cases hm with
    | cons n tk hm' =>
      refine wpAny_bind (eqBool_if hz ?_)
      rw [List.any_cons] at hP
      cases hnx : (n == x) with
      | true =>
        rw [hnx] at hP
        exact wpAny_bind (wpAny_pure (wpAny_pure (wpAny_pure (by simpa using hP))))
      | false =>
        rw [hnx] at hP
        exact wpAny_pure ⟨rfl, rfl, _, hm', by simpa using hP⟩
  · rintro ⟨b1, b2⟩ s' ⟨hb, rfl, ms, hm, hP⟩
    cases hm
    simp only at hb
    subst hb
    exact wpAny_pure (by simpa using hP)
theorem notin_tuple_float {t : Addr} {items : Array Value} {ns : List Int} {x : Int} {z : UInt64} {u : Tok} {Q : Value → Shared → Prop} (hz : Rg z 0 x x) (ht : IsTup s.heap t items) (hi : IntsAre items.toList ns)
    (h : Q (.bool (!(ns.any (· == x)))) s) : wpAny (model prog w) A (compareOp .NotIn (.float z u) (.ref t)) Q E s := by
  show wpAny _ _ (do return .bool (!(← contains (.ref t) (.float z u)))) Q E s
  refine wpAny_bind ?_
  unfold contains
  refine wpAny_holding ?_
  refine wpAny_bind (wpAny_specialOf ht.typeIs slot_tuple_contains.lookup ?_)
  rw [if_neg (by decide)]
  exact wpAny_bind (wpAny_callSpecialUnlessNone?_slot (name := Str.ofString "__contains__") ht.typeIs slot_tuple_contains
    (wpAny_call_entry slot_tuple_contains ht.typeIs entry_tuple_contains (tuple_contains_float hz ht hi ⟨_, rfl, wpAny_truthy_bool (wpAny_pure h)⟩) (args_tuple_contains _ _)))
end
end
end Mine
namespace Mine
set_option maxRecDepth 100000 in
set_option maxHeartbeats 8000000 in
open_top hd for PySem.Challenge.rw_ad5017_01
/-- the call of a def of this text's, from any frame of this text's -/
abbrev CG (w : World) (f : Addr) (d : Nat) (news : List (Addr × Obj)) (vs : List Value) (Ret : Heap → Addr → (Str → Option Value) → Shared → (Value → Shared → Prop) → Prop) : Prop :=
  ∀ (loose : List Str) (mean : ExcName → Option Value) (mg mb : Str → Option Value) (dp un : Nat) (gd : Option (List Code)) (cn : Str) (cs : Scope) (a : Addr) (ccd : Value) (cl : List (Str × Addr)) (outer : List Env) (A₀ : Around) (base h₀ : Heap) (L : Addr) (m : Str → Option Value) (s : Shared) (Q E : Value → Shared → Prop),
    Below A₀ base outer h₀ → Fr h₀ L s.heap m → (hd.heap_39 w.params).In h₀ → News h₀ L s.heap news → Top hd.view_39 loose mean mg mb h₀ → cs.kind = .function → dp + d < recursionLimit → un + 8 * d < cLine →
    Ret h₀ L m s Q →
    wpAny (model PySem.Challenge.rw_ad5017_01.row.prog w) (ktrTop dp un gd cn cs L a ccd cl outer) (call (.ref f) vs) Q E s
abbrev retB (news : List (Addr × Obj)) (b : Bool) (h₀ : Heap) (L : Addr) (m : Str → Option Value) (s : Shared) (Q : Value → Shared → Prop) : Prop :=
  ∀ (h' : Heap) (tk' : Nat), Fr h₀ L h' m → News h₀ L h' news → Q (.bool b) { s with heap := h', toks := tk' }
abbrev retI (news : List (Addr × Obj)) (n : Int) (h₀ : Heap) (L : Addr) (m : Str → Option Value) (s : Shared) (Q : Value → Shared → Prop) : Prop :=
  ∀ (t : Tok) (h' : Heap) (tk' : Nat), Fr h₀ L h' m → News h₀ L h' news → Q (.int n t) { s with heap := h', toks := tk' }
/-- a float that is just n / 2 -/
abbrev retF (news : List (Addr × Obj)) (n : Int) (h₀ : Heap) (L : Addr) (m : Str → Option Value) (s : Shared) (Q : Value → Shared → Prop) : Prop :=
  ∀ (z : UInt64), Rg z 1 n n → ∀ (t : Tok) (h' : Heap) (tk' : Nat), Fr h₀ L h' m → News h₀ L h' news → Q (.float z t) { s with heap := h', toks := tk' }
abbrev tup3 (y m d : Int) (t1 t2 t3 : Tok) (c : Nat) : Obj := { cls := .type "tuple", data := .seq #[.int y t1, .int m t2, .int d t3] c }
/-- a new tuple of three ints of which P is so -/
abbrev retT (news : List (Addr × Obj)) (P : Int → Int → Int → Prop) (h₀ : Heap) (L : Addr) (m : Str → Option Value) (s : Shared) (Q : Value → Shared → Prop) : Prop :=
  ∀ (y mo d : Int), P y mo d → ∀ (D : Addr) (t1 t2 t3 : Tok) (c : Nat) (h' : Heap) (tk' : Nat), Fr h₀ L h' m → News h₀ L h' ((D, tup3 y mo d t1 t2 t3 c) :: news) → AllLt D news → Q (.ref D) { s with heap := h', toks := tk' }

section
variable {h₀ h' : Heap} {L : Addr} {m : Str → Option Value} {news news' : List (Addr × Obj)} {s : Shared} {Q : Value → Shared → Prop} {tk' : Nat}
theorem endB {b y : Bool} (hret : retB news b h₀ L m s Q) (e : y = b) (F : Fr h₀ L h' m) (N : News h₀ L h' news') (hs : ∀ p ∈ news, p ∈ news') : Q (.bool y) { s with heap := h', toks := tk' } := by
  subst e; exact hret _ _ F (fun p hp => N p (hs p hp))
theorem endI {n k : Int} {t : Tok} (hret : retI news n h₀ L m s Q) (e : k = n) (F : Fr h₀ L h' m) (N : News h₀ L h' news') (hs : ∀ p ∈ news, p ∈ news') : Q (.int k t) { s with heap := h', toks := tk' } := by
  subst e; exact hret _ _ _ F (fun p hp => N p (hs p hp))
theorem endF {n k : Int} {z : UInt64} {t : Tok} (hret : retF news n h₀ L m s Q) (hz : Rg z 1 k k) (e : k = n) (F : Fr h₀ L h' m) (N : News h₀ L h' news') (hs : ∀ p ∈ news, p ∈ news') : Q (.float z t) { s with heap := h', toks := tk' } := by
  subst e; exact hret _ hz _ _ _ F (fun p hp => N p (hs p hp))
theorem endT {P : Int → Int → Int → Prop} {y mo d : Int} {t1 t2 t3 : Tok} {c : Nat} {D : Addr} (hret : retT news P h₀ L m s Q) (e : P y mo d) (F : Fr h₀ L h' m) (N : News h₀ L h' ((D, tup3 y mo d t1 t2 t3 c) :: news')) (hl : AllLt D news) (hs : ∀ p ∈ news, p ∈ news') : Q (.ref D) { s with heap := h', toks := tk' } := by
  refine hret y mo d e D t1 t2 t3 c h' tk' F (fun p hp => ?_) hl
  rcases List.mem_cons.mp hp with rfl | hp
  · exact N _ (.head _)
  · exact N p (.tail _ (hs p hp))
end
local macro_rules | `(tactic| walk_at "binaryOp Mod int int") => `(tactic| (k_dflt (refine' w_mod_ii ?k1 ?_; (case k1 => omega)); (try dsimp only)))
local macro_rules | `(tactic| walk_at "binaryOp FloorDiv int int") => `(tactic| (k_dflt (refine' w_fdiv_ii ?k1 ?k2 ?_; (case k1 => omega); (case k2 => omega)); (try dsimp only)))
local macro_rules | `(tactic| walk_at "binaryOp Div int int") => `(tactic| (k_dflt (refine' w_div_ii rfl ?k1 ?k2 ?_; (case k1 => omega); (case k2 => omega)); intro z' hz'; (try dsimp only)))
local macro_rules | `(tactic| walk_at "binaryOp Div float int") => `(tactic| (k_dflt (refine' w_div_fi ?k0 rfl ?k1 ?k2 ?_; (case k0 => assumption); (case k1 => omega); (case k2 => omega)); intro z' hz'; (try dsimp only)))
local macro_rules | `(tactic| walk_at "binaryOp Mod float int") => `(tactic| (k_dflt (refine' w_mod_fi ?k0 rfl ?k1 ?k2 ?_; (case k0 => assumption); (case k1 => omega); (case k2 => omega)); intro z' r' hr' hz'; (try dsimp only)))
local macro_rules | `(tactic| walk_at "binaryOp Add float int") => `(tactic| (k_dflt (first | (refine' w_add_fi1 ?k0 ?k1 ?k2 ?_; (case k0 => first | assumption | exact l_epoch); (case k1 => omega); (case k2 => omega)) | (refine' w_add_fi0 ?k0 ?k1 ?k2 ?_; (case k0 => assumption); (case k1 => omega); (case k2 => omega)) | (refine' w_add_fi_fl ?k0 ?k1 ?k2 ?_; (case k0 => assumption); (case k1 => omega); (case k2 => omega)) | (refine' w_add_fi_qt ?k0 ?k1 ?k2 ?k3 ?k4 ?k5 ?_; (case k0 => assumption); (case k1 => omega); (case k2 => omega); (case k3 => omega); (case k4 => omega); (case k5 => omega))); intro z' hz'; (try dsimp only)))
local macro_rules | `(tactic| walk_at "binaryOp Add int float") => `(tactic| (k_dflt (refine' w_add_if1 ?k0 ?k1 ?k2 ?_; (case k0 => first | assumption | exact l_half); (case k1 => omega); (case k2 => omega)); intro z' hz'; (try dsimp only)))
local macro_rules | `(tactic| walk_at "binaryOp Sub float int") => `(tactic| (k_dflt (refine' w_sub_fi1 ?k0 ?k1 ?k2 ?_; (case k0 => first | assumption | exact l_epoch); (case k1 => omega); (case k2 => omega)); intro z' hz'; (try dsimp only)))
local macro_rules | `(tactic| walk_at "binaryOp Sub int float") => `(tactic| (k_dflt (first | (refine' w_sub_122 ?kc ?k1 ?_; (case kc => with_reducible rfl); (case k1 => omega)) | (refine' w_sub_if1 ?k0 ?k1 ?k2 ?_; (case k0 => first | assumption | exact l_1524); (case k1 => omega); (case k2 => omega))); intro z' hz'; (try dsimp only)))
local macro_rules | `(tactic| walk_at "binaryOp Add float float") => `(tactic| (k_dflt (refine' w_add_ff ?k0 ?k1 ?k2 ?k3 ?k4 ?_; (case k0 => assumption); (case k1 => first | assumption | exact l_half); (case k2 => omega); (case k3 => omega); (case k4 => omega)); intro z' r' hr' hz'; (try dsimp only)))
local macro_rules | `(tactic| walk_at "inplaceOp Add float float") => `(tactic| (k_dflt (refine' w_iadd_ff ?k0 ?k1 ?k2 ?k3 ?k4 ?_; (case k0 => assumption); (case k1 => first | assumption | exact l_half); (case k2 => omega); (case k3 => omega); (case k4 => omega)); intro z' r' hr' hz'; (try dsimp only)))
local macro_rules | `(tactic| walk_at "binaryOp Sub float float") => `(tactic| (k_dflt (refine' w_sub_ff ?k0 ?k1 ?k2 ?k3 ?k4 ?_; (case k0 => assumption); (case k1 => first | assumption | exact l_half | exact l_epoch); (case k2 => omega); (case k3 => omega); (case k4 => omega)); intro z' r' hr' hz'; (try dsimp only)))
local macro_rules | `(tactic| walk_at "binaryOp Mult float int") => `(tactic| (k_dflt (first | (refine' w_mul_365 ?kc ?k1 ?_; (case kc => with_reducible rfl); (case k1 => omega)) | (refine' w_mul_306 ?kc ?k1 ?k2 ?_; (case kc => with_reducible rfl); (case k1 => omega); (case k2 => omega)) | (refine' w_mul_fi0 ?k0 ?k1 ?k2 ?_; (case k0 => assumption); (case k1 => omega); (case k2 => omega))); intro z' hz'; (try dsimp only)))
local macro_rules | `(tactic| walk_at "binaryOp Mult int float") => `(tactic| (k_dflt (refine' w_mul_2f ?kc ?k0 ?k1 ?_; (case kc => with_reducible rfl); (case k0 => assumption); (case k1 => omega)); intro z' hz'; (try dsimp only)))
local macro_rules | `(tactic| walk_at "binaryOp Div int float") => `(tactic| (k_dflt (refine' w_div_306 ?kc rfl ?k1 ?k2 ?_; (case kc => with_reducible rfl); (case k1 => omega); (case k2 => omega)); intro z' hz'; (try dsimp only)))
local macro_rules | `(tactic| walk_at "binaryOp Div float float") => `(tactic| (k_dflt (refine' w_div_365 ?kc ?k0 rfl ?k1 ?_; (case kc => with_reducible rfl); (case k0 => assumption); (case k1 => omega)); intro z' hz'; (try dsimp only)))
local macro_rules | `(tactic| walk_at "call builtin:math.floor") => `(tactic| ((with_reducible show wpAny _ _ (call _ [Value.float _ _]) _ _ _); k_dflt (first | (refine' w_floor_qt ?k0 rfl ?k1 ?k2 ?k3 ?_; (case k0 => assumption); (case k1 => omega); (case k2 => omega); (case k3 => omega); intro r' hr') | (refine' w_floor_fl ?k0 rfl ?_; (case k0 => assumption)) | (refine' w_floor_0 ?k0 rfl ?_; (case k0 => assumption)) | (refine' w_floor_2 ?k0 rfl ?_; (case k0 => assumption); intro r' hr')); (try dsimp only)))
local macro_rules | `(tactic| walk_at "call builtin:math.trunc") => `(tactic| ((with_reducible show wpAny _ _ (call _ [Value.float _ _]) _ _ _); k_dflt (first | (refine' w_trunc_qt ?k0 rfl ?k1 ?k2 ?k3 ?k4 ?_; (case k0 => assumption); (case k1 => decide); (case k2 => omega); (case k3 => omega); (case k4 => omega); intro r' hr') | (refine' w_trunc_0 ?k0 rfl ?_; (case k0 => assumption)) | (refine' w_trunc_qtm ?k0 rfl ?k1 ?k2 ?k3 ?k4 ?_; (case k0 => assumption); (case k1 => decide); (case k2 => omega); (case k3 => omega); (case k4 => omega); intro r' hr') | (refine' w_trunc_var ?k0 rfl ?k1 ?k2 ?k3 ?k4 ?_; (case k0 => assumption); (case k1 => omega); (case k2 => omega); (case k3 => omega); (case k4 => omega); intro r' hr' hra' hrb' hrc' hrd'; clear hr')); (try dsimp only)))
local macro_rules | `(tactic| walk_at "call type:int") => `(tactic| ((with_reducible show wpAny _ _ (call _ [Value.float _ _]) _ _ _); k_dflt (refine' w_int_0 ?k0 rfl ?_; (case k0 => assumption)); (try dsimp only)))
local macro_rules | `(tactic| walk_at "compareOp Lt float int") => `(tactic| (k_dflt (refine' w_lt_fi ?k0 ?_; (case k0 => assumption)); (try dsimp only)))
local macro_rules | `(tactic| walk_at "compareOp Eq float int") => `(tactic| (k_dflt (refine' w_eq_fi ?k0 ?_; (case k0 => assumption)); (try dsimp only)))
/-- no way leads to a raise here -/
local macro_rules | `(tactic| walk_at "exec Raise some none") => `(tactic| (exfalso; omega))
local macro_rules | `(tactic| walk_at "ite") => `(tactic| (k_here; first
  | (refine ite_pos (by first | with_reducible assumption | ((try simp only [decide_eq_true_eq, decide_eq_false_iff_not, Bool.and_eq_true, Bool.or_eq_true, Bool.not_eq_true', Bool.not_eq_true, beq_iff_eq, bne_iff_ne, ne_eq, List.any_cons, List.any_nil, Bool.or_false, Bool.not_eq_eq_eq_not, Bool.not_true, Bool.not_false, beq_eq_false_iff_ne, Bool.or_eq_false_iff, reduceIte, Bool.false_eq_true, if_true, if_false]); first | done | (law_purse 20000 => omega))) ?_; walk_say "WAY 1")
  | (refine ite_neg (by first | with_reducible assumption | ((try simp only [decide_eq_true_eq, decide_eq_false_iff_not, Bool.and_eq_true, Bool.or_eq_true, Bool.not_eq_true', Bool.not_eq_true, beq_iff_eq, bne_iff_ne, ne_eq, List.any_cons, List.any_nil, Bool.or_false, Bool.not_eq_eq_eq_not, Bool.not_true, Bool.not_false, beq_eq_false_iff_ne, Bool.or_eq_false_iff, reduceIte, Bool.false_eq_true, if_true, if_false]); first | done | (law_purse 20000 => omega))) ?_; walk_say "WAY 2")))
local macro_rules | `(tactic| walk_at "compareOp In int ref") => `(tactic| (k_here; k_dflt (refine' in_tuple_ints (tupK (Frag.In.keeps ?X (Fr.keep ?F)) ?l) ?i ?_; (case F => k_asm); (case X => k_asm); (case l => k_is); (case i => first | exact IntsAre.cons _ _ (IntsAre.cons _ _ (IntsAre.cons _ _ (IntsAre.cons _ _ IntsAre.nil))))); (try dsimp only)))
local macro_rules | `(tactic| walk_at "exec If") => `(tactic| refine wpAny_If ?_)
local macro_rules | `(tactic| walk_at "eval Call") => `(tactic| ((with_reducible show wpAny _ _ (eval (Expr.Call (Expr.Name _ _) _ [] _) _) _ _ _); refine Call_ ?_))
local macro_rules | `(tactic| walk_at "binaryOp Add int bool") => `(tactic| (first | with_reducible refine w_add_it ?_ | with_reducible refine w_add_if ?_))
section
set_option maxRecDepth 100000 in
set_option maxHeartbeats 8000000 in
theorem c_isleap (w : World) (news : List (Addr × Obj)) (y : Int) (t : Tok) : CG w 50 1 news [.int y t] (retB news (leapB y)) := by
  unfold CG; w_top off; k_fill
  intro loose mean mg mb dp un gd cn cs a ccd cl outer A₀ base h₀ L m s Q E B F X N T hk hd hu hret
  refine wpAny_call ?_
  k_dflt cell_enter
  k_steps
  all_goals (refine endB hret ?_ (by k_asm) (by k_asm) (fun _ h => h))
  all_goals f_lean
  all_goals (rw [Bool.eq_iff_iff]; simp only [leapB, beq_iff_eq, bne_iff_ne, decide_eq_true_eq, ne_eq]; omega)
local macro_rules | `(tactic| walk_at "call ref") => `(tactic| (k_here; k_dflt (refine' (c_isleap _ _ _ _) _ _ _ _ _ _ _ _ _ _ _ _ _ _ _ _ _ _ _ _ _ ?k1 ?k2 ?k3 ?k4 ?k5 ?k6 ?k7 ?k8 ?_; (case k1 => k_asm); (case k2 => k_asm); (case k3 => k_asm); (case k4 => k_asm); (case k5 => k_asm); (case k6 => first | exact rfl | assumption); (case k7 => ktr_room); (case k8 => ktr_units)); intro h9 tk9 F9 N9; (try (with_reducible rename leapB _ = _ => hL9; rw [hL9])); (try dsimp only); (try k_fold)))
set_option maxRecDepth 100000 in
set_option maxHeartbeats 800000 in
theorem c_legal_a (w : World) (news : List (Addr × Obj)) (y d : Int) (t1 t2 t3 : Tok) (hL : leapB y = true) (hl : 0 < d ∧ d ≤ 29) : CG w 57 2 news [.int y t1, .int 2 t2, .int d t3] (retB news true) := by
  unfold CG; w_top off; k_fill
  intro loose mean mg mb dp un gd cn cs a ccd cl outer A₀ base h₀ L m s Q E B F X N T hk hd hu hret
  refine wpAny_call ?_
  k_dflt cell_enter
  k_steps
  all_goals (exact endB hret rfl (by k_asm) (by k_asm) (fun _ h => h))
set_option maxRecDepth 100000 in
set_option maxHeartbeats 800000 in
theorem c_legal_b (w : World) (news : List (Addr × Obj)) (y d : Int) (t1 t2 t3 : Tok) (hL : leapB y = false) (hl : 0 < d ∧ d ≤ 28) : CG w 57 2 news [.int y t1, .int 2 t2, .int d t3] (retB news true) := by
  unfold CG; w_top off; k_fill
  intro loose mean mg mb dp un gd cn cs a ccd cl outer A₀ base h₀ L m s Q E B F X N T hk hd hu hret
  refine wpAny_call ?_
  k_dflt cell_enter
  k_steps
  all_goals (exact endB hret rfl (by k_asm) (by k_asm) (fun _ h => h))
set_option maxRecDepth 100000 in
set_option maxHeartbeats 800000 in
theorem c_legal_c (w : World) (news : List (Addr × Obj)) (y m d : Int) (t1 t2 t3 : Tok) (hm : m ≠ 2) (hl : 0 < d ∧ d ≤ 30) : CG w 57 2 news [.int y t1, .int m t2, .int d t3] (retB news true) := by
  unfold CG; w_top off; k_fill
  intro loose mean mg mb dp un gd cn cs a ccd cl outer A₀ base h₀ L m s Q E B F X N T hk hd hu hret
  refine wpAny_call ?_
  k_dflt cell_enter
  k_steps
  all_goals (exact endB hret rfl (by k_asm) (by k_asm) (fun _ h => h))
set_option maxRecDepth 100000 in
set_option maxHeartbeats 800000 in
theorem c_legal_d (w : World) (news : List (Addr × Obj)) (y m d : Int) (t1 t2 t3 : Tok) (hm : m ≠ 2 ∧ m ≠ 4 ∧ m ≠ 6 ∧ m ≠ 9 ∧ m ≠ 11) (hl : 0 < d ∧ d ≤ 31) : CG w 57 2 news [.int y t1, .int m t2, .int d t3] (retB news true) := by
  unfold CG; w_top off; k_fill
  intro loose mean mg mb dp un gd cn cs a ccd cl outer A₀ base h₀ L m s Q E B F X N T hk hd hu hret
  refine wpAny_call ?_
  k_dflt cell_enter
  k_steps
  all_goals (exact endB hret rfl (by k_asm) (by k_asm) (fun _ h => h))
theorem c_legal (w : World) (news : List (Addr × Obj)) (y m d : Int) (t1 t2 t3 : Tok) (hl : 0 < d ∧ d ≤ mlen y m) : CG w 57 2 news [.int y t1, .int m t2, .int d t3] (retB news true) := by
  unfold mlen at hl
  by_cases h2 : m = 2
  · subst h2
    rw [if_pos rfl] at hl
    cases hL : leapB y
    · exact c_legal_b w news y d t1 t2 t3 hL (by rw [hL] at hl; exact hl)
    · exact c_legal_a w news y d t1 t2 t3 hL (by rw [hL] at hl; exact hl)
  · rw [if_neg h2] at hl
    by_cases h4 : m = 4 ∨ m = 6 ∨ m = 9 ∨ m = 11
    · rw [if_pos h4] at hl
      exact c_legal_c w news y m d t1 t2 t3 h2 hl
    · rw [if_neg h4] at hl
      exact c_legal_d w news y m d t1 t2 t3 (by omega) hl
local macro_rules | `(tactic| walk_at "call ref") => `(tactic| (k_here; k_dflt (refine' (c_legal _ _ _ _ _ _ _ _ ?k0) _ _ _ _ _ _ _ _ _ _ _ _ _ _ _ _ _ _ _ _ _ ?k1 ?k2 ?k3 ?k4 ?k5 ?k6 ?k7 ?k8 ?_; (case k0 => assumption); (case k1 => k_asm); (case k2 => k_asm); (case k3 => k_asm); (case k4 => k_asm); (case k5 => k_asm); (case k6 => first | exact rfl | assumption); (case k7 => ktr_room); (case k8 => ktr_units)); intro h9 tk9 F9 N9; (try dsimp only); (try k_fold)))
set_option maxRecDepth 100000 in
set_option maxHeartbeats 800000 in
theorem c_to_jd (w : World) (news : List (Addr × Obj)) (y m d : Int) (t1 t2 t3 : Tok) (hy : y.natAbs ≤ 2 ^ 32) (hm : 1 ≤ m ∧ m ≤ 12) (hl : 0 < d ∧ d ≤ mlen y m) : CG w 64 3 news [.int y t1, .int m t2, .int d t3] (retF news (2 * gdn y m d - 1)) := by
  have hd31 : d ≤ 31 := by
    have := hl.2
    unfold mlen at this
    split at this
    · split at this <;> omega
    · split at this <;> omega
  unfold CG; w_top off; k_fill
  intro loose mean mg mb dp un gd cn cs a ccd cl outer A₀ base h₀ L m s Q E B F X N T hk hd hu hret
  refine wpAny_call ?_
  k_dflt cell_enter
  k_steps
  all_goals (refine endF hret (by assumption) ?_ (by k_asm) (by k_asm) (fun _ h => h))
  all_goals f_lean
  all_goals (unfold gdn; (repeat' split) <;> first | omega | (exfalso; simp_all; done))
/-- the same, with a bound -/
abbrev retG (news : List (Addr × Obj)) (y m d : Int) (h₀ : Heap) (L : Addr) (mf : Str → Option Value) (s : Shared) (Q : Value → Shared → Prop) : Prop :=
  ∀ (z : UInt64), Rg z 1 (2 * gdn y m d - 1) (2 * gdn y m d - 1) → (gdn y m d).natAbs ≤ 2 ^ 42 → ∀ (t : Tok) (h' : Heap) (tk' : Nat), Fr h₀ L h' mf → News h₀ L h' news → Q (.float z t) { s with heap := h', toks := tk' }
theorem c_to_jd_b (w : World) (news : List (Addr × Obj)) (y m d : Int) (t1 t2 t3 : Tok) (hy : y.natAbs ≤ 2 ^ 32) (hm : 1 ≤ m ∧ m ≤ 12) (hl : 0 < d ∧ d ≤ mlen y m) : CG w 64 3 news [.int y t1, .int m t2, .int d t3] (retG news y m d) := by
  intro loose mean mg mb dp un gd cn cs a ccd cl outer A₀ base h₀ L mf s Q E B F X N T hk hd hu hret
  exact c_to_jd w news y m d t1 t2 t3 hy hm hl loose mean mg mb dp un gd cn cs a ccd cl outer A₀ base h₀ L mf s Q E B F X N T hk hd hu (fun z hz t h' tk' F N => hret z hz (gdn_bound hy hm hl) t h' tk' F N)
end
section
local macro_rules | `(tactic| walk_at "none of mine") => `(tactic| skip)
local macro_rules | `(tactic| walk_at "none of mine") => `(tactic| skip)
local macro_rules | `(tactic| walk_at "none of mine") => `(tactic| skip)
local macro_rules | `(tactic| walk_at "call ref") => `(tactic| (k_here; k_dflt (refine' (c_isleap _ _ _ _) _ _ _ _ _ _ _ _ _ _ _ _ _ _ _ _ _ _ _ _ _ ?k1 ?k2 ?k3 ?k4 ?k5 ?k6 ?k7 ?k8 ?_; (case k1 => k_asm); (case k2 => k_asm); (case k3 => k_asm); (case k4 => k_asm); (case k5 => k_asm); (case k6 => first | exact rfl | assumption); (case k7 => ktr_room); (case k8 => ktr_units)); intro h9 tk9 F9 N9; (try (with_reducible rename leapB _ = _ => hL9; rw [hL9])); (try dsimp only); (try k_fold)))
local macro_rules | `(tactic| walk_at "call ref") => `(tactic| (k_here; k_dflt (refine' (c_to_jd_b _ _ _ _ _ _ _ _ ?k0 ?ka ?kb) _ _ _ _ _ _ _ _ _ _ _ _ _ _ _ _ _ _ _ _ _ ?k1 ?k2 ?k3 ?k4 ?k5 ?k6 ?k7 ?k8 ?_; (case k0 => assumption); (case ka => first | assumption | omega); (case kb => first | exact ⟨by decide, one_le_mlen _ _⟩ | assumption); (case k1 => k_asm); (case k2 => k_asm); (case k3 => k_asm); (case k4 => k_asm); (case k5 => k_asm); (case k6 => first | exact rfl | assumption); (case k7 => ktr_room); (case k8 => ktr_units)); intro z9 hz9 hb9 t9 h9 tk9 F9 N9; (try dsimp only); (try k_fold)))
set_option maxRecDepth 100000 in
set_option maxHeartbeats 8000000 in
theorem c_from_jd (w : World) (news : List (Addr × Obj)) (N : Int) (x : UInt64) (t1 : Tok) (hx : Rg x 1 (2 * N - 1) (2 * N - 1)) (hN : N.natAbs ≤ 2 ^ 40) : CG w 71 4 news [.float x t1] (retT news (fun y m d => gdn y m d = N ∧ 1 ≤ m ∧ m ≤ 12 ∧ 0 < d ∧ d ≤ mlen y m)) := by
  unfold CG; w_top off; k_fill
  intro loose mean mg mb dp un gd cn cs a ccd cl outer A₀ base h₀ L m s Q E B F X N0 T hk hd hu hret
  refine wpAny_call ?_
  k_dflt cell_enter
  k_steps
  · have hyd := fun hD hN => yd_b (N := N) hD (by assumption) (by assumption) (by assumption) (by assumption) (by assumption) (by assumption) (by assumption) (.inl (by assumption)) hN
    obtain ⟨hL, hyd, hYb⟩ := hyd (by omega) hN
    (rename ((_ : Int) = _ / 146097) => hclr; clear hclr); (rename ((_ : Int) = _ % 146097) => hclr; clear hclr); (rename ((_ : Int) = _ / 36524) => hclr; clear hclr); (rename ((_ : Int) = _ % 36524) => hclr; clear hclr); (rename ((_ : Int) = _ / 1461) => hclr; clear hclr); (rename ((_ : Int) = _ % 1461) => hclr; clear hclr); (rename ((_ : Int) = _ / 365) => hclr; clear hclr);
    (k_here; k_dflt (refine' (c_to_jd_b _ _ _ _ _ _ _ _ ?k0 ?ka ?kb) _ _ _ _ _ _ _ _ _ _ _ _ _ _ _ _ _ _ _ _ _ ?k1 ?k2 ?k3 ?k4 ?k5 ?k6 ?k7 ?k8 ?_; (case k0 => assumption); (case ka => first | assumption | omega); (case kb => first | exact ⟨by decide, one_le_mlen _ _⟩ | assumption); (case k1 => k_asm); (case k2 => k_asm); (case k3 => k_asm); (case k4 => k_asm); (case k5 => k_asm); (case k6 => first | exact rfl | assumption); (case k7 => ktr_room); (case k8 => ktr_units)); intro z9 hz9 hb9 t9 h9 tk9 F9 N9; (try dsimp only); (try k_fold))
    k_steps
    all_goals (refine endT hret ?_ (by k_asm) (by k_asm) (allLt_of (by assumption)) (fun _ h => h))
    all_goals exact md_end (lp := 1) (by omega) (by assumption) (.inl ⟨hL, rfl⟩) (by omega) (by omega) (by omega) (by omega)
  · have hyd := fun hD hN => yd_b (N := N) hD (by assumption) (by assumption) (by assumption) (by assumption) (by assumption) (by assumption) (by assumption) (.inr (by assumption)) hN
    obtain ⟨hL, hyd, hYb⟩ := hyd (by omega) hN
    (rename ((_ : Int) = _ / 146097) => hclr; clear hclr); (rename ((_ : Int) = _ % 146097) => hclr; clear hclr); (rename ((_ : Int) = _ / 36524) => hclr; clear hclr); (rename ((_ : Int) = _ % 36524) => hclr; clear hclr); (rename ((_ : Int) = _ / 1461) => hclr; clear hclr); (rename ((_ : Int) = _ % 1461) => hclr; clear hclr); (rename ((_ : Int) = _ / 365) => hclr; clear hclr);
    (k_here; k_dflt (refine' (c_to_jd_b _ _ _ _ _ _ _ _ ?k0 ?ka ?kb) _ _ _ _ _ _ _ _ _ _ _ _ _ _ _ _ _ _ _ _ _ ?k1 ?k2 ?k3 ?k4 ?k5 ?k6 ?k7 ?k8 ?_; (case k0 => assumption); (case ka => first | assumption | omega); (case kb => first | exact ⟨by decide, one_le_mlen _ _⟩ | assumption); (case k1 => k_asm); (case k2 => k_asm); (case k3 => k_asm); (case k4 => k_asm); (case k5 => k_asm); (case k6 => first | exact rfl | assumption); (case k7 => ktr_room); (case k8 => ktr_units)); intro z9 hz9 hb9 t9 h9 tk9 F9 N9; (try dsimp only); (try k_fold))
    k_steps
    all_goals (refine endT hret ?_ (by k_asm) (by k_asm) (allLt_of (by assumption)) (fun _ h => h))
    all_goals exact md_end (lp := 1) (by omega) (by assumption) (.inl ⟨hL, rfl⟩) (by omega) (by omega) (by omega) (by omega)
  · have hyd := fun hD hN => yd_a (N := N) hD (by assumption) (by assumption) (by assumption) (by assumption) (by assumption) (by assumption) (by assumption) (by assumption) (by assumption) hN
    obtain ⟨hyd0, hyd1, hYb⟩ := hyd (by omega) hN
    (rename ((_ : Int) = _ / 146097) => hclr; clear hclr); (rename ((_ : Int) = _ % 146097) => hclr; clear hclr); (rename ((_ : Int) = _ / 36524) => hclr; clear hclr); (rename ((_ : Int) = _ % 36524) => hclr; clear hclr); (rename ((_ : Int) = _ / 1461) => hclr; clear hclr); (rename ((_ : Int) = _ % 1461) => hclr; clear hclr); (rename ((_ : Int) = _ / 365) => hclr; clear hclr);
    rcases leap_cases hyd0 with hL | hL
    · (k_here; k_dflt (refine' (c_to_jd_b _ _ _ _ _ _ _ _ ?k0 ?ka ?kb) _ _ _ _ _ _ _ _ _ _ _ _ _ _ _ _ _ _ _ _ _ ?k1 ?k2 ?k3 ?k4 ?k5 ?k6 ?k7 ?k8 ?_; (case k0 => assumption); (case ka => first | assumption | omega); (case kb => first | exact ⟨by decide, one_le_mlen _ _⟩ | assumption); (case k1 => k_asm); (case k2 => k_asm); (case k3 => k_asm); (case k4 => k_asm); (case k5 => k_asm); (case k6 => first | exact rfl | assumption); (case k7 => ktr_room); (case k8 => ktr_units)); intro z9 hz9 hb9 t9 h9 tk9 F9 N9; (try dsimp only); (try k_fold))
      k_steps
      all_goals (refine endT hret ?_ (by k_asm) (by k_asm) (allLt_of (by assumption)) (fun _ h => h))
      all_goals exact md_end (lp := 1) (by omega) (by assumption) (.inl ⟨hL, rfl⟩) (by omega) (by omega) (by omega) (by omega)
    · (k_here; k_dflt (refine' (c_to_jd_b _ _ _ _ _ _ _ _ ?k0 ?ka ?kb) _ _ _ _ _ _ _ _ _ _ _ _ _ _ _ _ _ _ _ _ _ ?k1 ?k2 ?k3 ?k4 ?k5 ?k6 ?k7 ?k8 ?_; (case k0 => assumption); (case ka => first | assumption | omega); (case kb => first | exact ⟨by decide, one_le_mlen _ _⟩ | assumption); (case k1 => k_asm); (case k2 => k_asm); (case k3 => k_asm); (case k4 => k_asm); (case k5 => k_asm); (case k6 => first | exact rfl | assumption); (case k7 => ktr_room); (case k8 => ktr_units)); intro z9 hz9 hb9 t9 h9 tk9 F9 N9; (try dsimp only); (try k_fold))
      k_steps
      all_goals (refine endT hret ?_ (by k_asm) (by k_asm) (allLt_of (by assumption)) (fun _ h => h))
      all_goals exact md_end (lp := 0) (by omega) (by assumption) (.inr ⟨hL, rfl⟩) (by omega) (by omega) (by omega) (by omega)
end
section
local macro_rules | `(tactic| walk_at "none of mine") => `(tactic| skip)
local macro_rules | `(tactic| walk_at "none of mine") => `(tactic| skip)
local macro_rules | `(tactic| walk_at "none of mine") => `(tactic| skip)
local macro_rules | `(tactic| walk_at "none of mine") => `(tactic| skip)
local macro_rules | `(tactic| walk_at "none of mine") => `(tactic| skip)
local macro_rules | `(tactic| walk_at "none of mine") => `(tactic| skip)
local macro_rules | `(tactic| walk_at "call ref") => `(tactic| (k_here; refine wpAny_call ?_; k_dflt (refine' code_def ?k1 ?k2 ?k3 ?k4 ?k5 ?kA ?kF ?kK ?k6 ?k7 ?k8 ?k9 ?kB ?_ ?c2 ?c3 ?c4 ?c5; (case kA => exact rfl); (case kF => exact rfl); (case kK => first | exact rfl | assumption); (case k1 => k_asm); (case k2 => k_asm); (case k3 => k_asm); (case k4 => k_asm); (case k5 => k_asm); (case k6 => k_is); (case k7 => k_is); (case k8 => ktr_room); (case k9 => first | exact BindsTo.of_eq rfl | exact binds_K (by k_in) rfl (by k_is) rfl rfl rfl); (case c5 => decide); (case kB => exact locs rfl); (case c2 => exact rfl); (case c3 => exact rfl); (case c4 => exact rfl); k_whole; intro g' L' h' FG' F' N' B' X' T'; (try dsimp only); (try k_lift B'); (try k_fold))))
set_option maxRecDepth 100000 in
set_option maxHeartbeats 8000000 in
theorem c_to_jdj3 (w : World) (news : List (Addr × Obj)) (y d : Int) (t1 t2 t3 : Tok) (hy : y.natAbs ≤ 2 ^ 32) (hl : 0 < d ∧ d ≤ 31) : CG w 114 4 news [.int y t1, .int 3 t2, .int d t3] (retF news (2 * jdn y 3 d - 1)) := by
  unfold CG; w_top off; k_fill
  intro loose mean mg mb dp un gd cn cs a ccd cl outer A₀ base h₀ L mf s Q E B F X N0 T hk hd hu hret
  refine wpAny_call ?_
  k_dflt (refine' code_def ?k1 ?k2 ?k3 ?k4 ?k5 ?kA ?kF ?kK ?k6 ?k7 ?k8 ?k9 ?kB ?_ ?c2 ?c3 ?c4 ?c5; (case kA => exact rfl); (case kF => exact rfl); (case kK => first | exact rfl | assumption); (case k1 => k_asm); (case k2 => k_asm); (case k3 => k_asm); (case k4 => k_asm); (case k5 => k_asm); (case k6 => k_is); (case k7 => k_is); (case k8 => ktr_room); (case k9 => first | exact BindsTo.of_eq rfl | exact binds_K (by k_in) rfl (by k_is) rfl rfl rfl); (case c5 => decide); (case kB => exact locs rfl); (case c2 => exact rfl); (case c3 => exact rfl); (case c4 => exact rfl); k_whole; intro g' L' h' FG' F' N' B' X' T'; (try dsimp only); (try k_lift B'); (try k_fold))
  k_steps
  all_goals (refine endF hret (by assumption) ?_ (by k_asm) (by k_asm) (fun _ h => h))
  all_goals f_lean
  all_goals (unfold jdn; omega)
set_option maxRecDepth 100000 in
set_option maxHeartbeats 8000000 in
theorem c_to_jdj4 (w : World) (news : List (Addr × Obj)) (y d : Int) (t1 t2 t3 : Tok) (hy : y.natAbs ≤ 2 ^ 32) (hl : 0 < d ∧ d ≤ 30) : CG w 114 4 news [.int y t1, .int 4 t2, .int d t3] (retF news (2 * jdn y 4 d - 1)) := by
  unfold CG; w_top off; k_fill
  intro loose mean mg mb dp un gd cn cs a ccd cl outer A₀ base h₀ L mf s Q E B F X N0 T hk hd hu hret
  refine wpAny_call ?_
  k_dflt (refine' code_def ?k1 ?k2 ?k3 ?k4 ?k5 ?kA ?kF ?kK ?k6 ?k7 ?k8 ?k9 ?kB ?_ ?c2 ?c3 ?c4 ?c5; (case kA => exact rfl); (case kF => exact rfl); (case kK => first | exact rfl | assumption); (case k1 => k_asm); (case k2 => k_asm); (case k3 => k_asm); (case k4 => k_asm); (case k5 => k_asm); (case k6 => k_is); (case k7 => k_is); (case k8 => ktr_room); (case k9 => first | exact BindsTo.of_eq rfl | exact binds_K (by k_in) rfl (by k_is) rfl rfl rfl); (case c5 => decide); (case kB => exact locs rfl); (case c2 => exact rfl); (case c3 => exact rfl); (case c4 => exact rfl); k_whole; intro g' L' h' FG' F' N' B' X' T'; (try dsimp only); (try k_lift B'); (try k_fold))
  k_steps
  all_goals (refine endF hret (by assumption) ?_ (by k_asm) (by k_asm) (fun _ h => h))
  all_goals f_lean
  all_goals (unfold jdn; omega)
end
section
local macro_rules | `(tactic| walk_at "none of mine") => `(tactic| skip)
local macro_rules | `(tactic| walk_at "none of mine") => `(tactic| skip)
local macro_rules | `(tactic| walk_at "none of mine") => `(tactic| skip)
local macro_rules | `(tactic| walk_at "none of mine") => `(tactic| skip)
local macro_rules | `(tactic| walk_at "none of mine") => `(tactic| skip)
local macro_rules | `(tactic| walk_at "none of mine") => `(tactic| skip)
local macro_rules | `(tactic| walk_at "none of mine") => `(tactic| skip)
local macro_rules | `(tactic| walk_at "none of mine") => `(tactic| skip)
local macro_rules | `(tactic| walk_at "call ref") => `(tactic| (k_here; refine wpAny_call ?_; k_dflt (refine' code_def ?k1 ?k2 ?k3 ?k4 ?k5 ?kA ?kF ?kK ?k6 ?k7 ?k8 ?k9 ?kB ?_ ?c2 ?c3 ?c4 ?c5; (case kA => exact rfl); (case kF => exact rfl); (case kK => first | exact rfl | assumption); (case k1 => k_asm); (case k2 => k_asm); (case k3 => k_asm); (case k4 => k_asm); (case k5 => k_asm); (case k6 => k_is); (case k7 => k_is); (case k8 => ktr_room); (case k9 => first | exact BindsTo.of_eq rfl | exact binds_K (by k_in) rfl (by k_is) rfl rfl rfl); (case c5 => decide); (case kB => exact locs rfl); (case c2 => exact rfl); (case c3 => exact rfl); (case c4 => exact rfl); k_whole; intro g' L' h' FG' F' N' B' X' T'; (try dsimp only); (try k_lift B'); (try k_fold))))
local macro_rules | `(tactic| walk_at "binaryOp Div float float") => `(tactic| (k_dflt (refine' w_div_365c ?kc ?k0 rfl ?k1 ?kq ?_; (case kc => with_reducible rfl); (case k0 => assumption); (case k1 => omega); (case kq => ((rename (∀ i : Int, i = _ → _) => hC9); exact hC9 _ (by omega)))); intro z' hz'; (try dsimp only)))
set_option maxRecDepth 100000 in
set_option maxHeartbeats 8000000 in
theorem c_from_jdj3 (w : World) (news : List (Addr × Obj)) (y d N Y4 : Int) (x : UInt64) (t1 : Tok) (hx : Rg x 1 (2 * N - 1) (2 * N - 1)) (hy : y.natAbs ≤ 2 ^ 31) (hl : 0 < d ∧ d ≤ 31) (hY : Y4 = 1461 * (y + 4716) / 4) (hN : N = Y4 + 122 + d - 1524) (hC : ∀ i : Int, i = N + 1524 → (4 * i - 489) / 1461 = y + 4716) : CG w 107 4 news [.float x t1] (retT news (fun y' m' d' => y' = y ∧ m' = 3 ∧ d' = d)) := by
  unfold CG; w_top off; k_fill
  intro loose mean mg mb dp un gd cn cs a ccd cl outer A₀ base h₀ L mf s Q E B F X N0 T hk hd hu hret
  refine wpAny_call ?_
  k_dflt (refine' code_def ?k1 ?k2 ?k3 ?k4 ?k5 ?kA ?kF ?kK ?k6 ?k7 ?k8 ?k9 ?kB ?_ ?c2 ?c3 ?c4 ?c5; (case kA => exact rfl); (case kF => exact rfl); (case kK => first | exact rfl | assumption); (case k1 => k_asm); (case k2 => k_asm); (case k3 => k_asm); (case k4 => k_asm); (case k5 => k_asm); (case k6 => k_is); (case k7 => k_is); (case k8 => ktr_room); (case k9 => first | exact BindsTo.of_eq rfl | exact binds_K (by k_in) rfl (by k_is) rfl rfl rfl); (case c5 => decide); (case kB => exact locs rfl); (case c2 => exact rfl); (case c3 => exact rfl); (case c4 => exact rfl); k_whole; intro g' L' h' FG' F' N' B' X' T'; (try dsimp only); (try k_lift B'); (try k_fold))
  k_steps
  all_goals (refine endT hret ?_ (by k_asm) (by k_asm) (allLt_of (by assumption)) (fun _ h => h))
  all_goals f_lean
  all_goals omega
set_option maxRecDepth 100000 in
set_option maxHeartbeats 8000000 in
theorem c_from_jdj4 (w : World) (news : List (Addr × Obj)) (y d N Y4 : Int) (x : UInt64) (t1 : Tok) (hx : Rg x 1 (2 * N - 1) (2 * N - 1)) (hy : y.natAbs ≤ 2 ^ 31) (hl : 0 < d ∧ d ≤ 30) (hY : Y4 = 1461 * (y + 4716) / 4) (hN : N = Y4 + 153 + d - 1524) (hC : ∀ i : Int, i = N + 1524 → (4 * i - 489) / 1461 = y + 4716) : CG w 107 4 news [.float x t1] (retT news (fun y' m' d' => y' = y ∧ m' = 4 ∧ d' = d)) := by
  unfold CG; w_top off; k_fill
  intro loose mean mg mb dp un gd cn cs a ccd cl outer A₀ base h₀ L mf s Q E B F X N0 T hk hd hu hret
  refine wpAny_call ?_
  k_dflt (refine' code_def ?k1 ?k2 ?k3 ?k4 ?k5 ?kA ?kF ?kK ?k6 ?k7 ?k8 ?k9 ?kB ?_ ?c2 ?c3 ?c4 ?c5; (case kA => exact rfl); (case kF => exact rfl); (case kK => first | exact rfl | assumption); (case k1 => k_asm); (case k2 => k_asm); (case k3 => k_asm); (case k4 => k_asm); (case k5 => k_asm); (case k6 => k_is); (case k7 => k_is); (case k8 => ktr_room); (case k9 => first | exact BindsTo.of_eq rfl | exact binds_K (by k_in) rfl (by k_is) rfl rfl rfl); (case c5 => decide); (case kB => exact locs rfl); (case c2 => exact rfl); (case c3 => exact rfl); (case c4 => exact rfl); k_whole; intro g' L' h' FG' F' N' B' X' T'; (try dsimp only); (try k_lift B'); (try k_fold))
  k_steps
  all_goals (refine endT hret ?_ (by k_asm) (by k_asm) (allLt_of (by assumption)) (fun _ h => h))
  all_goals f_lean
  all_goals omega
end
section
local macro_rules | `(tactic| walk_at "none of mine") => `(tactic| skip)
local macro_rules | `(tactic| walk_at "none of mine") => `(tactic| skip)
local macro_rules | `(tactic| walk_at "none of mine") => `(tactic| skip)
local macro_rules | `(tactic| walk_at "none of mine") => `(tactic| skip)
local macro_rules | `(tactic| walk_at "none of mine") => `(tactic| skip)
local macro_rules | `(tactic| walk_at "none of mine") => `(tactic| skip)
local macro_rules | `(tactic| walk_at "none of mine") => `(tactic| skip)
local macro_rules | `(tactic| walk_at "none of mine") => `(tactic| skip)
local macro_rules | `(tactic| walk_at "none of mine") => `(tactic| skip)
local macro_rules | `(tactic| walk_at "none of mine") => `(tactic| skip)
local macro_rules | `(tactic| walk_at "none of mine") => `(tactic| skip)
local macro_rules | `(tactic| walk_at "binaryOp Mult int int") => `(tactic| (k_dflt (first | (refine' w_mul_01 ?k1 ?k2 ?k3 ?_; (case k1 => law_purse 400000 => omega); (case k2 => law_purse 400000 => omega); (case k3 => law_purse 400000 => omega); intro r' hr') | (refine' w_mul_10 ?k1 ?k2 ?k3 ?_; (case k1 => law_purse 400000 => omega); (case k2 => law_purse 400000 => omega); (case k3 => law_purse 400000 => omega); intro r' hr')); (try dsimp only)))
set_option maxRecDepth 100000 in
set_option maxHeartbeats 8000000 in
theorem c_west (w : World) (news : List (Addr × Obj)) (y : Int) (t1 : Tok) (hy : 1583 ≤ y ∧ y ≤ 2 ^ 31) : CG w 143 4 news [.int y t1] (retT news (fun y' m' d' => y' = y ∧ ((wL y ≤ 3 ∧ m' = 3 ∧ d' = wL y + 28) ∨ (3 < wL y ∧ m' = 4 ∧ d' = wL y - 3)))) := by
  unfold CG; w_top off; k_fill
  intro loose mean mg mb dp un gd cn cs a ccd cl outer A₀ base h₀ L mf s Q E B F X N0 T hk hd hu hret
  refine wpAny_call ?_
  k_dflt (refine' code_def ?k1 ?k2 ?k3 ?k4 ?k5 ?kA ?kF ?kK ?k6 ?k7 ?k8 ?k9 ?kB ?_ ?c2 ?c3 ?c4 ?c5; (case kA => exact rfl); (case kF => exact rfl); (case kK => first | exact rfl | assumption); (case k1 => k_asm); (case k2 => k_asm); (case k3 => k_asm); (case k4 => k_asm); (case k5 => k_asm); (case k6 => k_is); (case k7 => k_is); (case k8 => ktr_room); (case k9 => first | exact BindsTo.of_eq rfl | exact binds_K (by k_in) rfl (by k_is) rfl rfl rfl); (case c5 => decide); (case kB => exact locs rfl); (case c2 => exact rfl); (case c3 => exact rfl); (case c4 => exact rfl); k_whole; intro g' L' h' FG' F' N' B' X' T'; (try dsimp only); (try k_lift B'); (try k_fold))
  k_steps
  all_goals (refine endT hret ?_ (by k_asm) (by k_asm) (allLt_of (by assumption)) (fun _ h => h))
  all_goals (obtain ⟨hW1, hW2, hW3⟩ := west_i hy.1 (by assumption) (by assumption) (by assumption) (by assumption) (by assumption) (by assumption) (by assumption) (by assumption) (by assumption) (by assumption) (by assumption) (by assumption) (by assumption) (by assumption))
  all_goals exact ⟨rfl, west_md (by assumption) (by assumption) (by assumption) (by assumption) (by assumption) (by assumption) (by assumption) hW1 hW2 hW3⟩
end
section
local macro_rules | `(tactic| walk_at "none of mine") => `(tactic| skip)
local macro_rules | `(tactic| walk_at "none of mine") => `(tactic| skip)
local macro_rules | `(tactic| walk_at "none of mine") => `(tactic| skip)
local macro_rules | `(tactic| walk_at "none of mine") => `(tactic| skip)
local macro_rules | `(tactic| walk_at "none of mine") => `(tactic| skip)
local macro_rules | `(tactic| walk_at "none of mine") => `(tactic| skip)
local macro_rules | `(tactic| walk_at "none of mine") => `(tactic| skip)
local macro_rules | `(tactic| walk_at "none of mine") => `(tactic| skip)
local macro_rules | `(tactic| walk_at "none of mine") => `(tactic| skip)
local macro_rules | `(tactic| walk_at "none of mine") => `(tactic| skip)
local macro_rules | `(tactic| walk_at "none of mine") => `(tactic| skip)
local macro_rules | `(tactic| walk_at "none of mine") => `(tactic| skip)
local macro_rules | `(tactic| walk_at "none of mine") => `(tactic| skip)
local macro_rules | `(tactic| walk_at "call ref") => `(tactic| (k_here; refine wpAny_call ?_; k_dflt (refine' code_def ?k1 ?k2 ?k3 ?k4 ?k5 ?kA ?kF ?kK ?k6 ?k7 ?k8 ?k9 ?kB ?_ ?c2 ?c3 ?c4 ?c5; (case kA => exact rfl); (case kF => exact rfl); (case kK => first | exact rfl | assumption); (case k1 => k_asm); (case k2 => k_asm); (case k3 => k_asm); (case k4 => k_asm); (case k5 => k_asm); (case k6 => k_is); (case k7 => k_is); (case k8 => ktr_room); (case k9 => first | exact BindsTo.of_eq rfl | exact binds_K (by k_in) rfl (by k_is) rfl rfl rfl); (case c5 => decide); (case kB => exact locs rfl); (case c2 => exact rfl); (case c3 => exact rfl); (case c4 => exact rfl); k_whole; intro g' L' h' FG' F' N' B' X' T'; (try dsimp only); (try k_lift B'); (try k_fold))))
set_option maxRecDepth 100000 in
set_option maxHeartbeats 8000000 in
theorem c_jwday (w : World) (news : List (Addr × Obj)) (N : Int) (x : UInt64) (t1 : Tok) (hx : Rg x 1 (2 * N - 1) (2 * N - 1)) (hN : N.natAbs ≤ 2 ^ 45) : CG w 78 2 news [.float x t1] (retI news (N % 7)) := by
  unfold CG; w_top off; k_fill
  intro loose mean mg mb dp un gd cn cs a ccd cl outer A₀ base h₀ L mf s Q E B F X N0 T hk hd hu hret
  refine wpAny_call ?_
  k_dflt (refine' code_def ?k1 ?k2 ?k3 ?k4 ?k5 ?kA ?kF ?kK ?k6 ?k7 ?k8 ?k9 ?kB ?_ ?c2 ?c3 ?c4 ?c5; (case kA => exact rfl); (case kF => exact rfl); (case kK => first | exact rfl | assumption); (case k1 => k_asm); (case k2 => k_asm); (case k3 => k_asm); (case k4 => k_asm); (case k5 => k_asm); (case k6 => k_is); (case k7 => k_is); (case k8 => ktr_room); (case k9 => first | exact BindsTo.of_eq rfl | exact binds_K (by k_in) rfl (by k_is) rfl rfl rfl); (case c5 => decide); (case kB => exact locs rfl); (case c2 => exact rfl); (case c3 => exact rfl); (case c4 => exact rfl); k_whole; intro g' L' h' FG' F' N' B' X' T'; (try dsimp only); (try k_lift B'); (try k_fold))
  k_steps
  all_goals (refine endI hret ?_ (by k_asm) (by k_asm) (fun _ h => h))
  all_goals f_lean
  all_goals omega
set_option maxRecDepth 100000 in
set_option maxHeartbeats 8000000 in
theorem c_ej0 (w : World) (news : List (Addr × Obj)) (y : Int) (t1 : Tok) : CG w 151 2 news [.int y t1] (retT news (fun y' m' d' => y' = y ∧ m' = eM y 0 / 31 ∧ d' = eM y 0 % 31 + 1)) := by
  unfold CG; w_top off; k_fill
  intro loose mean mg mb dp un gd cn cs a ccd cl outer A₀ base h₀ L mf s Q E B F X N0 T hk hd hu hret
  refine wpAny_call ?_
  k_dflt (refine' code_def ?k1 ?k2 ?k3 ?k4 ?k5 ?kA ?kF ?kK ?k6 ?k7 ?k8 ?k9 ?kB ?_ ?c2 ?c3 ?c4 ?c5; (case kA => exact rfl); (case kF => exact rfl); (case kK => first | exact rfl | assumption); (case k1 => k_asm); (case k2 => k_asm); (case k3 => k_asm); (case k4 => k_asm); (case k5 => k_asm); (case k6 => k_is); (case k7 => k_is); (case k8 => ktr_room); (case k9 => first | exact BindsTo.of_eq rfl | exact binds_K (by k_in) rfl (by k_is) rfl rfl rfl); (case c5 => decide); (case kB => exact locs rfl); (case c2 => exact rfl); (case c3 => exact rfl); (case c4 => exact rfl); k_whole; intro g' L' h' FG' F' N' B' X' T'; (try dsimp only); (try k_lift B'); (try k_fold))
  k_steps
  all_goals (refine endT hret ?_ (by k_asm) (by k_asm) (allLt_of (by assumption)) (fun _ h => h))
  all_goals f_lean
  all_goals (have e9 : eM y 0 = 113 + (19 * (y % 19) + 15) % 30 + (2 * (y % 4) + 4 * (y % 7) - (19 * (y % 19) + 15) % 30 + 6) % 7 + 1 := by { unfold eM eD; rw [ite_self, Int.add_zero] })
  all_goals (rw [e9]; omega)
end
section
local macro_rules | `(tactic| walk_at "none of mine") => `(tactic| skip)
local macro_rules | `(tactic| walk_at "none of mine") => `(tactic| skip)
local macro_rules | `(tactic| walk_at "none of mine") => `(tactic| skip)
local macro_rules | `(tactic| walk_at "none of mine") => `(tactic| skip)
local macro_rules | `(tactic| walk_at "none of mine") => `(tactic| skip)
local macro_rules | `(tactic| walk_at "none of mine") => `(tactic| skip)
local macro_rules | `(tactic| walk_at "none of mine") => `(tactic| skip)
local macro_rules | `(tactic| walk_at "none of mine") => `(tactic| skip)
local macro_rules | `(tactic| walk_at "none of mine") => `(tactic| skip)
local macro_rules | `(tactic| walk_at "none of mine") => `(tactic| skip)
local macro_rules | `(tactic| walk_at "none of mine") => `(tactic| skip)
local macro_rules | `(tactic| walk_at "none of mine") => `(tactic| skip)
local macro_rules | `(tactic| walk_at "none of mine") => `(tactic| skip)
local macro_rules | `(tactic| walk_at "none of mine") => `(tactic| skip)
local macro_rules | `(tactic| walk_at "none of mine") => `(tactic| skip)
local macro_rules | `(tactic| walk_at "call ref") => `(tactic| (k_here; k_dflt (first | (refine' (c_to_jdj3 _ _ _ _ _ _ _ ?ka ?kb) _ _ _ _ _ _ _ _ _ _ _ _ _ _ _ _ _ _ _ _ _ ?k1 ?k2 ?k3 ?k4 ?k5 ?k6 ?k7 ?k8 ?_; (case ka => omega); (case kb => omega); (case k1 => k_asm); (case k2 => k_asm); (case k3 => k_asm); (case k4 => k_asm); (case k5 => k_asm); (case k6 => first | exact rfl | assumption); (case k7 => ktr_room); (case k8 => ktr_units)) | (refine' (c_to_jdj4 _ _ _ _ _ _ _ ?ka ?kb) _ _ _ _ _ _ _ _ _ _ _ _ _ _ _ _ _ _ _ _ _ ?k1 ?k2 ?k3 ?k4 ?k5 ?k6 ?k7 ?k8 ?_; (case ka => omega); (case kb => omega); (case k1 => k_asm); (case k2 => k_asm); (case k3 => k_asm); (case k4 => k_asm); (case k5 => k_asm); (case k6 => first | exact rfl | assumption); (case k7 => ktr_room); (case k8 => ktr_units))); intro z9 hz9 t9 h9 tk9 F9 N9; (try dsimp only); (try k_fold)))
local macro_rules | `(tactic| walk_at "call ref") => `(tactic| (k_here; k_dflt (refine' (c_from_jd _ _ _ _ _ ?ka ?kb) _ _ _ _ _ _ _ _ _ _ _ _ _ _ _ _ _ _ _ _ _ ?k1 ?k2 ?k3 ?k4 ?k5 ?k6 ?k7 ?k8 ?_; (case ka => assumption); (case kb => first | assumption | omega); (case k1 => k_asm); (case k2 => k_asm); (case k3 => k_asm); (case k4 => k_asm); (case k5 => k_asm); (case k6 => first | exact rfl | assumption); (case k7 => ktr_room); (case k8 => ktr_units)); intro y9 m9 d9 hP9 D9 ta9 tb9 tc9 c9 h9 tk9 F9 N9 l9; (try dsimp only); (try k_fold)))
set_option maxRecDepth 100000 in
set_option maxHeartbeats 8000000 in
theorem c_to_greg3 (w : World) (news : List (Addr × Obj)) (y d : Int) (t1 t2 t3 : Tok) (hy : y.natAbs ≤ 2 ^ 31) (hl : 0 < d ∧ d ≤ 31) (hb : (jdn y 3 d).natAbs ≤ 2 ^ 40) : CG w 128 6 news [.int y t1, .int 3 t2, .int d t3] (retT news (fun y' m' d' => gdn y' m' d' = jdn y 3 d ∧ 1 ≤ m' ∧ m' ≤ 12 ∧ 0 < d' ∧ d' ≤ mlen y' m')) := by
  unfold CG; w_top off; k_fill
  intro loose mean mg mb dp un gd cn cs a ccd cl outer A₀ base h₀ L mf s Q E B F X N0 T hk hd hu hret
  refine wpAny_call ?_
  k_dflt (refine' code_def ?k1 ?k2 ?k3 ?k4 ?k5 ?kA ?kF ?kK ?k6 ?k7 ?k8 ?k9 ?kB ?_ ?c2 ?c3 ?c4 ?c5; (case kA => exact rfl); (case kF => exact rfl); (case kK => first | exact rfl | assumption); (case k1 => k_asm); (case k2 => k_asm); (case k3 => k_asm); (case k4 => k_asm); (case k5 => k_asm); (case k6 => k_is); (case k7 => k_is); (case k8 => ktr_room); (case k9 => first | exact BindsTo.of_eq rfl | exact binds_K (by k_in) rfl (by k_is) rfl rfl rfl); (case c5 => decide); (case kB => exact locs rfl); (case c2 => exact rfl); (case c3 => exact rfl); (case c4 => exact rfl); k_whole; intro g' L' h' FG' F' N' B' X' T'; (try dsimp only); (try k_lift B'); (try k_fold))
  k_steps
  all_goals (refine endT hret ?e (by k_asm) (by k_asm) ?l ?s; (case l => first | assumption | exact (show AllLt _ (_ :: _) from by assumption).2); (case s => first | exact fun _ h => h | exact fun _ h => .tail _ h))
  all_goals assumption
set_option maxRecDepth 100000 in
set_option maxHeartbeats 8000000 in
theorem c_to_greg4 (w : World) (news : List (Addr × Obj)) (y d : Int) (t1 t2 t3 : Tok) (hy : y.natAbs ≤ 2 ^ 31) (hl : 0 < d ∧ d ≤ 30) (hb : (jdn y 4 d).natAbs ≤ 2 ^ 40) : CG w 128 6 news [.int y t1, .int 4 t2, .int d t3] (retT news (fun y' m' d' => gdn y' m' d' = jdn y 4 d ∧ 1 ≤ m' ∧ m' ≤ 12 ∧ 0 < d' ∧ d' ≤ mlen y' m')) := by
  unfold CG; w_top off; k_fill
  intro loose mean mg mb dp un gd cn cs a ccd cl outer A₀ base h₀ L mf s Q E B F X N0 T hk hd hu hret
  refine wpAny_call ?_
  k_dflt (refine' code_def ?k1 ?k2 ?k3 ?k4 ?k5 ?kA ?kF ?kK ?k6 ?k7 ?k8 ?k9 ?kB ?_ ?c2 ?c3 ?c4 ?c5; (case kA => exact rfl); (case kF => exact rfl); (case kK => first | exact rfl | assumption); (case k1 => k_asm); (case k2 => k_asm); (case k3 => k_asm); (case k4 => k_asm); (case k5 => k_asm); (case k6 => k_is); (case k7 => k_is); (case k8 => ktr_room); (case k9 => first | exact BindsTo.of_eq rfl | exact binds_K (by k_in) rfl (by k_is) rfl rfl rfl); (case c5 => decide); (case kB => exact locs rfl); (case c2 => exact rfl); (case c3 => exact rfl); (case c4 => exact rfl); k_whole; intro g' L' h' FG' F' N' B' X' T'; (try dsimp only); (try k_lift B'); (try k_fold))
  k_steps
  all_goals (refine endT hret ?e (by k_asm) (by k_asm) ?l ?s; (case l => first | assumption | exact (show AllLt _ (_ :: _) from by assumption).2); (case s => first | exact fun _ h => h | exact fun _ h => .tail _ h))
  all_goals assumption
theorem c_to_greg (w : World) (news : List (Addr × Obj)) (y m d : Int) (t1 t2 t3 : Tok) (hy : y.natAbs ≤ 2 ^ 31) (h : (m = 3 ∧ 0 < d ∧ d ≤ 31) ∨ (m = 4 ∧ 0 < d ∧ d ≤ 30)) : CG w 128 6 news [.int y t1, .int m t2, .int d t3] (retT news (fun y' m' d' => gdn y' m' d' = jdn y m d ∧ 1 ≤ m' ∧ m' ≤ 12 ∧ 0 < d' ∧ d' ≤ mlen y' m')) := by
  have hb := jdn_bound hy h
  rcases h with ⟨rfl, hl⟩ | ⟨rfl, hl⟩
  · exact c_to_greg3 w news y d t1 t2 t3 hy hl hb
  · exact c_to_greg4 w news y d t1 t2 t3 hy hl hb
end
section
local macro_rules | `(tactic| walk_at "none of mine") => `(tactic| skip)
local macro_rules | `(tactic| walk_at "none of mine") => `(tactic| skip)
local macro_rules | `(tactic| walk_at "none of mine") => `(tactic| skip)
local macro_rules | `(tactic| walk_at "none of mine") => `(tactic| skip)
local macro_rules | `(tactic| walk_at "none of mine") => `(tactic| skip)
local macro_rules | `(tactic| walk_at "none of mine") => `(tactic| skip)
local macro_rules | `(tactic| walk_at "none of mine") => `(tactic| skip)
local macro_rules | `(tactic| walk_at "none of mine") => `(tactic| skip)
local macro_rules | `(tactic| walk_at "none of mine") => `(tactic| skip)
local macro_rules | `(tactic| walk_at "none of mine") => `(tactic| skip)
local macro_rules | `(tactic| walk_at "none of mine") => `(tactic| skip)
local macro_rules | `(tactic| walk_at "none of mine") => `(tactic| skip)
local macro_rules | `(tactic| walk_at "none of mine") => `(tactic| skip)
local macro_rules | `(tactic| walk_at "none of mine") => `(tactic| skip)
local macro_rules | `(tactic| walk_at "none of mine") => `(tactic| skip)
local macro_rules | `(tactic| walk_at "none of mine") => `(tactic| skip)
local macro_rules | `(tactic| walk_at "none of mine") => `(tactic| skip)
local macro_rules | `(tactic| walk_at "none of mine") => `(tactic| skip)
local macro_rules | `(tactic| walk_at "call ref") => `(tactic| (k_here; k_dflt (refine' (c_to_jd_b _ _ _ _ _ _ _ _ ?k0 ?ka ?kb) _ _ _ _ _ _ _ _ _ _ _ _ _ _ _ _ _ _ _ _ _ ?k1 ?k2 ?k3 ?k4 ?k5 ?k6 ?k7 ?k8 ?_; (case k0 => assumption); (case ka => first | assumption | omega); (case kb => first | exact ⟨by decide, one_le_mlen _ _⟩ | assumption); (case k1 => k_asm); (case k2 => k_asm); (case k3 => k_asm); (case k4 => k_asm); (case k5 => k_asm); (case k6 => first | exact rfl | assumption); (case k7 => ktr_room); (case k8 => ktr_units)); intro z9 hz9 hb9 t9 h9 tk9 F9 N9; (try dsimp only); (try k_fold)))
local macro_rules | `(tactic| walk_at "call ref") => `(tactic| (k_here; k_dflt (first | (refine' (c_from_jdj3 _ _ _ _ _ _ _ _ ?ka ?kb ?kc ?kd ?ke ?kf) _ _ _ _ _ _ _ _ _ _ _ _ _ _ _ _ _ _ _ _ _ ?k1 ?k2 ?k3 ?k4 ?k5 ?k6 ?k7 ?k8 ?_; (case ka => assumption); (case ke => assumption); (case kd => exact rfl); (case kb => assumption); (case kc => assumption); (case kf => assumption); (case k1 => k_asm); (case k2 => k_asm); (case k3 => k_asm); (case k4 => k_asm); (case k5 => k_asm); (case k6 => first | exact rfl | assumption); (case k7 => ktr_room); (case k8 => ktr_units)) | (refine' (c_from_jdj4 _ _ _ _ _ _ _ _ ?ka ?kb ?kc ?kd ?ke ?kf) _ _ _ _ _ _ _ _ _ _ _ _ _ _ _ _ _ _ _ _ _ ?k1 ?k2 ?k3 ?k4 ?k5 ?k6 ?k7 ?k8 ?_; (case ka => assumption); (case ke => assumption); (case kd => exact rfl); (case kb => assumption); (case kc => assumption); (case kf => assumption); (case k1 => k_asm); (case k2 => k_asm); (case k3 => k_asm); (case k4 => k_asm); (case k5 => k_asm); (case k6 => first | exact rfl | assumption); (case k7 => ktr_room); (case k8 => ktr_units))); intro y9 m9 d9 hP9 D9 ta9 tb9 tc9 c9 h9 tk9 F9 N9 l9; (try dsimp only); (try k_fold)))
set_option maxRecDepth 100000 in
set_option maxHeartbeats 8000000 in
theorem c_from_greg3 (w : World) (news : List (Addr × Obj)) (y' m' d' y d : Int) (t1 t2 t3 : Tok) (hy' : y'.natAbs ≤ 2 ^ 32) (hm : 1 ≤ m' ∧ m' ≤ 12) (hl' : 0 < d' ∧ d' ≤ mlen y' m') (hy : y.natAbs ≤ 2 ^ 31) (hl : 0 < d ∧ d ≤ 31)
    (hN : gdn y' m' d' = 1461 * (y + 4716) / 4 + 122 + d - 1524) (hC : ∀ i : Int, i = gdn y' m' d' + 1524 → (4 * i - 489) / 1461 = y + 4716) : CG w 121 6 news [.int y' t1, .int m' t2, .int d' t3] (retT news (fun a b c => a = y ∧ b = 3 ∧ c = d)) := by
  unfold CG; w_top off; k_fill
  intro loose mean mg mb dp un gd cn cs a ccd cl outer A₀ base h₀ L mf s Q E B F X N0 T hk hd hu hret
  refine wpAny_call ?_
  k_dflt (refine' code_def ?k1 ?k2 ?k3 ?k4 ?k5 ?kA ?kF ?kK ?k6 ?k7 ?k8 ?k9 ?kB ?_ ?c2 ?c3 ?c4 ?c5; (case kA => exact rfl); (case kF => exact rfl); (case kK => first | exact rfl | assumption); (case k1 => k_asm); (case k2 => k_asm); (case k3 => k_asm); (case k4 => k_asm); (case k5 => k_asm); (case k6 => k_is); (case k7 => k_is); (case k8 => ktr_room); (case k9 => first | exact BindsTo.of_eq rfl | exact binds_K (by k_in) rfl (by k_is) rfl rfl rfl); (case c5 => decide); (case kB => exact locs rfl); (case c2 => exact rfl); (case c3 => exact rfl); (case c4 => exact rfl); k_whole; intro g' L' h' FG' F' N' B' X' T'; (try dsimp only); (try k_lift B'); (try k_fold))
  k_steps
  all_goals (refine endT hret ?e (by k_asm) (by k_asm) ?l ?s; (case l => first | assumption | exact (show AllLt _ (_ :: _) from by assumption).2); (case s => first | exact fun _ h => h | exact fun _ h => .tail _ h))
  all_goals assumption
set_option maxRecDepth 100000 in
set_option maxHeartbeats 8000000 in
theorem c_from_greg4 (w : World) (news : List (Addr × Obj)) (y' m' d' y d : Int) (t1 t2 t3 : Tok) (hy' : y'.natAbs ≤ 2 ^ 32) (hm : 1 ≤ m' ∧ m' ≤ 12) (hl' : 0 < d' ∧ d' ≤ mlen y' m') (hy : y.natAbs ≤ 2 ^ 31) (hl : 0 < d ∧ d ≤ 30)
    (hN : gdn y' m' d' = 1461 * (y + 4716) / 4 + 153 + d - 1524) (hC : ∀ i : Int, i = gdn y' m' d' + 1524 → (4 * i - 489) / 1461 = y + 4716) : CG w 121 6 news [.int y' t1, .int m' t2, .int d' t3] (retT news (fun a b c => a = y ∧ b = 4 ∧ c = d)) := by
  unfold CG; w_top off; k_fill
  intro loose mean mg mb dp un gd cn cs a ccd cl outer A₀ base h₀ L mf s Q E B F X N0 T hk hd hu hret
  refine wpAny_call ?_
  k_dflt (refine' code_def ?k1 ?k2 ?k3 ?k4 ?k5 ?kA ?kF ?kK ?k6 ?k7 ?k8 ?k9 ?kB ?_ ?c2 ?c3 ?c4 ?c5; (case kA => exact rfl); (case kF => exact rfl); (case kK => first | exact rfl | assumption); (case k1 => k_asm); (case k2 => k_asm); (case k3 => k_asm); (case k4 => k_asm); (case k5 => k_asm); (case k6 => k_is); (case k7 => k_is); (case k8 => ktr_room); (case k9 => first | exact BindsTo.of_eq rfl | exact binds_K (by k_in) rfl (by k_is) rfl rfl rfl); (case c5 => decide); (case kB => exact locs rfl); (case c2 => exact rfl); (case c3 => exact rfl); (case c4 => exact rfl); k_whole; intro g' L' h' FG' F' N' B' X' T'; (try dsimp only); (try k_lift B'); (try k_fold))
  k_steps
  all_goals (refine endT hret ?e (by k_asm) (by k_asm) ?l ?s; (case l => first | assumption | exact (show AllLt _ (_ :: _) from by assumption).2); (case s => first | exact fun _ h => h | exact fun _ h => .tail _ h))
  all_goals assumption
theorem c_from_greg (w : World) (news : List (Addr × Obj)) (y' m' d' y m d : Int) (t1 t2 t3 : Tok) (hm : 1 ≤ m' ∧ m' ≤ 12) (hl' : 0 < d' ∧ d' ≤ mlen y' m') (hy : y.natAbs ≤ 2 ^ 31) (h : (m = 3 ∧ 0 < d ∧ d ≤ 31) ∨ (m = 4 ∧ 0 < d ∧ d ≤ 30)) (hE : gdn y' m' d' = jdn y m d) :
    CG w 121 6 news [.int y' t1, .int m' t2, .int d' t3] (retT news (fun a b c => a = y ∧ b = m ∧ c = d)) := by
  have hb := jdn_bound hy h
  have hy' := year_bound hE hb hm hl'
  rcases h with ⟨rfl, hl⟩ | ⟨rfl, hl⟩
  · rw [jdn3] at hE
    exact c_from_greg3 w news y' m' d' y d t1 t2 t3 hy' hm hl' hy hl hE (jC3 hl hE)
  · rw [jdn4] at hE
    exact c_from_greg4 w news y' m' d' y d t1 t2 t3 hy' hm hl' hy hl hE (jC4 hl hE)
end
section
local macro_rules | `(tactic| walk_at "none of mine") => `(tactic| skip)
local macro_rules | `(tactic| walk_at "none of mine") => `(tactic| skip)
local macro_rules | `(tactic| walk_at "none of mine") => `(tactic| skip)
local macro_rules | `(tactic| walk_at "none of mine") => `(tactic| skip)
local macro_rules | `(tactic| walk_at "none of mine") => `(tactic| skip)
local macro_rules | `(tactic| walk_at "none of mine") => `(tactic| skip)
local macro_rules | `(tactic| walk_at "none of mine") => `(tactic| skip)
local macro_rules | `(tactic| walk_at "none of mine") => `(tactic| skip)
local macro_rules | `(tactic| walk_at "none of mine") => `(tactic| skip)
local macro_rules | `(tactic| walk_at "none of mine") => `(tactic| skip)
local macro_rules | `(tactic| walk_at "none of mine") => `(tactic| skip)
local macro_rules | `(tactic| walk_at "none of mine") => `(tactic| skip)
local macro_rules | `(tactic| walk_at "none of mine") => `(tactic| skip)
local macro_rules | `(tactic| walk_at "none of mine") => `(tactic| skip)
local macro_rules | `(tactic| walk_at "none of mine") => `(tactic| skip)
local macro_rules | `(tactic| walk_at "none of mine") => `(tactic| skip)
local macro_rules | `(tactic| walk_at "none of mine") => `(tactic| skip)
local macro_rules | `(tactic| walk_at "none of mine") => `(tactic| skip)
local macro_rules | `(tactic| walk_at "none of mine") => `(tactic| skip)
local macro_rules | `(tactic| walk_at "none of mine") => `(tactic| skip)
local macro_rules | `(tactic| walk_at "none of mine") => `(tactic| skip)
local macro_rules | `(tactic| walk_at "call ref") => `(tactic| (k_here; k_dflt (refine' (c_ej0 _ _ _ _) _ _ _ _ _ _ _ _ _ _ _ _ _ _ _ _ _ _ _ _ _ ?k1 ?k2 ?k3 ?k4 ?k5 ?k6 ?k7 ?k8 ?_; (case k1 => k_asm); (case k2 => k_asm); (case k3 => k_asm); (case k4 => k_asm); (case k5 => k_asm); (case k6 => first | exact rfl | assumption); (case k7 => ktr_room); (case k8 => ktr_units)); intro y9 m9 d9 hP9 D9 ta9 tb9 tc9 c9 h9 tk9 F9 N9 l9; (obtain ⟨e19, e29, e39⟩ := hP9); (replace e19 := Eq.symm e19); subst e19; (have hj9 := jm_cases (eM_range (Or.inl rfl)) e29 e39); (try dsimp only); (try k_fold)))
local macro_rules | `(tactic| walk_at "call ref") => `(tactic| (k_here; k_dflt (refine' (c_to_greg _ _ _ _ _ _ _ _ ?ka ?kb) _ _ _ _ _ _ _ _ _ _ _ _ _ _ _ _ _ _ _ _ _ ?k1 ?k2 ?k3 ?k4 ?k5 ?k6 ?k7 ?k8 ?_; (case ka => assumption); (case kb => assumption); (case k1 => k_asm); (case k2 => k_asm); (case k3 => k_asm); (case k4 => k_asm); (case k5 => k_asm); (case k6 => first | exact rfl | assumption); (case k7 => ktr_room); (case k8 => ktr_units)); intro y9 m9 d9 hP9 D9 ta9 tb9 tc9 c9 h9 tk9 F9 N9 l9; (try dsimp only); (try k_fold)))
local macro_rules | `(tactic| walk_at "call ref") => `(tactic| (k_here; k_dflt (refine' (c_west _ _ _ _ ?ka) _ _ _ _ _ _ _ _ _ _ _ _ _ _ _ _ _ _ _ _ _ ?k1 ?k2 ?k3 ?k4 ?k5 ?k6 ?k7 ?k8 ?_; (case ka => assumption); (case k1 => k_asm); (case k2 => k_asm); (case k3 => k_asm); (case k4 => k_asm); (case k5 => k_asm); (case k6 => first | exact rfl | assumption); (case k7 => ktr_room); (case k8 => ktr_units)); intro y9 m9 d9 hP9 D9 ta9 tb9 tc9 c9 h9 tk9 F9 N9 l9; (try dsimp only); (try k_fold)))
set_option maxRecDepth 100000 in
set_option maxHeartbeats 8000000 in
theorem c_easter_w (w : World) (news : List (Addr × Obj)) (y : Int) (t1 t2 : Tok) (hy : 1583 ≤ y ∧ y ≤ 2 ^ 31) : CG w 136 8 news [.int y t1, .str (Str.ofString "western") t2] (retT news (fun y' m' d' => y' = y ∧ ((wL y ≤ 3 ∧ m' = 3 ∧ d' = wL y + 28) ∨ (3 < wL y ∧ m' = 4 ∧ d' = wL y - 3)))) := by
  unfold CG; w_top off; k_fill
  intro loose mean mg mb dp un gd cn cs a ccd cl outer A₀ base h₀ L mf s Q E B F X N0 T hk hd hu hret
  refine wpAny_call ?_
  k_dflt (refine' code_def ?k1 ?k2 ?k3 ?k4 ?k5 ?kA ?kF ?kK ?k6 ?k7 ?k8 ?k9 ?kB ?_ ?c2 ?c3 ?c4 ?c5; (case kA => exact rfl); (case kF => exact rfl); (case kK => first | exact rfl | assumption); (case k1 => k_asm); (case k2 => k_asm); (case k3 => k_asm); (case k4 => k_asm); (case k5 => k_asm); (case k6 => k_is); (case k7 => k_is); (case k8 => ktr_room); (case k9 => first | exact BindsTo.of_eq rfl | exact binds_K (by k_in) rfl (by k_is) rfl rfl rfl); (case c5 => decide); (case kB => exact locs rfl); (case c2 => exact rfl); (case c3 => exact rfl); (case c4 => exact rfl); k_whole; intro g' L' h' FG' F' N' B' X' T'; (try dsimp only); (try k_lift B'); (try k_fold))
  k_steps
  all_goals (refine endT hret ?e (by k_asm) (by k_asm) ?l ?s; (case l => first | assumption | exact (show AllLt _ (_ :: _) from by assumption).2); (case s => first | exact fun _ h => h | exact fun _ h => .tail _ h))
  all_goals assumption
set_option maxRecDepth 100000 in
set_option maxHeartbeats 8000000 in
theorem c_easter_o (w : World) (news : List (Addr × Obj)) (y : Int) (t1 t2 : Tok) (hy : y.natAbs ≤ 2 ^ 31) : CG w 136 8 news [.int y t1, .str (Str.ofString "orthodox") t2] (retT news (fun y' m' d' => gdn y' m' d' = oN y 0 ∧ 1 ≤ m' ∧ m' ≤ 12 ∧ 0 < d' ∧ d' ≤ mlen y' m')) := by
  unfold CG; w_top off; k_fill
  intro loose mean mg mb dp un gd cn cs a ccd cl outer A₀ base h₀ L mf s Q E B F X N0 T hk hd hu hret
  refine wpAny_call ?_
  k_dflt (refine' code_def ?k1 ?k2 ?k3 ?k4 ?k5 ?kA ?kF ?kK ?k6 ?k7 ?k8 ?k9 ?kB ?_ ?c2 ?c3 ?c4 ?c5; (case kA => exact rfl); (case kF => exact rfl); (case kK => first | exact rfl | assumption); (case k1 => k_asm); (case k2 => k_asm); (case k3 => k_asm); (case k4 => k_asm); (case k5 => k_asm); (case k6 => k_is); (case k7 => k_is); (case k8 => ktr_room); (case k9 => first | exact BindsTo.of_eq rfl | exact binds_K (by k_in) rfl (by k_is) rfl rfl rfl); (case c5 => decide); (case kB => exact locs rfl); (case c2 => exact rfl); (case c3 => exact rfl); (case c4 => exact rfl); k_whole; intro g' L' h' FG' F' N' B' X' T'; (try dsimp only); (try k_lift B'); (try k_fold))
  k_steps
  all_goals (refine endT hret ?e (by k_asm) (by k_asm) ?l ?s; (case l => first | assumption | exact (show AllLt _ (_ :: _) from by assumption).2); (case s => first | exact fun _ h => h | exact fun _ h => .tail _ h))
  all_goals (subst_vars; assumption)
end
section
local macro_rules | `(tactic| walk_at "none of mine") => `(tactic| skip)
local macro_rules | `(tactic| walk_at "none of mine") => `(tactic| skip)
local macro_rules | `(tactic| walk_at "none of mine") => `(tactic| skip)
local macro_rules | `(tactic| walk_at "none of mine") => `(tactic| skip)
local macro_rules | `(tactic| walk_at "none of mine") => `(tactic| skip)
local macro_rules | `(tactic| walk_at "none of mine") => `(tactic| skip)
local macro_rules | `(tactic| walk_at "none of mine") => `(tactic| skip)
local macro_rules | `(tactic| walk_at "none of mine") => `(tactic| skip)
local macro_rules | `(tactic| walk_at "none of mine") => `(tactic| skip)
local macro_rules | `(tactic| walk_at "none of mine") => `(tactic| skip)
local macro_rules | `(tactic| walk_at "none of mine") => `(tactic| skip)
local macro_rules | `(tactic| walk_at "none of mine") => `(tactic| skip)
local macro_rules | `(tactic| walk_at "none of mine") => `(tactic| skip)
local macro_rules | `(tactic| walk_at "none of mine") => `(tactic| skip)
local macro_rules | `(tactic| walk_at "none of mine") => `(tactic| skip)
local macro_rules | `(tactic| walk_at "none of mine") => `(tactic| skip)
local macro_rules | `(tactic| walk_at "none of mine") => `(tactic| skip)
local macro_rules | `(tactic| walk_at "none of mine") => `(tactic| skip)
local macro_rules | `(tactic| walk_at "none of mine") => `(tactic| skip)
local macro_rules | `(tactic| walk_at "none of mine") => `(tactic| skip)
local macro_rules | `(tactic| walk_at "none of mine") => `(tactic| skip)
local macro_rules | `(tactic| walk_at "none of mine") => `(tactic| skip)
local macro_rules | `(tactic| walk_at "none of mine") => `(tactic| skip)
local macro_rules | `(tactic| walk_at "none of mine") => `(tactic| skip)
local macro_rules | `(tactic| walk_at "none of mine") => `(tactic| skip)
abbrev CGk (w : World) (f : Addr) (d : Nat) (news : List (Addr × Obj)) (vs : List Value) (kw : List (Str × Value)) (Ret : Heap → Addr → (Str → Option Value) → Shared → (Value → Shared → Prop) → Prop) : Prop :=
  ∀ (loose : List Str) (mean : ExcName → Option Value) (mg mb : Str → Option Value) (dp un : Nat) (gd : Option (List Code)) (cn : Str) (cs : Scope) (a : Addr) (ccd : Value) (cl : List (Str × Addr)) (outer : List Env) (A₀ : Around) (base h₀ : Heap) (L : Addr) (m : Str → Option Value) (s : Shared) (Q E : Value → Shared → Prop),
    Below A₀ base outer h₀ → Fr h₀ L s.heap m → (hd.heap_39 w.params).In h₀ → News h₀ L s.heap news → Top hd.view_39 loose mean mg mb h₀ → cs.kind = .function → dp + d < recursionLimit → un + 8 * d < cLine →
    Ret h₀ L m s Q →
    wpAny (model PySem.Challenge.rw_ad5017_01.row.prog w) (ktrTop dp un gd cn cs L a ccd cl outer) (call (.ref f) vs kw) Q E s
set_option maxRecDepth 100000 in
set_option maxHeartbeats 8000000 in
theorem c_ej1 (w : World) (news : List (Addr × Obj)) (y : Int) (t1 t2 : Tok) : CGk w 151 2 news [.int y t1] [(Str.ofString "mode", .str (Str.ofString "eastern") t2)] (retT news (fun y' m' d' => y' = y ∧ m' = eM y 1 / 31 ∧ d' = eM y 1 % 31 + 1)) := by
  unfold CGk; w_top off; k_fill
  intro loose mean mg mb dp un gd cn cs a ccd cl outer A₀ base h₀ L mf s Q E B F X N0 T hk hd hu hret
  refine wpAny_call ?_
  k_dflt (refine' code_def ?k1 ?k2 ?k3 ?k4 ?k5 ?kA ?kF ?kK ?k6 ?k7 ?k8 ?k9 ?kB ?_ ?c2 ?c3 ?c4 ?c5; (case kA => exact rfl); (case kF => exact rfl); (case kK => first | exact rfl | assumption); (case k1 => k_asm); (case k2 => k_asm); (case k3 => k_asm); (case k4 => k_asm); (case k5 => k_asm); (case k6 => k_is); (case k7 => k_is); (case k8 => ktr_room); (case k9 => first | exact BindsTo.of_eq rfl | exact binds_K (by k_in) rfl (by k_is) rfl rfl rfl); (case c5 => decide); (case kB => exact locs rfl); (case c2 => exact rfl); (case c3 => exact rfl); (case c4 => exact rfl); k_whole; intro g' L' h' FG' F' N' B' X' T'; (try dsimp only); (try k_lift B'); (try k_fold))
  k_steps
  all_goals (refine endT hret ?_ (by k_asm) (by k_asm) (allLt_of (by assumption)) (fun _ h => h))
  all_goals f_lean
  all_goals (first | ((have e9 : eD y 1 = (19 * (y % 19) + 15) % 30 + 1 := by { unfold eD; rw [if_pos (by omega)] }); (unfold eM; rw [e9]; omega)) | ((have e9 : eD y 1 = (19 * (y % 19) + 15) % 30 := by { unfold eD; rw [if_neg (by omega), Int.add_zero] }); (unfold eM; rw [e9]; omega)))
local macro_rules | `(tactic| walk_at "call ref") => `(tactic| (k_here; k_dflt (refine' (c_to_greg _ _ _ _ _ _ _ _ ?ka ?kb) _ _ _ _ _ _ _ _ _ _ _ _ _ _ _ _ _ _ _ _ _ ?k1 ?k2 ?k3 ?k4 ?k5 ?k6 ?k7 ?k8 ?_; (case ka => assumption); (case kb => assumption); (case k1 => k_asm); (case k2 => k_asm); (case k3 => k_asm); (case k4 => k_asm); (case k5 => k_asm); (case k6 => first | exact rfl | assumption); (case k7 => ktr_room); (case k8 => ktr_units)); intro y9 m9 d9 hP9 D9 ta9 tb9 tc9 c9 h9 tk9 F9 N9 l9; (try dsimp only); (try k_fold)))
local macro_rules | `(tactic| walk_at "call ref") => `(tactic| (k_here; k_dflt (refine' (c_ej1 _ _ _ _ _) _ _ _ _ _ _ _ _ _ _ _ _ _ _ _ _ _ _ _ _ _ ?k1 ?k2 ?k3 ?k4 ?k5 ?k6 ?k7 ?k8 ?_; (case k1 => k_asm); (case k2 => k_asm); (case k3 => k_asm); (case k4 => k_asm); (case k5 => k_asm); (case k6 => first | exact rfl | assumption); (case k7 => ktr_room); (case k8 => ktr_units)); intro y9 m9 d9 hP9 D9 ta9 tb9 tc9 c9 h9 tk9 F9 N9 l9; (obtain ⟨e19, e29, e39⟩ := hP9); (replace e19 := Eq.symm e19); subst e19; (have hj9 := jm_cases (eM_range (Or.inr rfl)) e29 e39); (try dsimp only); (try k_fold)))
set_option maxRecDepth 100000 in
set_option maxHeartbeats 8000000 in
theorem c_easter_e (w : World) (news : List (Addr × Obj)) (y : Int) (t1 t2 : Tok) (hy : y.natAbs ≤ 2 ^ 31) : CG w 136 8 news [.int y t1, .str (Str.ofString "eastern") t2] (retT news (fun y' m' d' => gdn y' m' d' = oN y 1 ∧ 1 ≤ m' ∧ m' ≤ 12 ∧ 0 < d' ∧ d' ≤ mlen y' m')) := by
  unfold CG; w_top off; k_fill
  intro loose mean mg mb dp un gd cn cs a ccd cl outer A₀ base h₀ L mf s Q E B F X N0 T hk hd hu hret
  refine wpAny_call ?_
  k_dflt (refine' code_def ?k1 ?k2 ?k3 ?k4 ?k5 ?kA ?kF ?kK ?k6 ?k7 ?k8 ?k9 ?kB ?_ ?c2 ?c3 ?c4 ?c5; (case kA => exact rfl); (case kF => exact rfl); (case kK => first | exact rfl | assumption); (case k1 => k_asm); (case k2 => k_asm); (case k3 => k_asm); (case k4 => k_asm); (case k5 => k_asm); (case k6 => k_is); (case k7 => k_is); (case k8 => ktr_room); (case k9 => first | exact BindsTo.of_eq rfl | exact binds_K (by k_in) rfl (by k_is) rfl rfl rfl); (case c5 => decide); (case kB => exact locs rfl); (case c2 => exact rfl); (case c3 => exact rfl); (case c4 => exact rfl); k_whole; intro g' L' h' FG' F' N' B' X' T'; (try dsimp only); (try k_lift B'); (try k_fold))
  k_steps
  all_goals (refine endT hret ?e (by k_asm) (by k_asm) ?l ?s; (case l => first | assumption | exact (show AllLt _ (_ :: _) from by assumption).2); (case s => first | exact fun _ h => h | exact fun _ h => .tail _ h))
  all_goals (subst_vars; assumption)
end
section
local macro_rules | `(tactic| walk_at "none of mine") => `(tactic| skip)
local macro_rules | `(tactic| walk_at "none of mine") => `(tactic| skip)
local macro_rules | `(tactic| walk_at "none of mine") => `(tactic| skip)
local macro_rules | `(tactic| walk_at "none of mine") => `(tactic| skip)
local macro_rules | `(tactic| walk_at "none of mine") => `(tactic| skip)
local macro_rules | `(tactic| walk_at "none of mine") => `(tactic| skip)
local macro_rules | `(tactic| walk_at "none of mine") => `(tactic| skip)
local macro_rules | `(tactic| walk_at "none of mine") => `(tactic| skip)
local macro_rules | `(tactic| walk_at "none of mine") => `(tactic| skip)
local macro_rules | `(tactic| walk_at "none of mine") => `(tactic| skip)
local macro_rules | `(tactic| walk_at "none of mine") => `(tactic| skip)
local macro_rules | `(tactic| walk_at "none of mine") => `(tactic| skip)
local macro_rules | `(tactic| walk_at "none of mine") => `(tactic| skip)
local macro_rules | `(tactic| walk_at "none of mine") => `(tactic| skip)
local macro_rules | `(tactic| walk_at "none of mine") => `(tactic| skip)
local macro_rules | `(tactic| walk_at "none of mine") => `(tactic| skip)
local macro_rules | `(tactic| walk_at "none of mine") => `(tactic| skip)
local macro_rules | `(tactic| walk_at "none of mine") => `(tactic| skip)
local macro_rules | `(tactic| walk_at "none of mine") => `(tactic| skip)
local macro_rules | `(tactic| walk_at "none of mine") => `(tactic| skip)
local macro_rules | `(tactic| walk_at "none of mine") => `(tactic| skip)
local macro_rules | `(tactic| walk_at "none of mine") => `(tactic| skip)
local macro_rules | `(tactic| walk_at "none of mine") => `(tactic| skip)
local macro_rules | `(tactic| walk_at "none of mine") => `(tactic| skip)
local macro_rules | `(tactic| walk_at "none of mine") => `(tactic| skip)
local macro_rules | `(tactic| walk_at "none of mine") => `(tactic| skip)
local macro_rules | `(tactic| walk_at "none of mine") => `(tactic| skip)
local macro_rules | `(tactic| walk_at "none of mine") => `(tactic| skip)
abbrev retR (news : List (Addr × Obj)) (lo hi : Int) (h₀ : Heap) (L : Addr) (m : Str → Option Value) (s : Shared) (Q : Value → Shared → Prop) : Prop :=
  ∀ (n : Int), lo ≤ n → n ≤ hi → ∀ (t : Tok) (h' : Heap) (tk' : Nat), Fr h₀ L h' m → News h₀ L h' news → Q (.int n t) { s with heap := h', toks := tk' }
set_option maxRecDepth 100000 in
set_option maxHeartbeats 8000000 in
theorem c_within9 (w : World) (news : List (Addr × Obj)) (n : Int) (t1 t2 : Tok) : CG w 158 2 news [.int n t1, .int 1000000000 t2] (retR news (-1000000000) 1000000000) := by
  unfold CG; w_top off; k_fill
  intro loose mean mg mb dp un gd cn cs a ccd cl outer A₀ base h₀ L mf s Q E B F X N0 T hk hd hu hret
  refine wpAny_call ?_
  k_dflt (refine' code_def ?k1 ?k2 ?k3 ?k4 ?k5 ?kA ?kF ?kK ?k6 ?k7 ?k8 ?k9 ?kB ?_ ?c2 ?c3 ?c4 ?c5; (case kA => exact rfl); (case kF => exact rfl); (case kK => first | exact rfl | assumption); (case k1 => k_asm); (case k2 => k_asm); (case k3 => k_asm); (case k4 => k_asm); (case k5 => k_asm); (case k6 => k_is); (case k7 => k_is); (case k8 => ktr_room); (case k9 => first | exact BindsTo.of_eq rfl | exact binds_K (by k_in) rfl (by k_is) rfl rfl rfl); (case c5 => decide); (case kB => exact locs rfl); (case c2 => exact rfl); (case c3 => exact rfl); (case c4 => exact rfl); k_whole; intro g' L' h' FG' F' N' B' X' T'; (try dsimp only); (try k_lift B'); (try k_fold))
  k_steps
  all_goals exact hret _ (by omega) (by omega) _ _ _ (by k_asm) (by k_asm)
set_option maxRecDepth 100000 in
set_option maxHeartbeats 8000000 in
theorem c_within6 (w : World) (news : List (Addr × Obj)) (n : Int) (t1 t2 : Tok) : CG w 158 2 news [.int n t1, .int 1000000 t2] (retR news (-1000000) 1000000) := by
  unfold CG; w_top off; k_fill
  intro loose mean mg mb dp un gd cn cs a ccd cl outer A₀ base h₀ L mf s Q E B F X N0 T hk hd hu hret
  refine wpAny_call ?_
  k_dflt (refine' code_def ?k1 ?k2 ?k3 ?k4 ?k5 ?kA ?kF ?kK ?k6 ?k7 ?k8 ?k9 ?kB ?_ ?c2 ?c3 ?c4 ?c5; (case kA => exact rfl); (case kF => exact rfl); (case kK => first | exact rfl | assumption); (case k1 => k_asm); (case k2 => k_asm); (case k3 => k_asm); (case k4 => k_asm); (case k5 => k_asm); (case k6 => k_is); (case k7 => k_is); (case k8 => ktr_room); (case k9 => first | exact BindsTo.of_eq rfl | exact binds_K (by k_in) rfl (by k_is) rfl rfl rfl); (case c5 => decide); (case kB => exact locs rfl); (case c2 => exact rfl); (case c3 => exact rfl); (case c4 => exact rfl); k_whole; intro g' L' h' FG' F' N' B' X' T'; (try dsimp only); (try k_lift B'); (try k_fold))
  k_steps
  all_goals exact hret _ (by omega) (by omega) _ _ _ (by k_asm) (by k_asm)
end
section
local macro_rules | `(tactic| walk_at "none of mine") => `(tactic| skip)
local macro_rules | `(tactic| walk_at "none of mine") => `(tactic| skip)
local macro_rules | `(tactic| walk_at "none of mine") => `(tactic| skip)
local macro_rules | `(tactic| walk_at "none of mine") => `(tactic| skip)
local macro_rules | `(tactic| walk_at "none of mine") => `(tactic| skip)
local macro_rules | `(tactic| walk_at "none of mine") => `(tactic| skip)
local macro_rules | `(tactic| walk_at "none of mine") => `(tactic| skip)
local macro_rules | `(tactic| walk_at "none of mine") => `(tactic| skip)
local macro_rules | `(tactic| walk_at "none of mine") => `(tactic| skip)
local macro_rules | `(tactic| walk_at "none of mine") => `(tactic| skip)
local macro_rules | `(tactic| walk_at "none of mine") => `(tactic| skip)
local macro_rules | `(tactic| walk_at "none of mine") => `(tactic| skip)
local macro_rules | `(tactic| walk_at "none of mine") => `(tactic| skip)
local macro_rules | `(tactic| walk_at "none of mine") => `(tactic| skip)
local macro_rules | `(tactic| walk_at "none of mine") => `(tactic| skip)
local macro_rules | `(tactic| walk_at "none of mine") => `(tactic| skip)
local macro_rules | `(tactic| walk_at "none of mine") => `(tactic| skip)
local macro_rules | `(tactic| walk_at "none of mine") => `(tactic| skip)
local macro_rules | `(tactic| walk_at "none of mine") => `(tactic| skip)
local macro_rules | `(tactic| walk_at "none of mine") => `(tactic| skip)
local macro_rules | `(tactic| walk_at "none of mine") => `(tactic| skip)
local macro_rules | `(tactic| walk_at "none of mine") => `(tactic| skip)
local macro_rules | `(tactic| walk_at "none of mine") => `(tactic| skip)
local macro_rules | `(tactic| walk_at "none of mine") => `(tactic| skip)
local macro_rules | `(tactic| walk_at "none of mine") => `(tactic| skip)
local macro_rules | `(tactic| walk_at "none of mine") => `(tactic| skip)
local macro_rules | `(tactic| walk_at "none of mine") => `(tactic| skip)
local macro_rules | `(tactic| walk_at "none of mine") => `(tactic| skip)
local macro_rules | `(tactic| walk_at "none of mine") => `(tactic| skip)
local macro_rules | `(tactic| walk_at "call ref") => `(tactic| (k_here; k_dflt (refine' (c_to_jd_b _ _ _ _ _ _ _ _ ?k0 ?ka ?kb) _ _ _ _ _ _ _ _ _ _ _ _ _ _ _ _ _ _ _ _ _ ?k1 ?k2 ?k3 ?k4 ?k5 ?k6 ?k7 ?k8 ?_; (case k0 => assumption); (case ka => first | assumption | omega); (case kb => first | exact ⟨by decide, one_le_mlen _ _⟩ | assumption); (case k1 => k_asm); (case k2 => k_asm); (case k3 => k_asm); (case k4 => k_asm); (case k5 => k_asm); (case k6 => first | exact rfl | assumption); (case k7 => ktr_room); (case k8 => ktr_units)); intro z9 hz9 hb9 t9 h9 tk9 F9 N9; (try dsimp only); (try k_fold)))
local macro_rules | `(tactic| walk_at "call ref") => `(tactic| (k_here; k_dflt (refine' (c_easter_w _ _ _ _ _ ?ka) _ _ _ _ _ _ _ _ _ _ _ _ _ _ _ _ _ _ _ _ _ ?k1 ?k2 ?k3 ?k4 ?k5 ?k6 ?k7 ?k8 ?_; (case ka => assumption); (case k1 => k_asm); (case k2 => k_asm); (case k3 => k_asm); (case k4 => k_asm); (case k5 => k_asm); (case k6 => first | exact rfl | assumption); (case k7 => ktr_room); (case k8 => ktr_units)); intro y9 m9 d9 hP9 D9 ta9 tb9 tc9 c9 h9 tk9 F9 N9 l9; (obtain ⟨e19, hP9⟩ := hP9); (replace e19 := Eq.symm e19); subst e19; (obtain ⟨hm9, hd9, hg9⟩ := west_legal hP9); (try dsimp only); (try k_fold)))
local macro_rules | `(tactic| walk_at "call ref") => `(tactic| (k_here; k_dflt (refine' (c_easter_o _ _ _ _ _ ?ka) _ _ _ _ _ _ _ _ _ _ _ _ _ _ _ _ _ _ _ _ _ ?k1 ?k2 ?k3 ?k4 ?k5 ?k6 ?k7 ?k8 ?_; (case ka => assumption); (case k1 => k_asm); (case k2 => k_asm); (case k3 => k_asm); (case k4 => k_asm); (case k5 => k_asm); (case k6 => first | exact rfl | assumption); (case k7 => ktr_room); (case k8 => ktr_units)); intro y9 m9 d9 hP9 D9 ta9 tb9 tc9 c9 h9 tk9 F9 N9 l9; (obtain ⟨hg9, hma9, hmb9, hda9, hdb9⟩ := hP9); (have hm9 := And.intro hma9 hmb9); (have hd9 := And.intro hda9 hdb9); (have hyb9 := year_bound hg9 (oN_bound (by assumption) (Or.inl rfl)) hm9 hd9); (try dsimp only); (try k_fold)))
local macro_rules | `(tactic| walk_at "call ref") => `(tactic| (k_here; k_dflt (refine' (c_easter_e _ _ _ _ _ ?ka) _ _ _ _ _ _ _ _ _ _ _ _ _ _ _ _ _ _ _ _ _ ?k1 ?k2 ?k3 ?k4 ?k5 ?k6 ?k7 ?k8 ?_; (case ka => assumption); (case k1 => k_asm); (case k2 => k_asm); (case k3 => k_asm); (case k4 => k_asm); (case k5 => k_asm); (case k6 => first | exact rfl | assumption); (case k7 => ktr_room); (case k8 => ktr_units)); intro y9 m9 d9 hP9 D9 ta9 tb9 tc9 c9 h9 tk9 F9 N9 l9; (obtain ⟨hg9, hma9, hmb9, hda9, hdb9⟩ := hP9); (have hm9 := And.intro hma9 hmb9); (have hd9 := And.intro hda9 hdb9); (have hyb9 := year_bound hg9 (oN_bound (by assumption) (Or.inr rfl)) hm9 hd9); (try dsimp only); (try k_fold)))
set_option maxRecDepth 100000 in
set_option maxHeartbeats 8000000 in
theorem c_day_w (w : World) (news : List (Addr × Obj)) (y : Int) (t1 t2 : Tok) (hy : 1583 ≤ y ∧ y ≤ 2 ^ 31) (hy2 : y.natAbs ≤ 2 ^ 32) : CG w 165 9 news [.int y t1, .str (Str.ofString "western") t2] (retF news (2 * wN y - 1)) := by
  unfold CG; w_top off; k_fill
  intro loose mean mg mb dp un gd cn cs a ccd cl outer A₀ base h₀ L mf s Q E B F X N0 T hk hd hu hret
  refine wpAny_call ?_
  k_dflt (refine' code_def ?k1 ?k2 ?k3 ?k4 ?k5 ?kA ?kF ?kK ?k6 ?k7 ?k8 ?k9 ?kB ?_ ?c2 ?c3 ?c4 ?c5; (case kA => exact rfl); (case kF => exact rfl); (case kK => first | exact rfl | assumption); (case k1 => k_asm); (case k2 => k_asm); (case k3 => k_asm); (case k4 => k_asm); (case k5 => k_asm); (case k6 => k_is); (case k7 => k_is); (case k8 => ktr_room); (case k9 => first | exact BindsTo.of_eq rfl | exact binds_K (by k_in) rfl (by k_is) rfl rfl rfl); (case c5 => decide); (case kB => exact locs rfl); (case c2 => exact rfl); (case c3 => exact rfl); (case c4 => exact rfl); k_whole; intro g' L' h' FG' F' N' B' X' T'; (try dsimp only); (try k_lift B'); (try k_fold))
  k_steps
  all_goals (refine endF hret (by assumption) ?_ (by k_asm) (by k_asm) (fun _ h => .tail _ h))
  all_goals (f_lean; omega)
set_option maxRecDepth 100000 in
set_option maxHeartbeats 8000000 in
theorem c_day_o (w : World) (news : List (Addr × Obj)) (y : Int) (t1 t2 : Tok) (hy : y.natAbs ≤ 2 ^ 31) : CG w 165 9 news [.int y t1, .str (Str.ofString "orthodox") t2] (retF news (2 * oN y 0 - 1)) := by
  unfold CG; w_top off; k_fill
  intro loose mean mg mb dp un gd cn cs a ccd cl outer A₀ base h₀ L mf s Q E B F X N0 T hk hd hu hret
  refine wpAny_call ?_
  k_dflt (refine' code_def ?k1 ?k2 ?k3 ?k4 ?k5 ?kA ?kF ?kK ?k6 ?k7 ?k8 ?k9 ?kB ?_ ?c2 ?c3 ?c4 ?c5; (case kA => exact rfl); (case kF => exact rfl); (case kK => first | exact rfl | assumption); (case k1 => k_asm); (case k2 => k_asm); (case k3 => k_asm); (case k4 => k_asm); (case k5 => k_asm); (case k6 => k_is); (case k7 => k_is); (case k8 => ktr_room); (case k9 => first | exact BindsTo.of_eq rfl | exact binds_K (by k_in) rfl (by k_is) rfl rfl rfl); (case c5 => decide); (case kB => exact locs rfl); (case c2 => exact rfl); (case c3 => exact rfl); (case c4 => exact rfl); k_whole; intro g' L' h' FG' F' N' B' X' T'; (try dsimp only); (try k_lift B'); (try k_fold))
  k_steps
  all_goals (refine endF hret (by assumption) ?_ (by k_asm) (by k_asm) (fun _ h => .tail _ h))
  all_goals (f_lean; omega)
set_option maxRecDepth 100000 in
set_option maxHeartbeats 8000000 in
theorem c_day_e (w : World) (news : List (Addr × Obj)) (y : Int) (t1 t2 : Tok) (hy : y.natAbs ≤ 2 ^ 31) : CG w 165 9 news [.int y t1, .str (Str.ofString "eastern") t2] (retF news (2 * oN y 1 - 1)) := by
  unfold CG; w_top off; k_fill
  intro loose mean mg mb dp un gd cn cs a ccd cl outer A₀ base h₀ L mf s Q E B F X N0 T hk hd hu hret
  refine wpAny_call ?_
  k_dflt (refine' code_def ?k1 ?k2 ?k3 ?k4 ?k5 ?kA ?kF ?kK ?k6 ?k7 ?k8 ?k9 ?kB ?_ ?c2 ?c3 ?c4 ?c5; (case kA => exact rfl); (case kF => exact rfl); (case kK => first | exact rfl | assumption); (case k1 => k_asm); (case k2 => k_asm); (case k3 => k_asm); (case k4 => k_asm); (case k5 => k_asm); (case k6 => k_is); (case k7 => k_is); (case k8 => ktr_room); (case k9 => first | exact BindsTo.of_eq rfl | exact binds_K (by k_in) rfl (by k_is) rfl rfl rfl); (case c5 => decide); (case kB => exact locs rfl); (case c2 => exact rfl); (case c3 => exact rfl); (case c4 => exact rfl); k_whole; intro g' L' h' FG' F' N' B' X' T'; (try dsimp only); (try k_lift B'); (try k_fold))
  k_steps
  all_goals (refine endF hret (by assumption) ?_ (by k_asm) (by k_asm) (fun _ h => .tail _ h))
  all_goals (f_lean; omega)
end
section
local macro_rules | `(tactic| walk_at "none of mine") => `(tactic| skip)
local macro_rules | `(tactic| walk_at "none of mine") => `(tactic| skip)
local macro_rules | `(tactic| walk_at "none of mine") => `(tactic| skip)
local macro_rules | `(tactic| walk_at "none of mine") => `(tactic| skip)
local macro_rules | `(tactic| walk_at "none of mine") => `(tactic| skip)
local macro_rules | `(tactic| walk_at "none of mine") => `(tactic| skip)
local macro_rules | `(tactic| walk_at "none of mine") => `(tactic| skip)
local macro_rules | `(tactic| walk_at "none of mine") => `(tactic| skip)
local macro_rules | `(tactic| walk_at "none of mine") => `(tactic| skip)
local macro_rules | `(tactic| walk_at "none of mine") => `(tactic| skip)
local macro_rules | `(tactic| walk_at "none of mine") => `(tactic| skip)
local macro_rules | `(tactic| walk_at "none of mine") => `(tactic| skip)
local macro_rules | `(tactic| walk_at "none of mine") => `(tactic| skip)
local macro_rules | `(tactic| walk_at "none of mine") => `(tactic| skip)
local macro_rules | `(tactic| walk_at "none of mine") => `(tactic| skip)
local macro_rules | `(tactic| walk_at "none of mine") => `(tactic| skip)
local macro_rules | `(tactic| walk_at "none of mine") => `(tactic| skip)
local macro_rules | `(tactic| walk_at "none of mine") => `(tactic| skip)
local macro_rules | `(tactic| walk_at "none of mine") => `(tactic| skip)
local macro_rules | `(tactic| walk_at "none of mine") => `(tactic| skip)
local macro_rules | `(tactic| walk_at "none of mine") => `(tactic| skip)
local macro_rules | `(tactic| walk_at "none of mine") => `(tactic| skip)
local macro_rules | `(tactic| walk_at "none of mine") => `(tactic| skip)
local macro_rules | `(tactic| walk_at "none of mine") => `(tactic| skip)
local macro_rules | `(tactic| walk_at "none of mine") => `(tactic| skip)
local macro_rules | `(tactic| walk_at "none of mine") => `(tactic| skip)
local macro_rules | `(tactic| walk_at "none of mine") => `(tactic| skip)
local macro_rules | `(tactic| walk_at "none of mine") => `(tactic| skip)
local macro_rules | `(tactic| walk_at "none of mine") => `(tactic| skip)
local macro_rules | `(tactic| walk_at "none of mine") => `(tactic| skip)
local macro_rules | `(tactic| walk_at "none of mine") => `(tactic| skip)
local macro_rules | `(tactic| walk_at "none of mine") => `(tactic| skip)
local macro_rules | `(tactic| walk_at "none of mine") => `(tactic| skip)
local macro_rules | `(tactic| walk_at "none of mine") => `(tactic| skip)
local macro_rules | `(tactic| walk_at "call ref") => `(tactic| (k_here; k_dflt (refine' (c_from_greg _ _ _ _ _ _ _ _ _ _ _ ?ka ?kb ?kc ?kd ?ke) _ _ _ _ _ _ _ _ _ _ _ _ _ _ _ _ _ _ _ _ _ ?k1 ?k2 ?k3 ?k4 ?k5 ?k6 ?k7 ?k8 ?_; (case ka => assumption); (case kb => assumption); (case ke => first | assumption | (unfold oN at *; assumption)); (case kc => assumption); (case kd => assumption); (case k1 => k_asm); (case k2 => k_asm); (case k3 => k_asm); (case k4 => k_asm); (case k5 => k_asm); (case k6 => first | exact rfl | assumption); (case k7 => ktr_room); (case k8 => ktr_units)); intro y9 m9 d9 hP9 D9 ta9 tb9 tc9 c9 h9 tk9 F9 N9 l9; (try dsimp only); (try k_fold)))
local macro_rules | `(tactic| walk_at "call ref") => `(tactic| (k_here; k_dflt (refine' (c_easter_w _ _ _ _ _ ?ka) _ _ _ _ _ _ _ _ _ _ _ _ _ _ _ _ _ _ _ _ _ ?k1 ?k2 ?k3 ?k4 ?k5 ?k6 ?k7 ?k8 ?_; (case ka => assumption); (case k1 => k_asm); (case k2 => k_asm); (case k3 => k_asm); (case k4 => k_asm); (case k5 => k_asm); (case k6 => first | exact rfl | assumption); (case k7 => ktr_room); (case k8 => ktr_units)); intro y9 m9 d9 hP9 D9 ta9 tb9 tc9 c9 h9 tk9 F9 N9 l9; (obtain ⟨e19, hP9⟩ := hP9); (replace e19 := Eq.symm e19); subst e19; (obtain ⟨hm9, hd9, hg9⟩ := west_legal hP9); (try dsimp only); (try k_fold)))
local macro_rules | `(tactic| walk_at "call ref") => `(tactic| (k_here; k_dflt (refine' (c_easter_o _ _ _ _ _ ?ka) _ _ _ _ _ _ _ _ _ _ _ _ _ _ _ _ _ _ _ _ _ ?k1 ?k2 ?k3 ?k4 ?k5 ?k6 ?k7 ?k8 ?_; (case ka => assumption); (case k1 => k_asm); (case k2 => k_asm); (case k3 => k_asm); (case k4 => k_asm); (case k5 => k_asm); (case k6 => first | exact rfl | assumption); (case k7 => ktr_room); (case k8 => ktr_units)); intro y9 m9 d9 hP9 D9 ta9 tb9 tc9 c9 h9 tk9 F9 N9 l9; (obtain ⟨hg9, hma9, hmb9, hda9, hdb9⟩ := hP9); (have hm9 := And.intro hma9 hmb9); (have hd9 := And.intro hda9 hdb9); (have hyb9 := year_bound hg9 (oN_bound (by assumption) (Or.inl rfl)) hm9 hd9); (try dsimp only); (try k_fold)))
local macro_rules | `(tactic| walk_at "call ref") => `(tactic| (k_here; k_dflt (refine' (c_easter_e _ _ _ _ _ ?ka) _ _ _ _ _ _ _ _ _ _ _ _ _ _ _ _ _ _ _ _ _ ?k1 ?k2 ?k3 ?k4 ?k5 ?k6 ?k7 ?k8 ?_; (case ka => assumption); (case k1 => k_asm); (case k2 => k_asm); (case k3 => k_asm); (case k4 => k_asm); (case k5 => k_asm); (case k6 => first | exact rfl | assumption); (case k7 => ktr_room); (case k8 => ktr_units)); intro y9 m9 d9 hP9 D9 ta9 tb9 tc9 c9 h9 tk9 F9 N9 l9; (obtain ⟨hg9, hma9, hmb9, hda9, hdb9⟩ := hP9); (have hm9 := And.intro hma9 hmb9); (have hd9 := And.intro hda9 hdb9); (have hyb9 := year_bound hg9 (oN_bound (by assumption) (Or.inr rfl)) hm9 hd9); (try dsimp only); (try k_fold)))
set_option maxRecDepth 100000 in
set_option maxHeartbeats 8000000 in
theorem c_old_o (w : World) (news : List (Addr × Obj)) (y : Int) (t1 t2 : Tok) (hy : y.natAbs ≤ 2 ^ 31) (hj : (eM y 0 / 31 = 3 ∧ 0 < eM y 0 % 31 + 1 ∧ eM y 0 % 31 + 1 ≤ 31) ∨ (eM y 0 / 31 = 4 ∧ 0 < eM y 0 % 31 + 1 ∧ eM y 0 % 31 + 1 ≤ 30)) : CG w 172 9 news [.int y t1, .str (Str.ofString "orthodox") t2] (retT news (fun y' m' d' => y' = y ∧ m' = eM y 0 / 31 ∧ d' = eM y 0 % 31 + 1)) := by
  unfold CG; w_top off; k_fill
  intro loose mean mg mb dp un gd cn cs a ccd cl outer A₀ base h₀ L mf s Q E B F X N0 T hk hd hu hret
  refine wpAny_call ?_
  k_dflt (refine' code_def ?k1 ?k2 ?k3 ?k4 ?k5 ?kA ?kF ?kK ?k6 ?k7 ?k8 ?k9 ?kB ?_ ?c2 ?c3 ?c4 ?c5; (case kA => exact rfl); (case kF => exact rfl); (case kK => first | exact rfl | assumption); (case k1 => k_asm); (case k2 => k_asm); (case k3 => k_asm); (case k4 => k_asm); (case k5 => k_asm); (case k6 => k_is); (case k7 => k_is); (case k8 => ktr_room); (case k9 => first | exact BindsTo.of_eq rfl | exact binds_K (by k_in) rfl (by k_is) rfl rfl rfl); (case c5 => decide); (case kB => exact locs rfl); (case c2 => exact rfl); (case c3 => exact rfl); (case c4 => exact rfl); k_whole; intro g' L' h' FG' F' N' B' X' T'; (try dsimp only); (try k_lift B'); (try k_fold))
  k_steps
  all_goals (refine endT hret ?e (by k_asm) (by k_asm) ?l ?s; (case l => first | assumption | exact (show AllLt _ (_ :: _) from by assumption).2); (case s => first | exact fun _ h => h | exact fun _ h => .tail _ h))
  all_goals assumption
set_option maxRecDepth 100000 in
set_option maxHeartbeats 8000000 in
theorem c_old_e (w : World) (news : List (Addr × Obj)) (y : Int) (t1 t2 : Tok) (hy : y.natAbs ≤ 2 ^ 31) (hj : (eM y 1 / 31 = 3 ∧ 0 < eM y 1 % 31 + 1 ∧ eM y 1 % 31 + 1 ≤ 31) ∨ (eM y 1 / 31 = 4 ∧ 0 < eM y 1 % 31 + 1 ∧ eM y 1 % 31 + 1 ≤ 30)) : CG w 172 9 news [.int y t1, .str (Str.ofString "eastern") t2] (retT news (fun y' m' d' => y' = y ∧ m' = eM y 1 / 31 ∧ d' = eM y 1 % 31 + 1)) := by
  unfold CG; w_top off; k_fill
  intro loose mean mg mb dp un gd cn cs a ccd cl outer A₀ base h₀ L mf s Q E B F X N0 T hk hd hu hret
  refine wpAny_call ?_
  k_dflt (refine' code_def ?k1 ?k2 ?k3 ?k4 ?k5 ?kA ?kF ?kK ?k6 ?k7 ?k8 ?k9 ?kB ?_ ?c2 ?c3 ?c4 ?c5; (case kA => exact rfl); (case kF => exact rfl); (case kK => first | exact rfl | assumption); (case k1 => k_asm); (case k2 => k_asm); (case k3 => k_asm); (case k4 => k_asm); (case k5 => k_asm); (case k6 => k_is); (case k7 => k_is); (case k8 => ktr_room); (case k9 => first | exact BindsTo.of_eq rfl | exact binds_K (by k_in) rfl (by k_is) rfl rfl rfl); (case c5 => decide); (case kB => exact locs rfl); (case c2 => exact rfl); (case c3 => exact rfl); (case c4 => exact rfl); k_whole; intro g' L' h' FG' F' N' B' X' T'; (try dsimp only); (try k_lift B'); (try k_fold))
  k_steps
  all_goals (refine endT hret ?e (by k_asm) (by k_asm) ?l ?s; (case l => first | assumption | exact (show AllLt _ (_ :: _) from by assumption).2); (case s => first | exact fun _ h => h | exact fun _ h => .tail _ h))
  all_goals assumption
end
section
local macro_rules | `(tactic| walk_at "none of mine") => `(tactic| skip)
local macro_rules | `(tactic| walk_at "none of mine") => `(tactic| skip)
local macro_rules | `(tactic| walk_at "none of mine") => `(tactic| skip)
local macro_rules | `(tactic| walk_at "none of mine") => `(tactic| skip)
local macro_rules | `(tactic| walk_at "none of mine") => `(tactic| skip)
local macro_rules | `(tactic| walk_at "none of mine") => `(tactic| skip)
local macro_rules | `(tactic| walk_at "none of mine") => `(tactic| skip)
local macro_rules | `(tactic| walk_at "none of mine") => `(tactic| skip)
local macro_rules | `(tactic| walk_at "none of mine") => `(tactic| skip)
local macro_rules | `(tactic| walk_at "none of mine") => `(tactic| skip)
local macro_rules | `(tactic| walk_at "none of mine") => `(tactic| skip)
local macro_rules | `(tactic| walk_at "none of mine") => `(tactic| skip)
local macro_rules | `(tactic| walk_at "none of mine") => `(tactic| skip)
local macro_rules | `(tactic| walk_at "none of mine") => `(tactic| skip)
local macro_rules | `(tactic| walk_at "none of mine") => `(tactic| skip)
local macro_rules | `(tactic| walk_at "none of mine") => `(tactic| skip)
local macro_rules | `(tactic| walk_at "none of mine") => `(tactic| skip)
local macro_rules | `(tactic| walk_at "none of mine") => `(tactic| skip)
local macro_rules | `(tactic| walk_at "none of mine") => `(tactic| skip)
local macro_rules | `(tactic| walk_at "none of mine") => `(tactic| skip)
local macro_rules | `(tactic| walk_at "none of mine") => `(tactic| skip)
local macro_rules | `(tactic| walk_at "none of mine") => `(tactic| skip)
local macro_rules | `(tactic| walk_at "none of mine") => `(tactic| skip)
local macro_rules | `(tactic| walk_at "none of mine") => `(tactic| skip)
local macro_rules | `(tactic| walk_at "none of mine") => `(tactic| skip)
local macro_rules | `(tactic| walk_at "none of mine") => `(tactic| skip)
local macro_rules | `(tactic| walk_at "none of mine") => `(tactic| skip)
local macro_rules | `(tactic| walk_at "none of mine") => `(tactic| skip)
local macro_rules | `(tactic| walk_at "none of mine") => `(tactic| skip)
local macro_rules | `(tactic| walk_at "none of mine") => `(tactic| skip)
local macro_rules | `(tactic| walk_at "none of mine") => `(tactic| skip)
local macro_rules | `(tactic| walk_at "none of mine") => `(tactic| skip)
local macro_rules | `(tactic| walk_at "none of mine") => `(tactic| skip)
local macro_rules | `(tactic| walk_at "none of mine") => `(tactic| skip)
local macro_rules | `(tactic| walk_at "none of mine") => `(tactic| skip)
local macro_rules | `(tactic| walk_at "none of mine") => `(tactic| skip)
local macro_rules | `(tactic| walk_at "none of mine") => `(tactic| skip)
local macro_rules | `(tactic| walk_at "none of mine") => `(tactic| skip)
local macro_rules | `(tactic| walk_at "none of mine") => `(tactic| skip)
local macro_rules | `(tactic| walk_at "subscriptTail") => `(tactic| (k_here; (with_reducible show wpAny _ _ (subscriptTail _ _ (Value.ref _) (Value.int _ _)) _ _ _); k_dflt (refine' item_tupleT ?t ?a ?b ?c ?d ?_; (case t => exact News.isTup (by k_asm) (by first | assumption | exact List.Mem.tail _ (by assumption) | exact List.Mem.tail _ (List.Mem.tail _ (by assumption)))); (case a => decide); (case b => decide); (case c => rfl); (case d => rfl); k_whole)))
local macro_rules | `(tactic| walk_at "compareOp LtE ref ref") => `(tactic| (k_here; k_dflt (refine' le_pair ?a ?b ?u ?_; (case a => exact News.isTup (by k_asm) (by k_mem)); (case b => exact News.isTup (by k_asm) (by k_mem)); (case u => ktr_units)); (try dsimp only)))
set_option maxRecDepth 100000 in
set_option maxHeartbeats 8000000 in
theorem c_intime3 (w : World) (news : List (Addr × Obj)) (D : Addr) (y d : Int) (ta tb tc t1 : Tok) (c : Nat) (hM : (D, tup3 y 3 d ta tb tc c) ∈ news) (hd : 22 ≤ d ∧ d ≤ 31) : CG w 179 3 news [.ref D, .int y t1] (retB news true) := by
  unfold CG; w_top off; k_fill
  intro loose mean mg mb dp un gd cn cs a ccd cl outer A₀ base h₀ L mf s Q E B F X N0 T hk hd hu hret
  refine wpAny_call ?_
  k_dflt (refine' code_def ?k1 ?k2 ?k3 ?k4 ?k5 ?kA ?kF ?kK ?k6 ?k7 ?k8 ?k9 ?kB ?_ ?c2 ?c3 ?c4 ?c5; (case kA => exact rfl); (case kF => exact rfl); (case kK => first | exact rfl | assumption); (case k1 => k_asm); (case k2 => k_asm); (case k3 => k_asm); (case k4 => k_asm); (case k5 => k_asm); (case k6 => k_is); (case k7 => k_is); (case k8 => ktr_room); (case k9 => first | exact BindsTo.of_eq rfl | exact binds_K (by k_in) rfl (by k_is) rfl rfl rfl); (case c5 => decide); (case kB => exact locs rfl); (case c2 => exact rfl); (case c3 => exact rfl); (case c4 => exact rfl); k_whole; intro g' L' h' FG' F' N' B' X' T'; (try dsimp only); (try k_lift B'); (try k_fold))
  k_steps
  all_goals (refine endB hret ?_ (by k_asm) (by k_asm) (by first | exact fun _ h => h | exact fun _ h => .tail _ h | exact fun _ h => .tail _ (.tail _ h) | exact fun _ h => .tail _ (.tail _ (.tail _ h))))
  all_goals f_lean
  all_goals (apply decide_eq_true; omega)
set_option maxRecDepth 100000 in
set_option maxHeartbeats 8000000 in
theorem c_intime4 (w : World) (news : List (Addr × Obj)) (D : Addr) (y d : Int) (ta tb tc t1 : Tok) (c : Nat) (hM : (D, tup3 y 4 d ta tb tc c) ∈ news) (hd : 1 ≤ d ∧ d ≤ 25) : CG w 179 3 news [.ref D, .int y t1] (retB news true) := by
  unfold CG; w_top off; k_fill
  intro loose mean mg mb dp un gd cn cs a ccd cl outer A₀ base h₀ L mf s Q E B F X N0 T hk hd hu hret
  refine wpAny_call ?_
  k_dflt (refine' code_def ?k1 ?k2 ?k3 ?k4 ?k5 ?kA ?kF ?kK ?k6 ?k7 ?k8 ?k9 ?kB ?_ ?c2 ?c3 ?c4 ?c5; (case kA => exact rfl); (case kF => exact rfl); (case kK => first | exact rfl | assumption); (case k1 => k_asm); (case k2 => k_asm); (case k3 => k_asm); (case k4 => k_asm); (case k5 => k_asm); (case k6 => k_is); (case k7 => k_is); (case k8 => ktr_room); (case k9 => first | exact BindsTo.of_eq rfl | exact binds_K (by k_in) rfl (by k_is) rfl rfl rfl); (case c5 => decide); (case kB => exact locs rfl); (case c2 => exact rfl); (case c3 => exact rfl); (case c4 => exact rfl); k_whole; intro g' L' h' FG' F' N' B' X' T'; (try dsimp only); (try k_lift B'); (try k_fold))
  k_steps
  all_goals (refine endB hret ?_ (by k_asm) (by k_asm) (by first | exact fun _ h => h | exact fun _ h => .tail _ h | exact fun _ h => .tail _ (.tail _ h) | exact fun _ h => .tail _ (.tail _ (.tail _ h))))
  all_goals f_lean
  all_goals (apply decide_eq_true; omega)
theorem c_intime (w : World) (news : List (Addr × Obj)) (D : Addr) (y m d : Int) (ta tb tc t1 : Tok) (c : Nat) (hM : (D, tup3 y m d ta tb tc c) ∈ news) (h : (m = 3 ∧ 22 ≤ d ∧ d ≤ 31) ∨ (m = 4 ∧ 1 ≤ d ∧ d ≤ 25)) : CG w 179 3 news [.ref D, .int y t1] (retB news true) := by
  rcases h with ⟨rfl, hd⟩ | ⟨rfl, hd⟩
  · exact c_intime3 w news D y d ta tb tc t1 c hM hd
  · exact c_intime4 w news D y d ta tb tc t1 c hM hd
end
section
local macro_rules | `(tactic| walk_at "none of mine") => `(tactic| skip)
local macro_rules | `(tactic| walk_at "none of mine") => `(tactic| skip)
local macro_rules | `(tactic| walk_at "none of mine") => `(tactic| skip)
local macro_rules | `(tactic| walk_at "none of mine") => `(tactic| skip)
local macro_rules | `(tactic| walk_at "none of mine") => `(tactic| skip)
local macro_rules | `(tactic| walk_at "none of mine") => `(tactic| skip)
local macro_rules | `(tactic| walk_at "none of mine") => `(tactic| skip)
local macro_rules | `(tactic| walk_at "none of mine") => `(tactic| skip)
local macro_rules | `(tactic| walk_at "none of mine") => `(tactic| skip)
local macro_rules | `(tactic| walk_at "none of mine") => `(tactic| skip)
local macro_rules | `(tactic| walk_at "none of mine") => `(tactic| skip)
local macro_rules | `(tactic| walk_at "none of mine") => `(tactic| skip)
local macro_rules | `(tactic| walk_at "none of mine") => `(tactic| skip)
local macro_rules | `(tactic| walk_at "none of mine") => `(tactic| skip)
local macro_rules | `(tactic| walk_at "none of mine") => `(tactic| skip)
local macro_rules | `(tactic| walk_at "none of mine") => `(tactic| skip)
local macro_rules | `(tactic| walk_at "none of mine") => `(tactic| skip)
local macro_rules | `(tactic| walk_at "none of mine") => `(tactic| skip)
local macro_rules | `(tactic| walk_at "none of mine") => `(tactic| skip)
local macro_rules | `(tactic| walk_at "none of mine") => `(tactic| skip)
local macro_rules | `(tactic| walk_at "none of mine") => `(tactic| skip)
local macro_rules | `(tactic| walk_at "none of mine") => `(tactic| skip)
local macro_rules | `(tactic| walk_at "none of mine") => `(tactic| skip)
local macro_rules | `(tactic| walk_at "none of mine") => `(tactic| skip)
local macro_rules | `(tactic| walk_at "none of mine") => `(tactic| skip)
local macro_rules | `(tactic| walk_at "none of mine") => `(tactic| skip)
local macro_rules | `(tactic| walk_at "none of mine") => `(tactic| skip)
local macro_rules | `(tactic| walk_at "none of mine") => `(tactic| skip)
local macro_rules | `(tactic| walk_at "none of mine") => `(tactic| skip)
local macro_rules | `(tactic| walk_at "none of mine") => `(tactic| skip)
local macro_rules | `(tactic| walk_at "none of mine") => `(tactic| skip)
local macro_rules | `(tactic| walk_at "none of mine") => `(tactic| skip)
local macro_rules | `(tactic| walk_at "none of mine") => `(tactic| skip)
local macro_rules | `(tactic| walk_at "none of mine") => `(tactic| skip)
local macro_rules | `(tactic| walk_at "none of mine") => `(tactic| skip)
local macro_rules | `(tactic| walk_at "none of mine") => `(tactic| skip)
local macro_rules | `(tactic| walk_at "none of mine") => `(tactic| skip)
local macro_rules | `(tactic| walk_at "none of mine") => `(tactic| skip)
local macro_rules | `(tactic| walk_at "none of mine") => `(tactic| skip)
local macro_rules | `(tactic| walk_at "none of mine") => `(tactic| skip)
local macro_rules | `(tactic| walk_at "none of mine") => `(tactic| skip)
local macro_rules | `(tactic| walk_at "none of mine") => `(tactic| skip)
theorem ints_two {ws : List Value} {ns : List Int} {a b : Int} (h : IntsAre ws ns) (e : ns = [a, b]) : ∃ ta tb, ws = [.int a ta, .int b tb] := by
  subst e
  cases h with
  | cons _ ta h =>
    cases h with
    | cons _ tb h =>
      cases h
      exact ⟨ta, tb, rfl⟩
theorem sun_w {z : UInt64} {y : Int} (_h : Rg z 1 (2 * wN y - 1) (2 * wN y - 1)) (hy : 1583 ≤ y ∧ y ≤ 2 ^ 31) : wN y % 7 = 6 ∧ (wN y).natAbs ≤ 2 ^ 40 := ⟨w_sun y, wN_bound hy⟩
theorem sun_o {z : UInt64} {y : Int} (_h : Rg z 1 (2 * oN y 0 - 1) (2 * oN y 0 - 1)) (hy : y.natAbs ≤ 2 ^ 31) : oN y 0 % 7 = 6 ∧ (oN y 0).natAbs ≤ 2 ^ 40 := ⟨(e_step (.inl rfl)).1, oN_bound hy (.inl rfl)⟩
theorem sun_e {z : UInt64} {y : Int} (_h : Rg z 1 (2 * oN y 1 - 1) (2 * oN y 1 - 1)) (hy : y.natAbs ≤ 2 ^ 31) : oN y 1 % 7 = 6 ∧ (oN y 1).natAbs ≤ 2 ^ 40 := ⟨(e_step (.inr rfl)).1, oN_bound hy (.inr rfl)⟩
theorem notin4 {prog : Program} {w : World} {A : Around} {E : Value → Shared → Prop} {s : Shared} {t : Addr} {a b c d x : Int} {ta tb tc td : Tok} {z : UInt64} {u : Tok} {Q : Value → Shared → Prop} (hz : Rg z 0 x x) (ht : IsTup s.heap t #[.int a ta, .int b tb, .int c tc, .int d td]) (hx : x = a ∨ x = b ∨ x = c ∨ x = d)
    (h : Q (.bool false) s) : wpAny (model prog w) A (compareOp .NotIn (.float z u) (.ref t)) Q E s :=
  notin_tuple_float hz ht (IntsAre.cons _ _ (IntsAre.cons _ _ (IntsAre.cons _ _ (IntsAre.cons _ _ IntsAre.nil)))) (by rw [any4 hx]; exact h)
local macro_rules | `(tactic| walk_at "call ref") => `(tactic| (k_here; (with_reducible show wpAny _ _ (call (Value.ref 158) _) _ _ _); (repeat ((rename ((_ : Addr) < _ ∧ _) => hA9); clear hA9)); (repeat ((rename ((_ : Addr) < _) => hA9); clear hA9)); (repeat ((rename AllLt _ _ => hA9); clear hA9)); k_dflt (first | (refine' (c_within9 _ _ _ _ _) _ _ _ _ _ _ _ _ _ _ _ _ _ _ _ _ _ _ _ _ _ ?k1 ?k2 ?k3 ?k4 ?k5 ?k6 ?k7 ?k8 ?_; (case k1 => k_asm); (case k2 => k_asm); (case k3 => k_asm); (case k4 => k_asm); (case k5 => k_asm); (case k6 => first | exact rfl | assumption); (case k7 => ktr_room); (case k8 => ktr_units)) | (refine' (c_within6 _ _ _ _ _) _ _ _ _ _ _ _ _ _ _ _ _ _ _ _ _ _ _ _ _ _ ?k1 ?k2 ?k3 ?k4 ?k5 ?k6 ?k7 ?k8 ?_; (case k1 => k_asm); (case k2 => k_asm); (case k3 => k_asm); (case k4 => k_asm); (case k5 => k_asm); (case k6 => first | exact rfl | assumption); (case k7 => ktr_room); (case k8 => ktr_units))); intro n9 hlo9 hhi9 t9 h9 tk9 F9 N9; (try dsimp only); (try k_fold)))
local macro_rules | `(tactic| walk_at "call ref") => `(tactic| (k_here; (with_reducible show wpAny _ _ (call (Value.ref 165) [Value.int _ _, Value.str (Str.ofString "western") _]) _ _ _); (repeat ((rename ((_ : Addr) < _ ∧ _) => hA9); clear hA9)); (repeat ((rename ((_ : Addr) < _) => hA9); clear hA9)); (repeat ((rename AllLt _ _ => hA9); clear hA9)); k_dflt (refine' (c_day_w _ _ _ _ _ ?ka ?kb) _ _ _ _ _ _ _ _ _ _ _ _ _ _ _ _ _ _ _ _ _ ?k1 ?k2 ?k3 ?k4 ?k5 ?k6 ?k7 ?k8 ?_; (case ka => omega); (case kb => omega); (case k1 => k_asm); (case k2 => k_asm); (case k3 => k_asm); (case k4 => k_asm); (case k5 => k_asm); (case k6 => first | exact rfl | assumption); (case k7 => ktr_room); (case k8 => ktr_units)); intro z9 hz9 t9 h9 tk9 F9 N9; (have hs9 := sun_w hz9 (by omega)); (try dsimp only); (try k_fold)))
local macro_rules | `(tactic| walk_at "call ref") => `(tactic| (k_here; (with_reducible show wpAny _ _ (call (Value.ref 165) [Value.int _ _, Value.str (Str.ofString "orthodox") _]) _ _ _); (repeat ((rename ((_ : Addr) < _ ∧ _) => hA9); clear hA9)); (repeat ((rename ((_ : Addr) < _) => hA9); clear hA9)); (repeat ((rename AllLt _ _ => hA9); clear hA9)); k_dflt (refine' (c_day_o _ _ _ _ _ ?ka) _ _ _ _ _ _ _ _ _ _ _ _ _ _ _ _ _ _ _ _ _ ?k1 ?k2 ?k3 ?k4 ?k5 ?k6 ?k7 ?k8 ?_; (case ka => omega); (case k1 => k_asm); (case k2 => k_asm); (case k3 => k_asm); (case k4 => k_asm); (case k5 => k_asm); (case k6 => first | exact rfl | assumption); (case k7 => ktr_room); (case k8 => ktr_units)); intro z9 hz9 t9 h9 tk9 F9 N9; (have hs9 := sun_o hz9 (by omega)); (try dsimp only); (try k_fold)))
local macro_rules | `(tactic| walk_at "call ref") => `(tactic| (k_here; (with_reducible show wpAny _ _ (call (Value.ref 165) [Value.int _ _, Value.str (Str.ofString "eastern") _]) _ _ _); (repeat ((rename ((_ : Addr) < _ ∧ _) => hA9); clear hA9)); (repeat ((rename ((_ : Addr) < _) => hA9); clear hA9)); (repeat ((rename AllLt _ _ => hA9); clear hA9)); k_dflt (refine' (c_day_e _ _ _ _ _ ?ka) _ _ _ _ _ _ _ _ _ _ _ _ _ _ _ _ _ _ _ _ _ ?k1 ?k2 ?k3 ?k4 ?k5 ?k6 ?k7 ?k8 ?_; (case ka => omega); (case k1 => k_asm); (case k2 => k_asm); (case k3 => k_asm); (case k4 => k_asm); (case k5 => k_asm); (case k6 => first | exact rfl | assumption); (case k7 => ktr_room); (case k8 => ktr_units)); intro z9 hz9 t9 h9 tk9 F9 N9; (have hs9 := sun_e hz9 (by omega)); (try dsimp only); (try k_fold)))
local macro_rules | `(tactic| walk_at "call ref") => `(tactic| (k_here; (with_reducible show wpAny _ _ (call (Value.ref 78) _) _ _ _); (repeat ((rename ((_ : Addr) < _ ∧ _) => hA9); clear hA9)); (repeat ((rename ((_ : Addr) < _) => hA9); clear hA9)); (repeat ((rename AllLt _ _ => hA9); clear hA9)); k_dflt (refine' (c_jwday _ _ _ _ _ ?ka ?kb) _ _ _ _ _ _ _ _ _ _ _ _ _ _ _ _ _ _ _ _ _ ?k1 ?k2 ?k3 ?k4 ?k5 ?k6 ?k7 ?k8 ?_; (case ka => assumption); (case kb => omega); (case k1 => k_asm); (case k2 => k_asm); (case k3 => k_asm); (case k4 => k_asm); (case k5 => k_asm); (case k6 => first | exact rfl | assumption); (case k7 => ktr_room); (case k8 => ktr_units)); intro t9 h9 tk9 F9 N9; (try dsimp only); (try k_fold)))
local macro_rules | `(tactic| walk_at "call ref") => `(tactic| (k_here; (with_reducible show wpAny _ _ (call (Value.ref 172) _) _ _ _); (repeat ((rename ((_ : Addr) < _ ∧ _) => hA9); clear hA9)); (repeat ((rename ((_ : Addr) < _) => hA9); clear hA9)); (repeat ((rename AllLt _ _ => hA9); clear hA9)); k_dflt (first | (refine' (c_old_o _ _ _ _ _ ?ka ?kb) _ _ _ _ _ _ _ _ _ _ _ _ _ _ _ _ _ _ _ _ _ ?k1 ?k2 ?k3 ?k4 ?k5 ?k6 ?k7 ?k8 ?_; (case ka => omega); (case kb => exact jm_cases (eM_range (Or.inl rfl)) rfl rfl); (case k1 => k_asm); (case k2 => k_asm); (case k3 => k_asm); (case k4 => k_asm); (case k5 => k_asm); (case k6 => first | exact rfl | assumption); (case k7 => ktr_room); (case k8 => ktr_units)) | (refine' (c_old_e _ _ _ _ _ ?ka ?kb) _ _ _ _ _ _ _ _ _ _ _ _ _ _ _ _ _ _ _ _ _ ?k1 ?k2 ?k3 ?k4 ?k5 ?k6 ?k7 ?k8 ?_; (case ka => omega); (case kb => exact jm_cases (eM_range (Or.inr rfl)) rfl rfl); (case k1 => k_asm); (case k2 => k_asm); (case k3 => k_asm); (case k4 => k_asm); (case k5 => k_asm); (case k6 => first | exact rfl | assumption); (case k7 => ktr_room); (case k8 => ktr_units))); intro y9 m9 d9 hP9 D9 ta9 tb9 tc9 c9 h9 tk9 F9 N9 l9; (obtain ⟨e19, e29, e39⟩ := hP9); (replace e19 := Eq.symm e19); (try subst e19); (try dsimp only); (try k_fold)))
local macro_rules | `(tactic| walk_at "call ref") => `(tactic| (k_here; (with_reducible show wpAny _ _ (call (Value.ref 136) _) _ _ _); (repeat ((rename ((_ : Addr) < _ ∧ _) => hA9); clear hA9)); (repeat ((rename ((_ : Addr) < _) => hA9); clear hA9)); (repeat ((rename AllLt _ _ => hA9); clear hA9)); k_dflt (refine' (c_easter_w _ _ _ _ _ ?ka) _ _ _ _ _ _ _ _ _ _ _ _ _ _ _ _ _ _ _ _ _ ?k1 ?k2 ?k3 ?k4 ?k5 ?k6 ?k7 ?k8 ?_; (case ka => omega); (case k1 => k_asm); (case k2 => k_asm); (case k3 => k_asm); (case k4 => k_asm); (case k5 => k_asm); (case k6 => first | exact rfl | assumption); (case k7 => ktr_room); (case k8 => ktr_units)); intro y9 m9 d9 hP9 D9 ta9 tb9 tc9 c9 h9 tk9 F9 N9 l9; (obtain ⟨e19, hP9⟩ := hP9); subst e19; (try dsimp only); (try k_fold)))
local macro_rules | `(tactic| walk_at "call ref") => `(tactic| (k_here; (with_reducible show wpAny _ _ (call (Value.ref 179) _) _ _ _); (repeat ((rename ((_ : Addr) < _ ∧ _) => hA9); clear hA9)); (repeat ((rename ((_ : Addr) < _) => hA9); clear hA9)); (repeat ((rename AllLt _ _ => hA9); clear hA9)); k_dflt (refine' (c_intime _ _ _ _ _ _ _ _ _ _ _ ?km ?kh) _ _ _ _ _ _ _ _ _ _ _ _ _ _ _ _ _ _ _ _ _ ?k1 ?k2 ?k3 ?k4 ?k5 ?k6 ?k7 ?k8 ?_; (case k1 => k_asm); (case k2 => k_asm); (case k3 => k_asm); (case k4 => k_asm); (case k5 => k_asm); (case k6 => first | exact rfl | assumption); (case k7 => ktr_room); (case k8 => ktr_units); (case km => k_mem); (case kh => first | exact west_time (by with_reducible assumption) | exact e_time (Or.inl rfl) (by with_reducible assumption) (by with_reducible assumption) | exact e_time (Or.inr rfl) (by with_reducible assumption) (by with_reducible assumption))); intro h9 tk9 F9 N9; (try dsimp only); (try k_fold)))
local macro_rules | `(tactic| walk_at "compareOp NotIn float ref") => `(tactic| (k_here; k_dflt (refine' notin4 ?kz ?kt ?kx ?_; (case kz => assumption); (case kt => first | exact News.isTup (by k_asm) (by k_mem) | (refine' tupK (Frag.In.keeps ?X (Fr.keep ?F)) ?l; (case F => k_asm); (case X => k_asm); (case l => k_is))); (case kx => first | exact near_r (by with_reducible assumption) (by omega) (by omega) | exact wstep_r (by with_reducible assumption) (by omega) (by omega) | exact estep0_r (by with_reducible assumption) | exact estep1_r (by with_reducible assumption))); (try dsimp only)))
local macro_rules | `(tactic| walk_at "eval Call Name cons nil") => `(tactic| (k_here; refine Call_ ?_))
local macro_rules | `(tactic| walk_at "eval Call Name") => `(tactic| (k_here; refine Call_ ?_))
local macro_rules | `(tactic| walk_at "subscriptTail") => `(tactic| (k_here; (with_reducible show wpAny _ _ (subscriptTail (PySem.Expr.BinOp _ _ _ _) _ _ _) _ _ _); k_dflt (refine kba_turn (value' := PySem.Expr.Name (PySem.Str.ofString "_") ⟨0, 0, 0, 0⟩) (fun _ => rfl) ?_)))
theorem per_no {m m' d d' y r l : Int} (h : (m == m' && d == d') = false) (h1 : m = eM (y + 532 * r) l / 31) (h2 : d = eM (y + 532 * r) l % 31 + 1) (h3 : m' = eM y l / 31) (h4 : d' = eM y l % 31 + 1) : False := by
  rw [eM_per] at h1 h2
  subst h1 h2 h3 h4
  simp at h
/-- keeps the walk from going on -/
def Stop (p : Prop) : Prop := p
theorem cutQ {α : Type} {prog : Program} {w : World} {A : Around} {c : Sem α} {x : α} {Q0 : α → Shared → Prop} {E : Value → Shared → Prop} {s : Shared} {base : Heap} {L : Addr} {m : Str → Option Value} {news : List (Addr × Obj)} (F : Fr base L s.heap m) (N : News base L s.heap news)
    (h : Stop (∀ Q : α → Shared → Prop, (∀ h' tk' m', Fr base L h' m' → Q x { s with heap := h', toks := tk' }) → News base L s.heap [] → Fr base L s.heap m → wpAny (model prog w) A c Q (fun _ _ => False) s))
    (fin : Stop (∀ h' tk' m', Fr base L h' m' → Q0 x { s with heap := h', toks := tk' })) : wpAny (model prog w) A c Q0 E s :=
  wpAny_mono (h Q0 fin (fun _ hp => nomatch hp) F) (fun _ _ q => q) (fun _ _ e => e.elim)
local macro_rules | `(tactic| walk_at "exec For Tuple List") => `(tactic| ((fail_if_success (with_reducible show wpAny _ _ _ _ (fun _ _ => False) _)); k_here; ((rename Fr _ _ _ _ => F9y); (rename News _ _ _ _ => N9y); (refine cutQ (x := Flow.next) F9y N9y ?_ ?_))))
local macro_rules | `(tactic| walk_at "exec For Tuple List cons nil") => `(tactic| ((fail_if_success (with_reducible show wpAny _ _ _ _ (fun _ _ => False) _)); k_here; ((rename Fr _ _ _ _ => F9y); (rename News _ _ _ _ => N9y); (refine cutQ (x := Flow.next) F9y N9y ?_ ?_))))
local macro_rules | `(tactic| walk_at "exec For") => `(tactic| ((fail_if_success (with_reducible show wpAny _ _ _ _ (fun _ _ => False) _)); k_here; ((rename Fr _ _ _ _ => F9y); (rename News _ _ _ _ => N9y); (refine cutQ (x := Flow.next) F9y N9y ?_ ?_))))
set_option maxRecDepth 100000 in
set_option maxHeartbeats 20000000 in
theorem law_holds : PySem.Challenge.rw_ad5017_01.Holds := hd (by
  k_go0
  k_steps
  (rename IntsAre _ (List.take 2 (List.take 2 _ ++ [0, 0])) => hI9)
  obtain ⟨a9, b9, e9⟩ := two_list _
  obtain ⟨ta9, tb9, e9'⟩ := ints_two hI9 e9
  subst e9'
  k_steps
  case refine_1 =>
    show ∀ Q, _
    intro Q9 fin9 N9x F9x
    revert F9x N9x fin9
    (repeat ((rename Fr _ _ _ _ => hC9); clear hC9))
    (repeat ((rename News _ _ _ _ => hC9); clear hC9))
    (repeat ((rename IntsAre _ _ => hC9); clear hC9))
    (repeat ((rename _ ∧ _ => hC9); clear hC9))
    (repeat ((rename Rg _ _ _ _ => hC9); clear hC9))
    (repeat ((rename _ = _ => hC9); clear hC9))
    (repeat (first | ((rename (List Value → Shared → Prop) => hC9); clear hC9) | ((rename (Value → Shared → Prop) => hC9); clear hC9)))
    (try (rename Ground _ _ _ _ _ _ _ _ _ => hC9; clear hC9))
    (try (rename Flt.MathXP _ _ _ => hC9; clear hC9))
    (try (rename LooseAre _ _ _ => hC9; clear hC9))
    (try (rename Glob _ _ _ _ _ _ _ _ => hC9; clear hC9))
    (try (rename Tables _ _ _ _ => hC9; clear hC9))
    (try (rename TopE _ _ _ _ => hC9; clear hC9))
    (try (rename TopW _ _ _ => hC9; clear hC9))
    (try (rename BMod _ _ _ _ _ => hC9; clear hC9))
    (try (rename Dflts _ _ _ _ => hC9; clear hC9))
    (try (rename Dflts _ _ _ => hC9; clear hC9))
    (try (rename Dflts _ _ _ _ _ => hC9; clear hC9))
    (try (rename Heap.CodeRec _ _ _ => hC9; clear hC9))
    (try (rename Well _ _ _ _ => hC9; clear hC9))
    (try (rename Reads _ _ _ _ => hC9; clear hC9))
    (try (rename ReadsAll _ _ _ _ => hC9; clear hC9))
    (try (rename ReadsAllW _ _ _ _ _ _ => hC9; clear hC9))
    (try (rename Heap.IsList _ _ _ => hC9; clear hC9))
    (try (rename Hook.says _ _ _ => hC9; clear hC9))
    intro fin9 N9x F9x
    (rename (-1000000000 ≤ _) => hlo1)
    (rename (-1000000 ≤ _) => hlo2)
    (rename (_ ≤ (1000000000 : Int)) => hhi1)
    (rename (_ ≤ (1000000 : Int)) => hhi2)
    generalize hn1 : 1583 + (if _ < (0 : Int) then -_ else _) % 817 = near9 at F9x
    generalize hn2 : 1583 + (if _ < (0 : Int) then -_ else _) % 8399 = wide9 at F9x
    have hnear : 1583 ≤ near9 ∧ near9 ≤ 2399 := by omega
    have hwide : 1583 ≤ wide9 ∧ wide9 ≤ 9981 := by omega
    clear hn1 hn2
    generalize hn3 : (1 : Int) + 2 * _ = rounds9 at F9x
    have hrounds : -1999999 ≤ rounds9 ∧ rounds9 ≤ 2000001 := by omega
    clear hn3 hlo2 hhi2
    k_steps
    all_goals (first | exact fin9 _ _ _ (by k_asm) | exact (per_no (by with_reducible assumption) (by with_reducible assumption) (by with_reducible assumption) (by with_reducible assumption) (by with_reducible assumption)).elim)
  all_goals (show ∀ _, _)
  all_goals intro h9z tk9z m9z F9z
  all_goals k_steps)
end
end Mine
theorem PySem.Challenge.cw_ad5017_01_holds : PySem.Challenge.rw_ad5017_01.Holds := by
  exact Mine.law_holds
